import JvmDerived
import JvmDerived.Pilot.@@N@@Statement
import JvmDerived.Pilot.@@N@@Code
set_option linter.unusedVariables false
set_option linter.unusedSimpArgs false
namespace Jvm.Pilot.@@N@@
open Jvm Jvm.ClassFile Sem Op Lib Jvm.Free Jvm.Stand Jvm.LawKit Jvm.RoadKit Bundle Jvm.Pilot.@@N@@.Jvm.D
namespace Wd
section Inv
variable {Z : State} {EL : List (String × Nat)} {n0 : Nat} {vm vm1 : Vm} {h h' : Heap} {WL FL : List Addr}
/-- of tables vm and heap h: the constants EL say their text; the start's cells stand; WL: cells of our own making that are no constant's; FL: other cells -/
def Inv (Z : State) (EL : List (String × Nat)) (n0 : Nat) (vm : Vm) (h : Heap) (WL FL : List Addr) : Prop :=
  (∃ a0, EW Z a0 EL) ∧ CHv Z EL vm h ∧ Old Z n0 h ∧ (∀ x ∈ WL, n0 ≤ x ∧ x < h.size ∧ Safe Z EL vm h x) ∧ WL.Nodup ∧ ∀ y ∈ FL, y < h.size ∧ y ∉ WL
theorem Inv.ext (I : Inv Z EL n0 vm h WL FL) (E : Ext h h') : Inv Z EL n0 vm h' WL FL := by
  obtain ⟨i1, i2, i3, i4, i5, i6⟩ := I
  exact ⟨i1, CHv.ext E i2, i3.ext E, fun x hx => ⟨(i4 x hx).1, Nat.lt_of_lt_of_le (i4 x hx).2.1 E.1, Safe.ext E i2 (i4 x hx).2.2⟩, i5, fun y hy => ⟨Nat.lt_of_lt_of_le (i6 y hy).1 E.1, (i6 y hy).2⟩⟩
theorem Inv.keep {ws : List Addr} (I : Inv Z EL n0 vm h WL FL) (K : Keep h h' ws) (hs : ∀ x ∈ ws, x ∈ WL) : Inv Z EL n0 vm h' WL FL := by
  obtain ⟨i1, i2, i3, i4, i5, i6⟩ := I
  have q : ∀ x ∈ ws, Safe Z EL vm h x := fun x hx => (i4 x (hs x hx)).2.2
  exact ⟨i1, CHv.keep K q i2, i3.keep K (fun x hx => (i4 x (hs x hx)).1), fun x hx => ⟨(i4 x hx).1, Nat.lt_of_lt_of_le (i4 x hx).2.1 K.1, Safe.keep K q i2 (i4 x hx).2.2⟩, i5, fun y hy => ⟨Nat.lt_of_lt_of_le (i6 y hy).1 K.1, (i6 y hy).2⟩⟩
theorem Inv.wr {a : Addr} {sl : Nat} {v : Value} (I : Inv Z EL n0 vm h WL FL) (W : Wr h h' a sl v) (ha : a ∈ WL) : Inv Z EL n0 vm h' WL FL :=
  I.keep (Keep.of_wr W) (allS ha all0)
theorem Inv.new (I : Inv Z EL n0 vm h WL FL) (E : Ext h h') (hlt : h.size < h'.size) : Inv Z EL n0 vm h' (h.size :: WL) FL := by
  have J := I.ext E
  obtain ⟨i1, i2, i3, i4, i5, i6⟩ := I
  obtain ⟨j1, j2, j3, j4, j5, j6⟩ := J
  refine ⟨j1, j2, j3, fun x hx => ?_, ?_, fun y hy => ⟨(j6 y hy).1, fun q => ?_⟩⟩
  · rcases List.mem_cons.mp hx with rfl | hx
    · exact ⟨by rw [← i3.1]; exact i3.2.1, hlt, Safe.ext E i2 (Safe.new (Nat.le_refl _))⟩
    · exact j4 x hx
  · exact List.nodup_cons.mpr ⟨fun q => Nat.lt_irrefl _ (i4 _ q).2.1, j5⟩
  · rcases List.mem_cons.mp q with rfl | q
    · exact Nat.lt_irrefl _ (i6 _ hy).1
    · exact (j6 y hy).2 q
/-- another cell comes into sight -/
theorem Inv.adopt {y : Addr} (I : Inv Z EL n0 vm h WL FL) (h1 : y < h.size) (h2 : y ∉ WL) : Inv Z EL n0 vm h WL (y :: FL) := by
  obtain ⟨i1, i2, i3, i4, i5, i6⟩ := I
  refine ⟨i1, i2, i3, i4, i5, fun x hx => ?_⟩
  rcases List.mem_cons.mp hx with rfl | hx
  · exact ⟨h1, h2⟩
  · exact i6 x hx
/-- a cell of ours is given up -/
theorem Inv.drop {A B : List Addr} {t : Addr} (I : Inv Z EL n0 vm h (A ++ t :: B) FL) : Inv Z EL n0 vm h (A ++ B) (t :: FL) := by
  obtain ⟨i1, i2, i3, i4, i5, i6⟩ := I
  have m : ∀ x, x ∈ A ++ B → x ∈ A ++ t :: B := fun x hx => by
    rcases List.mem_append.mp hx with q | q
    · exact List.mem_append_left _ q
    · exact List.mem_append_right _ (List.mem_cons_of_mem _ q)
  have pm : (A ++ t :: B).Perm (t :: (A ++ B)) := List.perm_middle
  have nd := pm.nodup_iff.mp i5
  obtain ⟨n1, n2⟩ := List.nodup_cons.mp nd
  refine ⟨i1, i2, i3, fun x hx => i4 x (m x hx), n2, fun y hy => ?_⟩
  rcases List.mem_cons.mp hy with rfl | hy
  · exact ⟨(i4 _ (List.mem_append_right _ (List.mem_cons_self ..))).2.1, n1⟩
  · exact ⟨(i6 y hy).1, fun q => (i6 y hy).2 (m y q)⟩
/-- other cells are forgotten -/
theorem Inv.fl {FL2 : List Addr} (I : Inv Z EL n0 vm h WL FL) (q : ∀ y ∈ FL2, y ∈ FL) : Inv Z EL n0 vm h WL FL2 := by
  obtain ⟨i1, i2, i3, i4, i5, i6⟩ := I
  exact ⟨i1, i2, i3, i4, i5, fun y hy => i6 y (q y hy)⟩
theorem Inv.ne {i j : Nat} {a b : Addr} (I : Inv Z EL n0 vm h WL FL) (ha : WL[i]? = some a) (hb : WL[j]? = some b) (q : i ≠ j) : a ≠ b := fun e => by
  obtain ⟨i1, i2, i3, i4, i5, i6⟩ := I
  subst e
  obtain ⟨hi, e1⟩ := List.getElem?_eq_some_iff.mp ha
  obtain ⟨hj, e2⟩ := List.getElem?_eq_some_iff.mp hb
  have pw := List.pairwise_iff_getElem.mp i5
  rcases Nat.lt_or_gt_of_ne q with z | z
  · exact pw i j hi hj z (e1.trans e2.symm)
  · exact pw j i hj hi z (e2.trans e1.symm)
theorem Inv.neF {a b : Addr} (I : Inv Z EL n0 vm h WL FL) (ha : a ∈ FL) (hb : b ∈ WL) : a ≠ b := fun e => by
  subst e; exact (I.2.2.2.2.2 _ ha).2 hb
theorem Inv.neT {A B : List Addr} {a b : Addr} (I : Inv Z EL n0 vm h (A ++ B) FL) (ha : a ∈ A) (hb : b ∈ B) : a ≠ b := fun e => by
  subst e; exact (List.nodup_append.mp I.2.2.2.2.1).2.2 a ha a hb rfl
theorem Inv.ge {a : Addr} (I : Inv Z EL n0 vm h WL FL) (ha : a ∈ WL) : n0 ≤ a := (I.2.2.2.1 a ha).1
theorem Inv.lt {a : Addr} (I : Inv Z EL n0 vm h WL FL) (ha : a ∈ WL) : a < h.size := (I.2.2.2.1 a ha).2.1
theorem Inv.old (I : Inv Z EL n0 vm h WL FL) : Old Z n0 h := I.2.2.1
theorem Inv.n0le (I : Inv Z EL n0 vm h WL FL) : n0 ≤ h.size := by have q := I.old; rw [← q.1]; exact q.2.1
end Inv
section Walk
variable {p : Program} {l : Launch} {e : Env} {R : Room} {s : State} {m : MethodId} {args : Array Value} {below : List Frame} {meth : Method} {c : Code} {T T' : State} {cells slots : Nat} {Z : State} {EL : List (String × Nat)} {n0 : Nat} {own : String} {h h' : Heap} {WL FL : List Addr} {a0 : Array Value}
/-- where the walk stands -/
def WS (p : Program) (l : Launch) (e : Env) (R : Room) (s : State) (m : MethodId) (args : Array Value) (below : List Frame) (meth : Method) (c : Code) (Z : State) (EL : List (String × Nat)) (n0 : Nat) (own : String) (T : State) (h : Heap) (WL FL : List Addr) (cells slots : Nat) : Prop :=
  ∃ (vm0 : Vm) (k0 : Nat) (locs : List Loc), Stand p l e R (s.setVm vm0) m args below meth c T locs cells slots ∧ T.heap = h ∧ s.Since vm0 k0 ∧ k0 ≤ h.size ∧ Z.Warmed39 vm0 ∧ vm0.findClass own = some m.cls ∧ Fr n0 locs ∧ Inv Z EL n0 vm0 h WL FL
theorem WS.here (X : WS p l e R s m args below meth c Z EL n0 own T h WL FL cells slots) : At T m c below := by
  obtain ⟨_, _, _, X, -⟩ := X; exact X.here
theorem WS.hZ (X : WS p l e R s m args below meth c Z EL n0 own T h WL FL cells slots) : ∃ vm0, Inv Z EL n0 vm0 h WL FL := by
  obtain ⟨vm0, _, _, _, _, _, _, _, _, _, I⟩ := X; exact ⟨vm0, I⟩
theorem WS.old (X : WS p l e R s m args below meth c Z EL n0 own T h WL FL cells slots) : Old Z n0 h := by obtain ⟨_, I⟩ := X.hZ; exact I.old
theorem WS.n0le (X : WS p l e R s m args below meth c Z EL n0 own T h WL FL cells slots) : n0 ≤ h.size := by obtain ⟨_, I⟩ := X.hZ; exact I.n0le
theorem WS.ge {a : Addr} (X : WS p l e R s m args below meth c Z EL n0 own T h WL FL cells slots) (ha : a ∈ WL) : n0 ≤ a := by obtain ⟨_, I⟩ := X.hZ; exact I.ge ha
theorem WS.ne {i j : Nat} {a b : Addr} (X : WS p l e R s m args below meth c Z EL n0 own T h WL FL cells slots) (ha : WL[i]? = some a) (hb : WL[j]? = some b) (q : i ≠ j) : a ≠ b := by obtain ⟨_, I⟩ := X.hZ; exact I.ne ha hb q
theorem WS.neF {a b : Addr} (X : WS p l e R s m args below meth c Z EL n0 own T h WL FL cells slots) (ha : a ∈ FL) (hb : b ∈ WL) : a ≠ b := by obtain ⟨_, I⟩ := X.hZ; exact I.neF ha hb
theorem WS.neT {A B : List Addr} {a b : Addr} (X : WS p l e R s m args below meth c Z EL n0 own T h (A ++ B) FL cells slots) (ha : a ∈ A) (hb : b ∈ B) : a ≠ b := by obtain ⟨_, I⟩ := X.hZ; exact I.neT ha hb
theorem WS.sta {C n d : String} {v : Value} (X : WS p l e R s m args below meth c Z EL n0 own T h WL FL cells slots) (F : Sta Z Z.heap C n d v) : Sta Z h C n d v := F.ext X.old.2
theorem WS.drop {A B : List Addr} {t : Addr} (X : WS p l e R s m args below meth c Z EL n0 own T h (A ++ t :: B) FL cells slots) : WS p l e R s m args below meth c Z EL n0 own T h (A ++ B) (t :: FL) cells slots := by
  obtain ⟨vm0, k0, locs, X, eT, hS, hk, hZ, hown, N, I⟩ := X; exact ⟨vm0, k0, locs, X, eT, hS, hk, hZ, hown, N, I.drop⟩
theorem WS.adopt {y : Addr} (X : WS p l e R s m args below meth c Z EL n0 own T h WL FL cells slots) (h1 : y < h.size) (h2 : y ∉ WL) : WS p l e R s m args below meth c Z EL n0 own T h WL (y :: FL) cells slots := by
  obtain ⟨vm0, k0, locs, X, eT, hS, hk, hZ, hown, N, I⟩ := X; exact ⟨vm0, k0, locs, X, eT, hS, hk, hZ, hown, N, I.adopt h1 h2⟩
theorem WS.fl {FL2 : List Addr} (X : WS p l e R s m args below meth c Z EL n0 own T h WL FL cells slots) (q : ∀ y ∈ FL2, y ∈ FL) : WS p l e R s m args below meth c Z EL n0 own T h WL FL2 cells slots := by
  obtain ⟨vm0, k0, locs, X, eT, hS, hk, hZ, hown, N, I⟩ := X; exact ⟨vm0, k0, locs, X, eT, hS, hk, hZ, hown, N, I.fl q⟩
theorem WS.mono {cells' slots' : Nat} (X : WS p l e R s m args below meth c Z EL n0 own T h WL FL cells slots) (h1 : cells ≤ cells') (h2 : slots ≤ slots') : WS p l e R s m args below meth c Z EL n0 own T h WL FL cells' slots' := by
  obtain ⟨vm0, k0, locs, X, eT, hS, hk, hZ, hown, N, I⟩ := X; exact ⟨vm0, k0, locs, X.mono h1 h2, eT, hS, hk, hZ, hown, N, I⟩
/-- what is to be shown from here on -/
def Wo (p : Program) (e : Env) (s : State) (below : List Frame) (Z : State) (EL : List (String × Nat)) (n0 : Nat) (WL0 FL0 : List Addr) (rm : Room) (Q : Option Value → Heap → List Addr → List Addr → Prop) (T : State) (f : JFrame) : Prop :=
  ∃ s₂ o, Steps p.tables e below (T.setTop f) s₂ ∧ s₂.status = .running ∧ Ended s₂ below o ∧ ∃ v L WL' FL', o = .returned v ∧ Inv Z EL n0 s₂.vm s₂.heap (WL' ++ WL0) (FL' ++ FL0) ∧ Fr n0 L ∧ Q v s₂.heap WL' FL' ∧ ReturnedEndW s o s₂ L rm.cells rm.slots
variable {WL0 FL0 : List Addr} {rm : Room} {Q : Option Value → Heap → List Addr → List Addr → Prop} {f f' : JFrame} {pc : Nat} {Ls : Array Slot} {st rest : List Value}
theorem Wo.by (k : ∀ t, Steps p.tables e below (T'.setTop f') t → Steps p.tables e below (T.setTop f) t) (o : Wo p e s below Z EL n0 WL0 FL0 rm Q T' f') : Wo p e s below Z EL n0 WL0 FL0 rm Q T f := by
  obtain ⟨s₂, o, h1, r⟩ := o; exact ⟨s₂, o, k _ h1, r⟩
theorem Wo.cast (q : f = f') (o : Wo p e s below Z EL n0 WL0 FL0 rm Q T f') : Wo p e s below Z EL n0 WL0 FL0 rm Q T f := q ▸ o
/-- a method's contract -/
def Ct (l : Launch) (Z : State) (EL : List (String × Nat)) (n0 : Nat) (y : MethodName) (bytes : ByteArray) (maxL : Nat) (ret : Option FieldType) (rm : Room) (as' : Array Value) (h : Heap) (WL FL : List Addr) (Q : Option Value → Heap → List Addr → List Addr → Prop) : Prop :=
  ∀ ws : List Jvm.Cond, MetFree l y (head1 (Jvm.Cond.code y bytes maxL ret :: ws) rm) (fun a U => a = as' ∧ Z.Warmed39 U.vm ∧ U.heap = h ∧ Inv Z EL n0 U.vm h WL FL) (fun _ _ _ _ _ => True)
    (fun _ U o U' => ∃ v L WL' FL', o = .returned v ∧ Inv Z EL n0 U'.vm U'.heap (WL' ++ WL) (FL' ++ FL) ∧ Fr n0 L ∧ Q v U'.heap WL' FL' ∧ ReturnedEndW U o U' L rm.cells rm.slots)
theorem Ct.of {y : MethodName} {bytes : ByteArray} {maxL : Nat} {ret : Option FieldType} {as' : Array Value} (hy : plainFor y = true)
    (body : ∀ p e s m below meth c s₁, p.tables.exec = Jvm.exec → c.code = bytes → c.maxLocals = maxL → meth.name = y.name → meth.sig.returnType = ret → meth.locks = false →
      WS p l e rm s m as' below meth c Z EL n0 y.cls s₁ h WL FL 0 0 → Wo p e s below Z EL n0 WL FL rm Q s₁ (entryFrame m as' maxL)) :
    Ct l Z EL n0 y bytes maxL ret rm as' h WL FL Q := by
  intro ws
  refine MetFree.of_bodySF hy hisR ?_
  intro p e s m args below meth c s₁ Bd hml hP _
  obtain ⟨rfl, hZ, hh, I⟩ := hP
  have e0 : s₁.heap = h := by rw [← hh, Bd.state]; rfl
  obtain ⟨s₂, o, h1, h2, h3, h4⟩ := body p e s m below meth c s₁ Bd.exec Bd.bytes hml (name_of_methodNamed Bd.named Bd.method).1 Bd.returns (BodyLoose.notSynchronized Bd)
    ⟨s.vm, h.size, [], Stand.of_body Bd, e0, (State.WarmedH.refl s).since _, Nat.le_refl _, hZ, findClass_of_methodNamed Bd.named, Fr.nil n0, I⟩
  exact ⟨s₂, o, h1, h2, h3, h4⟩
theorem Ct.mono {y : MethodName} {bytes : ByteArray} {maxL : Nat} {ret : Option FieldType} {as' : Array Value} {Q2 : Option Value → Heap → List Addr → List Addr → Prop} (C : Ct l Z EL n0 y bytes maxL ret rm as' h WL FL Q) (hq : ∀ v h' WL' FL', Q v h' WL' FL' → Q2 v h' WL' FL') : Ct l Z EL n0 y bytes maxL ret rm as' h WL FL Q2 := by
  intro ws p e ha hc hk s m args below hf happ hP hK
  obtain ⟨n, o, h1, h2, h3, v, L, WL', FL', r1, r2, r3, r4, r5⟩ := C ws p e ha hc hk s m args below hf happ hP hK
  exact ⟨n, o, h1, h2, h3, v, L, WL', FL', r1, r2, r3, hq _ _ _ _ r4, r5⟩
/-- the tables at hand -/
theorem WS.invT {vm0 : Vm} {locs : List Loc} (X : Stand p l e R (s.setVm vm0) m args below meth c T locs cells slots) (hZ : Z.Warmed39 vm0) (I : Inv Z EL n0 vm0 h WL FL) : Inv Z EL n0 T.vm h WL FL := by
  obtain ⟨⟨a0, i1⟩, i2, i3, i4, i5, i6⟩ := I
  have A := CHv.at X hZ i1 i2
  exact ⟨⟨a0, i1⟩, A.1, i3, fun x hx => ⟨(i4 x hx).1, (i4 x hx).2.1, A.safe (i4 x hx).2.1 (i4 x hx).2.2⟩, i5, i6⟩
theorem WS.retV {WL' FL' : List Addr} (X : WS p l e R s m args below meth c Z EL n0 own T h (WL' ++ WL0) (FL' ++ FL0) cells slots) (hx : p.tables.exec = Jvm.exec) (hret : meth.sig.returnType = none) (hlk : meth.locks = false) (hd : decode c.code pc = .ok (.return_, 1)) (hc : cells ≤ rm.cells) (hl : slots ≤ rm.slots) (hQ : Q none h WL' FL') :
    Wo p e s below Z EL n0 WL0 FL0 rm Q T (mkF m pc Ls []) := by
  obtain ⟨vm0, k0, locs, X, eT, hS, hk, hZ, hown, N, I⟩ := X
  obtain ⟨fs, hr, hrun, hend, hE⟩ := (X.mono hc hl).leaveW hS (by rw [eT]; exact hk) (v := none) (fun _ => rfl) hlk
  subst eT
  exact ⟨_, _, X.returnOut hx hret hd hr, hrun, hend, none, locs, WL', FL', rfl, (show Inv Z EL n0 T.vm T.heap (WL' ++ WL0) (FL' ++ FL0) from WS.invT X hZ I), N, hQ, hE⟩
theorem WS.retN {WL' FL' : List Addr} {z : Int32} {t : FieldType} (X : WS p l e R s m args below meth c Z EL n0 own T h (WL' ++ WL0) (FL' ++ FL0) cells slots) (hx : p.tables.exec = Jvm.exec) (hret : meth.sig.returnType = some t) (ht : t = .boolean ∨ t = .byte ∨ t = .char ∨ t = .short) (hlk : meth.locks = false) (hd : decode c.code pc = .ok (.ireturn, 1)) (hc : cells ≤ rm.cells) (hl : slots ≤ rm.slots) (hQ : Q (some (.int (nar t z))) h WL' FL') :
    Wo p e s below Z EL n0 WL0 FL0 rm Q T (mkF m pc Ls (.int z :: rest)) := by
  obtain ⟨vm0, k0, locs, X, eT, hS, hk, hZ, hown, N, I⟩ := X
  obtain ⟨fs, hr, hrun, hend, hE⟩ := (X.mono hc hl).leaveW hS (by rw [eT]; exact hk) (v := some (.int (nar t z))) (fun q => by rw [hret] at q; cases q) hlk
  subst eT
  exact ⟨_, _, RoadKit.retN X hx hret ht hd hr, hrun, hend, _, locs, WL', FL', rfl, (show Inv Z EL n0 T.vm T.heap (WL' ++ WL0) (FL' ++ FL0) from WS.invT X hZ I), N, hQ, hE⟩
theorem WS.ret {WL' FL' : List Addr} {w : Value} {t : FieldType} {i : Instr} (X : WS p l e R s m args below meth c Z EL n0 own T h (WL' ++ WL0) (FL' ++ FL0) cells slots) (hx : p.tables.exec = Jvm.exec) (hret : meth.sig.returnType = some t) (hn : narrow t w = w)
    (hi : (i = .ireturn ∧ (t = .int ∨ t = .boolean ∨ t = .byte ∨ t = .char ∨ t = .short) ∧ ∃ z, w = .int z) ∨ (i = .lreturn ∧ t = .long ∧ ∃ z, w = .long z) ∨ (i = .dreturn ∧ t = .double ∧ ∃ z, w = .double z) ∨ (i = .freturn ∧ t = .float ∧ ∃ z, w = .float z) ∨ (i = .areturn ∧ t.isReference = true ∧ w.isRef = true))
    (hlk : meth.locks = false) (hd : decode c.code pc = .ok (i, 1)) (hc : cells ≤ rm.cells) (hl : slots ≤ rm.slots) (hQ : Q (some w) h WL' FL') :
    Wo p e s below Z EL n0 WL0 FL0 rm Q T (mkF m pc Ls (w :: rest)) := by
  obtain ⟨vm0, k0, locs, X, eT, hS, hk, hZ, hown, N, I⟩ := X
  obtain ⟨fs, hr, hrun, hend, hE⟩ := (X.mono hc hl).leaveW hS (by rw [eT]; exact hk) (v := some w) (fun q => by rw [hret] at q; cases q) hlk
  subst eT
  exact ⟨_, _, retOut X hx hret hn hi hd hr, hrun, hend, _, locs, WL', FL', rfl, (show Inv Z EL n0 T.vm T.heap (WL' ++ WL0) (FL' ++ FL0) from WS.invT X hZ I), N, hQ, hE⟩
theorem WS.retA {WL' FL' : List Addr} {w : Value} {t : FieldType} (X : WS p l e R s m args below meth c Z EL n0 own T h (WL' ++ WL0) (FL' ++ FL0) cells slots) (hx : p.tables.exec = Jvm.exec) (hret : meth.sig.returnType = some t) (ht : t.isReference = true) (hw : w.isRef = true) (hlk : meth.locks = false) (hd : decode c.code pc = .ok (.areturn, 1)) (hc : cells ≤ rm.cells) (hl : slots ≤ rm.slots) (hQ : Q (some w) h WL' FL') :
    Wo p e s below Z EL n0 WL0 FL0 rm Q T (mkF m pc Ls (w :: rest)) :=
  X.ret hx hret (by cases t <;> first | (cases ht; done) | (rcases ref_cases hw with rfl | ⟨a, rfl⟩ <;> rfl)) (Or.inr (Or.inr (Or.inr (Or.inr ⟨rfl, ht, hw⟩)))) hlk hd hc hl hQ
theorem WS.retI {WL' FL' : List Addr} {z : Int32} (X : WS p l e R s m args below meth c Z EL n0 own T h (WL' ++ WL0) (FL' ++ FL0) cells slots) (hx : p.tables.exec = Jvm.exec) (hret : meth.sig.returnType = some .int) (hlk : meth.locks = false) (hd : decode c.code pc = .ok (.ireturn, 1)) (hc : cells ≤ rm.cells) (hl : slots ≤ rm.slots) (hQ : Q (some (.int z)) h WL' FL') :
    Wo p e s below Z EL n0 WL0 FL0 rm Q T (mkF m pc Ls (.int z :: rest)) :=
  X.ret hx hret rfl (Or.inl ⟨rfl, Or.inl rfl, z, rfl⟩) hlk hd hc hl hQ
/-- plain steps -/
theorem P.iloadN (X : WS p l e R s m args below meth c Z EL n0 own T h WL FL cells slots) (hx : p.tables.exec = Jvm.exec) (pc' : Nat) {k : Fin 4} {v : Int32} (hd : decode c.code pc = .ok (.iload_n k, 1)) (hl : Ls[k.val]? = some (.val (.int v))) (hp : pc + 1 = pc')
    (o : Wo p e s below Z EL n0 WL0 FL0 rm Q T (mkF m pc' Ls (.int v :: st))) : Wo p e s below Z EL n0 WL0 FL0 rm Q T (mkF m pc Ls (st)) := by
  subst hp; exact Wo.by (fun _ q => XS.iloadN X.here hx rfl hd hl q) o
theorem P.iload (X : WS p l e R s m args below meth c Z EL n0 own T h WL FL cells slots) (hx : p.tables.exec = Jvm.exec) (pc' : Nat) {k : Nat} {v : Int32} (hd : decode c.code pc = .ok (.iload k, 2)) (hl : Ls[k]? = some (.val (.int v))) (hp : pc + 2 = pc')
    (o : Wo p e s below Z EL n0 WL0 FL0 rm Q T (mkF m pc' Ls (.int v :: st))) : Wo p e s below Z EL n0 WL0 FL0 rm Q T (mkF m pc Ls (st)) := by
  subst hp; exact Wo.by (fun _ q => XS.iload X.here hx rfl hd hl q) o
theorem P.aloadN (X : WS p l e R s m args below meth c Z EL n0 own T h WL FL cells slots) (hx : p.tables.exec = Jvm.exec) (pc' : Nat) {k : Fin 4} {v : Value} (hd : decode c.code pc = .ok (.aload_n k, 1)) (hl : Ls[k.val]? = some (.val v)) (hv : v.isRef = true) (hp : pc + 1 = pc')
    (o : Wo p e s below Z EL n0 WL0 FL0 rm Q T (mkF m pc' Ls (v :: st))) : Wo p e s below Z EL n0 WL0 FL0 rm Q T (mkF m pc Ls (st)) := by
  subst hp; exact Wo.by (fun _ q => XS.aloadN X.here hx rfl hd hl hv q) o
theorem P.aload (X : WS p l e R s m args below meth c Z EL n0 own T h WL FL cells slots) (hx : p.tables.exec = Jvm.exec) (pc' : Nat) {k : Nat} {v : Value} (hd : decode c.code pc = .ok (.aload k, 2)) (hl : Ls[k]? = some (.val v)) (hv : v.isRef = true) (hp : pc + 2 = pc')
    (o : Wo p e s below Z EL n0 WL0 FL0 rm Q T (mkF m pc' Ls (v :: st))) : Wo p e s below Z EL n0 WL0 FL0 rm Q T (mkF m pc Ls (st)) := by
  subst hp; exact Wo.by (fun _ q => XS.aload X.here hx rfl hd hl hv q) o
theorem P.istoreN (X : WS p l e R s m args below meth c Z EL n0 own T h WL FL cells slots) (hx : p.tables.exec = Jvm.exec) (pc' : Nat) {k : Fin 4} {x : Int32} (L' : Array Slot) (hd : decode c.code pc = .ok (.istore_n k, 1)) (hl : storeLocals Ls k.val (.int x) = some L') (hp : pc + 1 = pc')
    (o : Wo p e s below Z EL n0 WL0 FL0 rm Q T (mkF m pc' L' (st))) : Wo p e s below Z EL n0 WL0 FL0 rm Q T (mkF m pc Ls (.int x :: st)) := by
  subst hp; exact Wo.by (fun _ q => XS.istoreN X.here hx rfl hd rfl hl q) o
theorem P.istore (X : WS p l e R s m args below meth c Z EL n0 own T h WL FL cells slots) (hx : p.tables.exec = Jvm.exec) (pc' : Nat) {k : Nat} {x : Int32} (L' : Array Slot) (hd : decode c.code pc = .ok (.istore k, 2)) (hl : storeLocals Ls k (.int x) = some L') (hp : pc + 2 = pc')
    (o : Wo p e s below Z EL n0 WL0 FL0 rm Q T (mkF m pc' L' (st))) : Wo p e s below Z EL n0 WL0 FL0 rm Q T (mkF m pc Ls (.int x :: st)) := by
  subst hp; exact Wo.by (fun _ q => XS.istore X.here hx rfl hd rfl hl q) o
theorem P.astoreN (X : WS p l e R s m args below meth c Z EL n0 own T h WL FL cells slots) (hx : p.tables.exec = Jvm.exec) (pc' : Nat) {k : Fin 4} {x : Value} (L' : Array Slot) (hd : decode c.code pc = .ok (.astore_n k, 1)) (hv : x.isRef = true) (hl : storeLocals Ls k.val x = some L') (hp : pc + 1 = pc')
    (o : Wo p e s below Z EL n0 WL0 FL0 rm Q T (mkF m pc' L' (st))) : Wo p e s below Z EL n0 WL0 FL0 rm Q T (mkF m pc Ls (x :: st)) := by
  subst hp; exact Wo.by (fun _ q => XS.astoreN X.here hx rfl hd rfl hv hl q) o
theorem P.astore (X : WS p l e R s m args below meth c Z EL n0 own T h WL FL cells slots) (hx : p.tables.exec = Jvm.exec) (pc' : Nat) {k : Nat} {x : Value} (L' : Array Slot) (hd : decode c.code pc = .ok (.astore k, 2)) (hv : x.isRef = true) (hl : storeLocals Ls k x = some L') (hp : pc + 2 = pc')
    (o : Wo p e s below Z EL n0 WL0 FL0 rm Q T (mkF m pc' L' (st))) : Wo p e s below Z EL n0 WL0 FL0 rm Q T (mkF m pc Ls (x :: st)) := by
  subst hp; exact Wo.by (fun _ q => XS.astore X.here hx rfl hd rfl hv hl q) o
theorem P.iconst (X : WS p l e R s m args below meth c Z EL n0 own T h WL FL cells slots) (hx : p.tables.exec = Jvm.exec) (pc' : Nat) (z : Int32) {i : Int} (hd : decode c.code pc = .ok (.iconst i, 1)) (hz : Int32.ofInt i = z) (hp : pc + 1 = pc')
    (o : Wo p e s below Z EL n0 WL0 FL0 rm Q T (mkF m pc' Ls (.int z :: st))) : Wo p e s below Z EL n0 WL0 FL0 rm Q T (mkF m pc Ls (st)) := by
  subst hp; subst hz; exact Wo.by (fun _ q => XS.iconst X.here hx rfl hd q) o
theorem P.bipush (X : WS p l e R s m args below meth c Z EL n0 own T h WL FL cells slots) (hx : p.tables.exec = Jvm.exec) (pc' : Nat) (z : Int32) {i : Int} (hd : decode c.code pc = .ok (.bipush i, 2)) (hz : (Int8.ofInt i).toInt32 = z) (hp : pc + 2 = pc')
    (o : Wo p e s below Z EL n0 WL0 FL0 rm Q T (mkF m pc' Ls (.int z :: st))) : Wo p e s below Z EL n0 WL0 FL0 rm Q T (mkF m pc Ls (st)) := by
  subst hp; subst hz; exact Wo.by (fun _ q => XS.bipush X.here hx rfl hd q) o
theorem P.sipush (X : WS p l e R s m args below meth c Z EL n0 own T h WL FL cells slots) (hx : p.tables.exec = Jvm.exec) (pc' : Nat) (z : Int32) {i : Int} (hd : decode c.code pc = .ok (.sipush i, 3)) (hz : (Int16.ofInt i).toInt32 = z) (hp : pc + 3 = pc')
    (o : Wo p e s below Z EL n0 WL0 FL0 rm Q T (mkF m pc' Ls (.int z :: st))) : Wo p e s below Z EL n0 WL0 FL0 rm Q T (mkF m pc Ls (st)) := by
  subst hp; subst hz; exact Wo.by (fun _ q => XS.sipush X.here hx rfl hd q) o
theorem P.aconstNull (X : WS p l e R s m args below meth c Z EL n0 own T h WL FL cells slots) (hx : p.tables.exec = Jvm.exec) (pc' : Nat) (hd : decode c.code pc = .ok (.aconst_null, 1))  (hp : pc + 1 = pc')
    (o : Wo p e s below Z EL n0 WL0 FL0 rm Q T (mkF m pc' Ls (.null :: st))) : Wo p e s below Z EL n0 WL0 FL0 rm Q T (mkF m pc Ls (st)) := by
  subst hp; exact Wo.by (fun _ q => XS.aconstNull X.here hx rfl hd q) o
theorem P.iadd (X : WS p l e R s m args below meth c Z EL n0 own T h WL FL cells slots) (hx : p.tables.exec = Jvm.exec) (pc' : Nat) {x y z : Int32} (hd : decode c.code pc = .ok (.iadd, 1)) (hz : x + y = z) (hp : pc + 1 = pc')
    (o : Wo p e s below Z EL n0 WL0 FL0 rm Q T (mkF m pc' Ls (.int z :: st))) : Wo p e s below Z EL n0 WL0 FL0 rm Q T (mkF m pc Ls (.int y :: .int x :: st)) := by
  subst hp; subst hz; exact Wo.by (fun _ q => XS.iadd X.here hx rfl hd rfl q) o
theorem P.isub (X : WS p l e R s m args below meth c Z EL n0 own T h WL FL cells slots) (hx : p.tables.exec = Jvm.exec) (pc' : Nat) {x y z : Int32} (hd : decode c.code pc = .ok (.isub, 1)) (hz : x - y = z) (hp : pc + 1 = pc')
    (o : Wo p e s below Z EL n0 WL0 FL0 rm Q T (mkF m pc' Ls (.int z :: st))) : Wo p e s below Z EL n0 WL0 FL0 rm Q T (mkF m pc Ls (.int y :: .int x :: st)) := by
  subst hp; subst hz; exact Wo.by (fun _ q => XS.isub X.here hx rfl hd rfl q) o
theorem P.imul (X : WS p l e R s m args below meth c Z EL n0 own T h WL FL cells slots) (hx : p.tables.exec = Jvm.exec) (pc' : Nat) {x y z : Int32} (hd : decode c.code pc = .ok (.imul, 1)) (hz : x * y = z) (hp : pc + 1 = pc')
    (o : Wo p e s below Z EL n0 WL0 FL0 rm Q T (mkF m pc' Ls (.int z :: st))) : Wo p e s below Z EL n0 WL0 FL0 rm Q T (mkF m pc Ls (.int y :: .int x :: st)) := by
  subst hp; subst hz; exact Wo.by (fun _ q => XS.imul X.here hx rfl hd rfl q) o
theorem P.iand (X : WS p l e R s m args below meth c Z EL n0 own T h WL FL cells slots) (hx : p.tables.exec = Jvm.exec) (pc' : Nat) {x y z : Int32} (hd : decode c.code pc = .ok (.iand, 1)) (hz : x &&& y = z) (hp : pc + 1 = pc')
    (o : Wo p e s below Z EL n0 WL0 FL0 rm Q T (mkF m pc' Ls (.int z :: st))) : Wo p e s below Z EL n0 WL0 FL0 rm Q T (mkF m pc Ls (.int y :: .int x :: st)) := by
  subst hp; subst hz; exact Wo.by (fun _ q => XS.iand X.here hx rfl hd rfl q) o
theorem P.ior (X : WS p l e R s m args below meth c Z EL n0 own T h WL FL cells slots) (hx : p.tables.exec = Jvm.exec) (pc' : Nat) {x y z : Int32} (hd : decode c.code pc = .ok (.ior, 1)) (hz : x ||| y = z) (hp : pc + 1 = pc')
    (o : Wo p e s below Z EL n0 WL0 FL0 rm Q T (mkF m pc' Ls (.int z :: st))) : Wo p e s below Z EL n0 WL0 FL0 rm Q T (mkF m pc Ls (.int y :: .int x :: st)) := by
  subst hp; subst hz; exact Wo.by (fun _ q => XS.ior X.here hx rfl hd rfl q) o
theorem P.ixor (X : WS p l e R s m args below meth c Z EL n0 own T h WL FL cells slots) (hx : p.tables.exec = Jvm.exec) (pc' : Nat) {x y z : Int32} (hd : decode c.code pc = .ok (.ixor, 1)) (hz : x ^^^ y = z) (hp : pc + 1 = pc')
    (o : Wo p e s below Z EL n0 WL0 FL0 rm Q T (mkF m pc' Ls (.int z :: st))) : Wo p e s below Z EL n0 WL0 FL0 rm Q T (mkF m pc Ls (.int y :: .int x :: st)) := by
  subst hp; subst hz; exact Wo.by (fun _ q => XS.ixor X.here hx rfl hd rfl q) o
theorem P.ishl (X : WS p l e R s m args below meth c Z EL n0 own T h WL FL cells slots) (hx : p.tables.exec = Jvm.exec) (pc' : Nat) {x y z : Int32} (hd : decode c.code pc = .ok (.ishl, 1)) (hz : x <<< (y &&& 31) = z) (hp : pc + 1 = pc')
    (o : Wo p e s below Z EL n0 WL0 FL0 rm Q T (mkF m pc' Ls (.int z :: st))) : Wo p e s below Z EL n0 WL0 FL0 rm Q T (mkF m pc Ls (.int y :: .int x :: st)) := by
  subst hp; subst hz; exact Wo.by (fun _ q => XS.ishl X.here hx rfl hd rfl q) o
theorem P.ishr (X : WS p l e R s m args below meth c Z EL n0 own T h WL FL cells slots) (hx : p.tables.exec = Jvm.exec) (pc' : Nat) {x y z : Int32} (hd : decode c.code pc = .ok (.ishr, 1)) (hz : x >>> (y &&& 31) = z) (hp : pc + 1 = pc')
    (o : Wo p e s below Z EL n0 WL0 FL0 rm Q T (mkF m pc' Ls (.int z :: st))) : Wo p e s below Z EL n0 WL0 FL0 rm Q T (mkF m pc Ls (.int y :: .int x :: st)) := by
  subst hp; subst hz; exact Wo.by (fun _ q => XS.ishr X.here hx rfl hd rfl q) o
theorem P.iushr (X : WS p l e R s m args below meth c Z EL n0 own T h WL FL cells slots) (hx : p.tables.exec = Jvm.exec) (pc' : Nat) {x y z : Int32} (hd : decode c.code pc = .ok (.iushr, 1)) (hz : (x.toUInt32 >>> (y &&& 31).toUInt32).toInt32 = z) (hp : pc + 1 = pc')
    (o : Wo p e s below Z EL n0 WL0 FL0 rm Q T (mkF m pc' Ls (.int z :: st))) : Wo p e s below Z EL n0 WL0 FL0 rm Q T (mkF m pc Ls (.int y :: .int x :: st)) := by
  subst hp; subst hz; exact Wo.by (fun _ q => XS.iushr X.here hx rfl hd rfl q) o
theorem P.i2c (X : WS p l e R s m args below meth c Z EL n0 own T h WL FL cells slots) (hx : p.tables.exec = Jvm.exec) (pc' : Nat) {x z : Int32} (hd : decode c.code pc = .ok (.i2c, 1)) (hz : x.toUInt32.toUInt16.toUInt32.toInt32 = z) (hp : pc + 1 = pc')
    (o : Wo p e s below Z EL n0 WL0 FL0 rm Q T (mkF m pc' Ls (.int z :: st))) : Wo p e s below Z EL n0 WL0 FL0 rm Q T (mkF m pc Ls (.int x :: st)) := by
  subst hp; subst hz; exact Wo.by (fun _ q => XS.i2c X.here hx rfl hd rfl q) o
theorem P.i2b (X : WS p l e R s m args below meth c Z EL n0 own T h WL FL cells slots) (hx : p.tables.exec = Jvm.exec) (pc' : Nat) {x z : Int32} (hd : decode c.code pc = .ok (.i2b, 1)) (hz : x.toInt8.toInt32 = z) (hp : pc + 1 = pc')
    (o : Wo p e s below Z EL n0 WL0 FL0 rm Q T (mkF m pc' Ls (.int z :: st))) : Wo p e s below Z EL n0 WL0 FL0 rm Q T (mkF m pc Ls (.int x :: st)) := by
  subst hp; subst hz; exact Wo.by (fun _ q => XS.i2b X.here hx rfl hd rfl q) o
theorem P.i2s (X : WS p l e R s m args below meth c Z EL n0 own T h WL FL cells slots) (hx : p.tables.exec = Jvm.exec) (pc' : Nat) {x z : Int32} (hd : decode c.code pc = .ok (.i2s, 1)) (hz : x.toInt16.toInt32 = z) (hp : pc + 1 = pc')
    (o : Wo p e s below Z EL n0 WL0 FL0 rm Q T (mkF m pc' Ls (.int z :: st))) : Wo p e s below Z EL n0 WL0 FL0 rm Q T (mkF m pc Ls (.int x :: st)) := by
  subst hp; subst hz; exact Wo.by (fun _ q => XS.i2s X.here hx rfl hd rfl q) o
theorem P.ineg (X : WS p l e R s m args below meth c Z EL n0 own T h WL FL cells slots) (hx : p.tables.exec = Jvm.exec) (pc' : Nat) {x z : Int32} (hd : decode c.code pc = .ok (.ineg, 1)) (hz : -x = z) (hp : pc + 1 = pc')
    (o : Wo p e s below Z EL n0 WL0 FL0 rm Q T (mkF m pc' Ls (.int z :: st))) : Wo p e s below Z EL n0 WL0 FL0 rm Q T (mkF m pc Ls (.int x :: st)) := by
  subst hp; subst hz; exact Wo.by (fun _ q => XS.ineg X.here hx rfl hd rfl q) o
theorem P.idiv (X : WS p l e R s m args below meth c Z EL n0 own T h WL FL cells slots) (hx : p.tables.exec = Jvm.exec) (pc' : Nat) {x y z : Int32} (hd : decode c.code pc = .ok (.idiv, 1)) (hy : y ≠ 0) (hz : x / y = z) (hp : pc + 1 = pc')
    (o : Wo p e s below Z EL n0 WL0 FL0 rm Q T (mkF m pc' Ls (.int z :: st))) : Wo p e s below Z EL n0 WL0 FL0 rm Q T (mkF m pc Ls (.int y :: .int x :: st)) := by
  subst hp; subst hz; exact Wo.by (fun _ q => XS.idiv X.here hx rfl hd rfl hy q) o
theorem P.irem (X : WS p l e R s m args below meth c Z EL n0 own T h WL FL cells slots) (hx : p.tables.exec = Jvm.exec) (pc' : Nat) {x y z : Int32} (hd : decode c.code pc = .ok (.irem, 1)) (hy : y ≠ 0) (hz : x % y = z) (hp : pc + 1 = pc')
    (o : Wo p e s below Z EL n0 WL0 FL0 rm Q T (mkF m pc' Ls (.int z :: st))) : Wo p e s below Z EL n0 WL0 FL0 rm Q T (mkF m pc Ls (.int y :: .int x :: st)) := by
  subst hp; subst hz; exact Wo.by (fun _ q => XS.irem X.here hx rfl hd rfl hy (by rw [irem_eq_mod]; exact q)) o
theorem P.iinc (X : WS p l e R s m args below meth c Z EL n0 own T h WL FL cells slots) (hx : p.tables.exec = Jvm.exec) (pc' : Nat) {k : Nat} {i : Int} {x : Int32} (L' : Array Slot) (hd : decode c.code pc = .ok (.iinc k i, 3)) (hl : Ls[k]? = some (.val (.int x))) (hl' : storeLocals Ls k (.int (x + Int32.ofInt i)) = some L') (hp : pc + 3 = pc')
    (o : Wo p e s below Z EL n0 WL0 FL0 rm Q T (mkF m pc' L' (st))) : Wo p e s below Z EL n0 WL0 FL0 rm Q T (mkF m pc Ls (st)) := by
  subst hp; exact Wo.by (fun _ q => XS.iinc X.here hx rfl hd hl hl' q) o
theorem P.dup (X : WS p l e R s m args below meth c Z EL n0 own T h WL FL cells slots) (hx : p.tables.exec = Jvm.exec) (pc' : Nat) {x : Value} (hd : decode c.code pc = .ok (.dup, 1)) (hc : x.category = 1) (hp : pc + 1 = pc')
    (o : Wo p e s below Z EL n0 WL0 FL0 rm Q T (mkF m pc' Ls (x :: x :: st))) : Wo p e s below Z EL n0 WL0 FL0 rm Q T (mkF m pc Ls (x :: st)) := by
  subst hp; exact Wo.by (fun _ q => XS.dup X.here hx rfl hd rfl hc q) o
theorem P.pop (X : WS p l e R s m args below meth c Z EL n0 own T h WL FL cells slots) (hx : p.tables.exec = Jvm.exec) (pc' : Nat) {x : Value} (hd : decode c.code pc = .ok (.pop, 1)) (hc : x.category = 1) (hp : pc + 1 = pc')
    (o : Wo p e s below Z EL n0 WL0 FL0 rm Q T (mkF m pc' Ls (st))) : Wo p e s below Z EL n0 WL0 FL0 rm Q T (mkF m pc Ls (x :: st)) := by
  subst hp; exact Wo.by (fun _ q => XS.pop X.here hx rfl hd rfl hc q) o
theorem P.dupX1 (X : WS p l e R s m args below meth c Z EL n0 own T h WL FL cells slots) (hx : p.tables.exec = Jvm.exec) (pc' : Nat) {x y : Value} (hd : decode c.code pc = .ok (.dup_x1, 1)) (hc : x.category = 1) (hc' : y.category = 1) (hp : pc + 1 = pc')
    (o : Wo p e s below Z EL n0 WL0 FL0 rm Q T (mkF m pc' Ls (x :: y :: x :: st))) : Wo p e s below Z EL n0 WL0 FL0 rm Q T (mkF m pc Ls (x :: y :: st)) := by
  subst hp; exact Wo.by (fun _ q => XS.dupX1 X.here hx rfl hd rfl hc hc' q) o
theorem P.goto (X : WS p l e R s m args below meth c Z EL n0 own T h WL FL cells slots) (hx : p.tables.exec = Jvm.exec) (pc' : Nat) {off : Int} (hd : decode c.code pc = .ok (.goto off, 3))  (ho : 0 ≤ (pc : Int) + off) (hp : ((pc : Int) + off).toNat = pc')
    (o : Wo p e s below Z EL n0 WL0 FL0 rm Q T (mkF m pc' Ls (st))) : Wo p e s below Z EL n0 WL0 FL0 rm Q T (mkF m pc Ls (st)) := by
  exact Wo.by (fun _ q => XS.goto X.here hx rfl (pc0 := pc) rfl hd ho hp q) o
theorem P.ifYes (X : WS p l e R s m args below meth c Z EL n0 own T h WL FL cells slots) (hx : p.tables.exec = Jvm.exec) (pc' : Nat) {off : Int} {cd : ClassFile.Cond} {x : Int32} (hd : decode c.code pc = .ok (.ifCond cd off, 3)) (hc : ifCond.holds cd x = true) (ho : 0 ≤ (pc : Int) + off) (hp : ((pc : Int) + off).toNat = pc')
    (o : Wo p e s below Z EL n0 WL0 FL0 rm Q T (mkF m pc' Ls (st))) : Wo p e s below Z EL n0 WL0 FL0 rm Q T (mkF m pc Ls (.int x :: st)) := by
  exact Wo.by (fun _ q => XS.ifYes X.here hx rfl (pc0 := pc) rfl hd rfl hc ho hp q) o
theorem P.ifNo (X : WS p l e R s m args below meth c Z EL n0 own T h WL FL cells slots) (hx : p.tables.exec = Jvm.exec) (pc' : Nat) {off : Int} {cd : ClassFile.Cond} {x : Int32} (hd : decode c.code pc = .ok (.ifCond cd off, 3)) (hc : ifCond.holds cd x = false) (hp : pc + 3 = pc')
    (o : Wo p e s below Z EL n0 WL0 FL0 rm Q T (mkF m pc' Ls (st))) : Wo p e s below Z EL n0 WL0 FL0 rm Q T (mkF m pc Ls (.int x :: st)) := by
  subst hp; exact Wo.by (fun _ q => XS.ifNo X.here hx rfl hd rfl hc q) o
theorem P.icmpYes (X : WS p l e R s m args below meth c Z EL n0 own T h WL FL cells slots) (hx : p.tables.exec = Jvm.exec) (pc' : Nat) {off : Int} {cd : ClassFile.Cond} {x y : Int32} (hd : decode c.code pc = .ok (.if_icmp cd off, 3)) (hc : if_icmp.holds cd x y = true) (ho : 0 ≤ (pc : Int) + off) (hp : ((pc : Int) + off).toNat = pc')
    (o : Wo p e s below Z EL n0 WL0 FL0 rm Q T (mkF m pc' Ls (st))) : Wo p e s below Z EL n0 WL0 FL0 rm Q T (mkF m pc Ls (.int y :: .int x :: st)) := by
  exact Wo.by (fun _ q => XS.icmpYes X.here hx rfl (pc0 := pc) rfl hd rfl hc ho hp q) o
theorem P.icmpNo (X : WS p l e R s m args below meth c Z EL n0 own T h WL FL cells slots) (hx : p.tables.exec = Jvm.exec) (pc' : Nat) {off : Int} {cd : ClassFile.Cond} {x y : Int32} (hd : decode c.code pc = .ok (.if_icmp cd off, 3)) (hc : if_icmp.holds cd x y = false) (hp : pc + 3 = pc')
    (o : Wo p e s below Z EL n0 WL0 FL0 rm Q T (mkF m pc' Ls (st))) : Wo p e s below Z EL n0 WL0 FL0 rm Q T (mkF m pc Ls (.int y :: .int x :: st)) := by
  subst hp; exact Wo.by (fun _ q => XS.icmpNo X.here hx rfl hd rfl hc q) o
theorem P.ifnullYes (X : WS p l e R s m args below meth c Z EL n0 own T h WL FL cells slots) (hx : p.tables.exec = Jvm.exec) (pc' : Nat) {off : Int} (hd : decode c.code pc = .ok (.ifnull off, 3))  (ho : 0 ≤ (pc : Int) + off) (hp : ((pc : Int) + off).toNat = pc')
    (o : Wo p e s below Z EL n0 WL0 FL0 rm Q T (mkF m pc' Ls (st))) : Wo p e s below Z EL n0 WL0 FL0 rm Q T (mkF m pc Ls (.null :: st)) := by
  exact Wo.by (fun _ q => XS.ifnullYes X.here hx rfl (pc0 := pc) rfl hd rfl ho hp q) o
theorem P.ifnullNo (X : WS p l e R s m args below meth c Z EL n0 own T h WL FL cells slots) (hx : p.tables.exec = Jvm.exec) (pc' : Nat) {off : Int} {b : Addr} (hd : decode c.code pc = .ok (.ifnull off, 3))  (hp : pc + 3 = pc')
    (o : Wo p e s below Z EL n0 WL0 FL0 rm Q T (mkF m pc' Ls (st))) : Wo p e s below Z EL n0 WL0 FL0 rm Q T (mkF m pc Ls (.ref b :: st)) := by
  subst hp; exact Wo.by (fun _ q => XS.ifnullNo X.here hx rfl hd rfl q) o
theorem P.ifnonnullYes (X : WS p l e R s m args below meth c Z EL n0 own T h WL FL cells slots) (hx : p.tables.exec = Jvm.exec) (pc' : Nat) {off : Int} {b : Addr} (hd : decode c.code pc = .ok (.ifnonnull off, 3))  (ho : 0 ≤ (pc : Int) + off) (hp : ((pc : Int) + off).toNat = pc')
    (o : Wo p e s below Z EL n0 WL0 FL0 rm Q T (mkF m pc' Ls (st))) : Wo p e s below Z EL n0 WL0 FL0 rm Q T (mkF m pc Ls (.ref b :: st)) := by
  exact Wo.by (fun _ q => XS.ifnonnullYes X.here hx rfl (pc0 := pc) rfl hd rfl ho hp q) o
theorem P.ifnonnullNo (X : WS p l e R s m args below meth c Z EL n0 own T h WL FL cells slots) (hx : p.tables.exec = Jvm.exec) (pc' : Nat) {off : Int} (hd : decode c.code pc = .ok (.ifnonnull off, 3))  (hp : pc + 3 = pc')
    (o : Wo p e s below Z EL n0 WL0 FL0 rm Q T (mkF m pc' Ls (st))) : Wo p e s below Z EL n0 WL0 FL0 rm Q T (mkF m pc Ls (.null :: st)) := by
  subst hp; exact Wo.by (fun _ q => XS.ifnonnullNo X.here hx rfl hd rfl q) o
/-- steps that read or write -/
theorem WS.getF (X : WS p l e R s m args below meth c Z EL n0 own T h WL FL cells slots) (hx : p.tables.exec = Jvm.exec) {R0 O n d host : String} {index : Nat} (w : (Jvm.Cond.fieldLink own index R0 n d).before a0 Z = true ∨ (Jvm.Cond.fieldLinkNest own index R0 n d host).before a0 Z = true) (via : Via Z R0 O n d) {a : Addr} {v : Value} (F : Fld Z h a O n d v)
    (hd : decode c.code pc = .ok (.getfield index, 3)) (k : ∀ T', WS p l e R s m args below meth c Z EL n0 own T' h WL FL cells slots → Wo p e s below Z EL n0 WL0 FL0 rm Q T' (mkF m (pc + 3) Ls (v :: rest))) :
    Wo p e s below Z EL n0 WL0 FL0 rm Q T (mkF m pc Ls (.ref a :: rest)) := by
  obtain ⟨vm0, k0, locs, X, eT, hS, hk, hZ, hown, N, I⟩ := X
  obtain ⟨T', X', eT', st⟩ := RoadKit.getF X hx hZ hown w via eT F (g := mkF m pc Ls (.ref a :: rest)) rfl rfl hd
  exact Wo.by st (k T' ⟨vm0, k0, locs, X', eT', hS, hk, hZ, hown, N, I⟩)
theorem WS.getS (X : WS p l e R s m args below meth c Z EL n0 own T h WL FL cells slots) (hx : p.tables.exec = Jvm.exec) {R0 O n d : String} {index : Nat} (w : (Jvm.Cond.fieldLink own index R0 n d).before a0 Z = true) (via : Via Z R0 O n d) {v : Value} (F : Sta Z Z.heap O n d v)
    (hd : decode c.code pc = .ok (.getstatic index, 3)) (k : ∀ T', WS p l e R s m args below meth c Z EL n0 own T' h WL FL cells slots → Wo p e s below Z EL n0 WL0 FL0 rm Q T' (mkF m (pc + 3) Ls (v :: st))) :
    Wo p e s below Z EL n0 WL0 FL0 rm Q T (mkF m pc Ls st) := by
  have F' := X.sta F
  obtain ⟨vm0, k0, locs, X, eT, hS, hk, hZ, hown, N, I⟩ := X
  obtain ⟨T', X', eT', st⟩ := RoadKit.getS (host := "") X hx hZ hown w via eT F' (g := mkF m pc Ls st) rfl hd
  exact Wo.by st (k T' ⟨vm0, k0, locs, X', eT', hS, hk, hZ, hown, N, I⟩)
theorem WS.putF (X : WS p l e R s m args below meth c Z EL n0 own T h WL FL cells slots) (hx : p.tables.exec = Jvm.exec) {R0 O n d host C : String} {index kk : Nat} {ty : FieldType} (w : (Jvm.Cond.fieldLink own index R0 n d).before a0 Z = true ∨ (Jvm.Cond.fieldLinkNest own index R0 n d host).before a0 Z = true) (via : Via Z R0 O n d) {a : Addr} {v old : Value} (F : Fld Z h a O n d old) (E : Exa Z h a C)
    (L : (Jvm.Cond.lays C O n d).before a0 Z = true ∨ ((Jvm.Cond.laysFinal C O n d).before a0 Z = true ∧ own = O ∧ meth.name = "<init>")) (wi : (Jvm.Cond.instantiable C kk).before a0 Z = true) (hty : parseFieldDescriptor d = some ty) (hn : narrow ty v = v) (hf : fits ty v = true) (ha : a ∈ WL)
    (hd : decode c.code pc = .ok (.putfield index, 3)) (k : ∀ T' h', WS p l e R s m args below meth c Z EL n0 own T' h' WL FL cells slots → Wr h h' a (Jvm.RoadKit.slotOf Z O n d) v → Fld Z h' a O n d v → Wo p e s below Z EL n0 WL0 FL0 rm Q T' (mkF m (pc + 3) Ls rest)) :
    Wo p e s below Z EL n0 WL0 FL0 rm Q T (mkF m pc Ls (v :: .ref a :: rest)) := by
  obtain ⟨vm0, k0, locs, X, eT, hS, hk, hZ, hown, N, I⟩ := X
  obtain ⟨T', h', X', eT', W, st⟩ := RoadKit.putF X hx hZ hown w via eT F E L wi hty hn hf (g := mkF m pc Ls (v :: .ref a :: rest)) rfl rfl hd
  exact Wo.by st (k T' h' ⟨vm0, k0, _, X', eT', hS, by rw [W.size]; exact hk, hZ, hown, Fr.snoc X' N (I.ge ha), I.wr W ha⟩ W (F.same W))
theorem WS.newO (X : WS p l e R s m args below meth c Z EL n0 own T h WL FL cells slots) (hx : p.tables.exec = Jvm.exec) {C : String} {index n : Nat} (w : (Jvm.Cond.classLink own index C).before a0 Z = true) (wi : (Jvm.Cond.instantiable C n).before a0 Z = true) (wz : (Jvm.Cond.initialized C).before a0 Z = true)
    (hd : decode c.code pc = .ok (.new index, 3)) (hc : cells + 1 ≤ R.cells) (hl : slots + n ≤ R.slots)
    (k : ∀ T' h' a, WS p l e R s m args below meth c Z EL n0 own T' h' (a :: WL) FL (cells + 1) (slots + n) → Ext h h' → h.size ≤ a → Exa Z h' a C → (∀ {O nm d : String} {ty : FieldType}, Laid Z a0 C O nm d → parseFieldDescriptor d = some ty → Fld Z h' a O nm d (defaultValue ty)) → Wo p e s below Z EL n0 WL0 FL0 rm Q T' (mkF m (pc + 3) Ls (.ref a :: st))) :
    Wo p e s below Z EL n0 WL0 FL0 rm Q T (mkF m pc Ls st) := by
  obtain ⟨vm0, k0, locs, X, eT, hS, hk, hZ, hown, N, I⟩ := X
  obtain ⟨T', h', X', eT', E, A, D, -, st⟩ := RoadKit.newO X hx hZ hown w wi wz eT (g := mkF m pc Ls st) rfl hd hc hl
  exact Wo.by st (k T' h' h.size ⟨vm0, k0, _, X', eT', hS, Nat.le_trans hk E.1, hZ, hown, N, I.new E A.lt⟩ E (Nat.le_refl _) A D)
theorem WS.newP (X : WS p l e R s m args below meth c Z EL n0 own T h WL FL cells slots) (hx : p.tables.exec = Jvm.exec) {aty : ArrayType} (w : (Jvm.Cond.arrayClass (newarray.typeOf aty)).before a0 Z = true) {n : Int32} (hd : decode c.code pc = .ok (.newarray aty, 2))
    (hn : ¬ n < 0) {cap : Nat} (hcap : n.toNatClampNeg ≤ cap) (hb : cap * 8 ≤ 536870912) (hc : cells + 1 ≤ R.cells) (hl : slots + cap ≤ R.slots)
    (k : ∀ T' h' a ka, WS p l e R s m args below meth c Z EL n0 own T' h' (a :: WL) FL (cells + 1) (slots + cap) → Ext h h' → h.size ≤ a → Arv Z h' a ka (newarray.typeOf aty) n [] (defaultValue (newarray.typeOf aty)) → Wo p e s below Z EL n0 WL0 FL0 rm Q T' (mkF m (pc + 2) Ls (.ref a :: rest))) :
    Wo p e s below Z EL n0 WL0 FL0 rm Q T (mkF m pc Ls (.int n :: rest)) := by
  obtain ⟨vm0, k0, locs, X, eT, hS, hk, hZ, hown, N, I⟩ := X
  obtain ⟨T', h', cA, X', eT', E, A, st⟩ := RoadKit.newP X hx hZ w eT (g := mkF m pc Ls (.int n :: rest)) rfl hd rfl hn hcap hb hc hl
  exact Wo.by st (k T' h' h.size cA ⟨vm0, k0, _, X', eT', hS, Nat.le_trans hk E.1, hZ, hown, N, I.new E A.lt⟩ E (Nat.le_refl _) (Arv.new A hn))
theorem WS.stC (X : WS p l e R s m args below meth c Z EL n0 own T h WL FL cells slots) (hx : p.tables.exec = Jvm.exec) {a : Addr} {ka : ClassId} {N : Int32} {vs : List Value} {dv : Value} (A : Arv Z h a ka .char N vs dv) {j x : Int32} {i : Nat} (hj : ¬ j < 0 ∧ j < N) (hi : j.toNatClampNeg = i) (hl : i < vs.length) (ha : a ∈ WL)
    (hd : decode c.code pc = .ok (.castore, 1)) (k : ∀ T' h', WS p l e R s m args below meth c Z EL n0 own T' h' WL FL cells slots → Wr h h' a j.toNatClampNeg (.int (nar .char x)) → Arv Z h' a ka .char N (vs.set i (.int (nar .char x))) dv → Wo p e s below Z EL n0 WL0 FL0 rm Q T' (mkF m (pc + 1) Ls rest)) :
    Wo p e s below Z EL n0 WL0 FL0 rm Q T (mkF m pc Ls (.int x :: .int j :: .ref a :: rest)) := by
  obtain ⟨vm0, k0, locs, X, eT, hS, hk, hZ, hown, N, I⟩ := X
  obtain ⟨cl, A1, A2, A3, A4, A5, A6⟩ := A
  obtain ⟨T', h', X', eT', W, st⟩ := RoadKit.stC X hx hZ eT A1 (inb_of A3 hj) (g := mkF m pc Ls (.int x :: .int j :: .ref a :: rest)) rfl rfl hd
  exact Wo.by st (k T' h' ⟨vm0, k0, _, X', eT', hS, by rw [W.size]; exact hk, hZ, hown, Fr.snoc X' N (I.ge ha), I.wr W ha⟩ W (Arv.set A1 A2 A3 A4 A5 A6 (fits_nar_char x) W i hi hl))
theorem WS.stB (X : WS p l e R s m args below meth c Z EL n0 own T h WL FL cells slots) (hx : p.tables.exec = Jvm.exec) {a : Addr} {ka : ClassId} {N : Int32} {vs : List Value} {dv : Value} (A : Arv Z h a ka .byte N vs dv) {j x : Int32} {i : Nat} (hj : ¬ j < 0 ∧ j < N) (hi : j.toNatClampNeg = i) (hl : i < vs.length) (ha : a ∈ WL)
    (hd : decode c.code pc = .ok (.bastore, 1)) (k : ∀ T' h', WS p l e R s m args below meth c Z EL n0 own T' h' WL FL cells slots → Wr h h' a j.toNatClampNeg (.int (nar .byte x)) → Arv Z h' a ka .byte N (vs.set i (.int (nar .byte x))) dv → Wo p e s below Z EL n0 WL0 FL0 rm Q T' (mkF m (pc + 1) Ls rest)) :
    Wo p e s below Z EL n0 WL0 FL0 rm Q T (mkF m pc Ls (.int x :: .int j :: .ref a :: rest)) := by
  obtain ⟨vm0, k0, locs, X, eT, hS, hk, hZ, hown, N, I⟩ := X
  obtain ⟨cl, A1, A2, A3, A4, A5, A6⟩ := A
  obtain ⟨T', h', X', eT', W, st⟩ := RoadKit.stB X hx hZ eT A1 (inb_of A3 hj) (g := mkF m pc Ls (.int x :: .int j :: .ref a :: rest)) rfl rfl hd
  exact Wo.by st (k T' h' ⟨vm0, k0, _, X', eT', hS, by rw [W.size]; exact hk, hZ, hown, Fr.snoc X' N (I.ge ha), I.wr W ha⟩ W (Arv.set A1 A2 A3 A4 A5 A6 (fits_nar_byte x) W i hi hl))
theorem WS.initO (X : WS p l e R s m args below meth c Z EL n0 own T h WL FL cells slots) (hx : p.tables.exec = Jvm.exec) {idx : Nat} (w1 : (Jvm.Cond.methodLink own idx Lib.objectInit).before a0 Z = true) (w2 : (Jvm.Cond.instanceMethod Lib.objectInit).before a0 Z = true)
    (w3 : (Jvm.Cond.code Lib.objectInit ⟨#[0xb1]⟩ 1 none).before a0 Z = true) (hsize : Ls.size = c.maxLocals) {a : Addr} (hd : decode c.code pc = .ok (.invokespecial idx, 3))
    (hf : 1 ≤ R.frames) {W : Nat} (hW : (rest.map fun v => v.category).sum ≤ W) (hl : W + 12 ≤ R.locals)
    (k : ∀ T', WS p l e R s m args below meth c Z EL n0 own T' h WL FL cells slots → Wo p e s below Z EL n0 WL0 FL0 rm Q T' (mkF m (pc + 3) Ls rest)) :
    Wo p e s below Z EL n0 WL0 FL0 rm Q T (mkF m pc Ls (.ref a :: rest)) := by
  obtain ⟨vm0, k0, locs, X, eT, hS, hk, hZ, hown, N, I⟩ := X
  obtain ⟨T', X', eT', st⟩ := RoadKit.initO X hx hZ hown w1 w2 w3 eT (g := mkF m pc Ls (.ref a :: rest)) rfl hsize rfl hd hf (W := W) (by show 2 * 0 + _ ≤ _; omega) hl
  exact Wo.by st (k T' ⟨vm0, k0, _, X', eT', hS, hk, hZ, hown, N, I⟩)
theorem cat_ref {v : Value} (hv : v.isRef = true) : v.category = 1 := by rcases ref_cases hv with rfl | ⟨a, rfl⟩ <;> rfl
theorem nar_ref {v : Value} {t : FieldType} (ht : t.isReference = true) (hv : v.isRef = true) : narrow t v = v := by cases t <;> first | (cases ht; done) | (rcases ref_cases hv with rfl | ⟨a, rfl⟩ <;> rfl)
theorem fit_ref {v : Value} {t : FieldType} (ht : t.isReference = true) (hv : v.isRef = true) : fits t v = true := by cases t <;> first | (cases ht; done) | (rcases ref_cases hv with rfl | ⟨a, rfl⟩ <;> rfl)
theorem WS.acmp (X : WS p l e R s m args below meth c Z EL n0 own T h WL FL cells slots) (hx : p.tables.exec = Jvm.exec) {cd : ACond} {x y : Value} (h1 : x.isRef = true) (h2 : y.isRef = true) {o : Int} {pc' : Nat} {same : Bool}
    (hd : decode c.code pc = .ok (.if_acmp cd o, 3)) (hq : decide (x = y) = same) (ho : 0 ≤ (pc : Int) + o) (hp : pc' = if acV cd same = true then ((pc : Int) + o).toNat else pc + 3)
    (k : Wo p e s below Z EL n0 WL0 FL0 rm Q T (mkF m pc' Ls rest)) : Wo p e s below Z EL n0 WL0 FL0 rm Q T (mkF m pc Ls (y :: x :: rest)) := by
  obtain ⟨vm0, k0, locs, X, eT, hS, hk, hZ, hown, N, I⟩ := X
  exact Wo.by (fun t q => RoadKit.acmp (g := mkF m pc Ls (y :: x :: rest)) X hx rfl h1 h2 (pc0 := pc) rfl hd rfl hq ho hp q) k
theorem WS.alen (X : WS p l e R s m args below meth c Z EL n0 own T h WL FL cells slots) (hx : p.tables.exec = Jvm.exec) {a : Addr} {ka : ClassId} {ty : FieldType} {N : Int32} {vs : List Value} {dv : Value} (A : Arv Z h a ka ty N vs dv) (hd : decode c.code pc = .ok (.arraylength, 1))
    (k : Wo p e s below Z EL n0 WL0 FL0 rm Q T (mkF m (pc + 1) Ls (.int N :: rest))) : Wo p e s below Z EL n0 WL0 FL0 rm Q T (mkF m pc Ls (.ref a :: rest)) := by
  obtain ⟨vm0, k0, locs, X, eT, hS, hk, hZ, hown, N, I⟩ := X
  obtain ⟨cl, A1, A2, A3, A4, -, -⟩ := A
  refine Wo.by (fun t q => X.arraylength hx (by rw [eT]; exact A1.1) (State.isArrayOf_alike hZ.alike A1.2.1) (g := mkF m pc Ls (.ref a :: rest)) rfl rfl hd t ?_) k
  rw [len_of A3 A4]; exact q
theorem WS.cld (X : WS p l e R s m args below meth c Z EL n0 own T h WL FL cells slots) (hx : p.tables.exec = Jvm.exec) {a : Addr} {ka : ClassId} {N : Int32} {vs : List Value} {dv : Value} (A : Arv Z h a ka .char N vs dv) {j x : Int32} (hj : ¬ j < 0 ∧ j < N) (hv : vs.getD j.toNatClampNeg dv = .int x) (hd : decode c.code pc = .ok (.caload, 1))
    (k : Wo p e s below Z EL n0 WL0 FL0 rm Q T (mkF m (pc + 1) Ls (.int x :: rest))) : Wo p e s below Z EL n0 WL0 FL0 rm Q T (mkF m pc Ls (.int j :: .ref a :: rest)) := by
  obtain ⟨vm0, k0, locs, X, eT, hS, hk, hZ, hown, N, I⟩ := X
  obtain ⟨cl, A1, A2, A3, A4, A5, -⟩ := A
  exact Wo.by (fun t q => X.caload hx (by rw [eT]; exact A1.1) (State.isArrayOf_alike hZ.alike A1.2.1) A1.2.2 (inb_of A3 hj) (A5.at (inb_of A3 hj) hv) (g := mkF m pc Ls (.int j :: .ref a :: rest)) rfl rfl hd t q) k
theorem WS.bld (X : WS p l e R s m args below meth c Z EL n0 own T h WL FL cells slots) (hx : p.tables.exec = Jvm.exec) {a : Addr} {ka : ClassId} {N : Int32} {vs : List Value} {dv : Value} (A : Arv Z h a ka .byte N vs dv) {j x : Int32} (hj : ¬ j < 0 ∧ j < N) (hv : vs.getD j.toNatClampNeg dv = .int x) (hd : decode c.code pc = .ok (.baload, 1))
    (k : Wo p e s below Z EL n0 WL0 FL0 rm Q T (mkF m (pc + 1) Ls (.int x :: rest))) : Wo p e s below Z EL n0 WL0 FL0 rm Q T (mkF m pc Ls (.int j :: .ref a :: rest)) := by
  obtain ⟨vm0, k0, locs, X, eT, hS, hk, hZ, hown, N, I⟩ := X
  obtain ⟨cl, A1, A2, A3, A4, A5, -⟩ := A
  exact Wo.by (fun t q => X.baloadBytes hx (by rw [eT]; exact A1.1) (State.isArrayOf_alike hZ.alike A1.2.1) A1.2.2 (inb_of A3 hj) (A5.at (inb_of A3 hj) hv) (g := mkF m pc Ls (.int j :: .ref a :: rest)) rfl rfl hd t q) k
theorem WS.castY (X : WS p l e R s m args below meth c Z EL n0 own T h WL FL cells slots) (hx : p.tables.exec = Jvm.exec) {C : String} {index : Nat} (w : (Jvm.Cond.classLink own index C).before a0 Z = true) {a : Addr} (F : Ins Z h a C true) (hd : decode c.code pc = .ok (.checkcast index, 3))
    (k : ∀ T', WS p l e R s m args below meth c Z EL n0 own T' h WL FL cells slots → Wo p e s below Z EL n0 WL0 FL0 rm Q T' (mkF m (pc + 3) Ls (.ref a :: rest))) : Wo p e s below Z EL n0 WL0 FL0 rm Q T (mkF m pc Ls (.ref a :: rest)) := by
  obtain ⟨vm0, k0, locs, X, eT, hS, hk, hZ, hown, N, I⟩ := X
  obtain ⟨T', X', eT', st⟩ := RoadKit.castY X hx hZ hown w eT F (g := mkF m pc Ls (.ref a :: rest)) rfl rfl hd
  exact Wo.by st (k T' ⟨vm0, k0, _, X', eT', hS, hk, hZ, hown, N, I⟩)
theorem WS.instY (X : WS p l e R s m args below meth c Z EL n0 own T h WL FL cells slots) (hx : p.tables.exec = Jvm.exec) {C : String} {index : Nat} (w : (Jvm.Cond.classLink own index C).before a0 Z = true) {a : Addr} (F : Ins Z h a C true) (hd : decode c.code pc = .ok (.instanceof index, 3))
    (k : ∀ T', WS p l e R s m args below meth c Z EL n0 own T' h WL FL cells slots → Wo p e s below Z EL n0 WL0 FL0 rm Q T' (mkF m (pc + 3) Ls (.int 1 :: rest))) : Wo p e s below Z EL n0 WL0 FL0 rm Q T (mkF m pc Ls (.ref a :: rest)) := by
  obtain ⟨vm0, k0, locs, X, eT, hS, hk, hZ, hown, N, I⟩ := X
  obtain ⟨T', X', eT', st⟩ := RoadKit.instY X hx hZ hown w eT F (g := mkF m pc Ls (.ref a :: rest)) rfl rfl hd
  exact Wo.by st (k T' ⟨vm0, k0, _, X', eT', hS, hk, hZ, hown, N, I⟩)
theorem WS.castN (X : WS p l e R s m args below meth c Z EL n0 own T h WL FL cells slots) (hx : p.tables.exec = Jvm.exec) {index : Nat} (hd : decode c.code pc = .ok (.checkcast index, 3))
    (k : Wo p e s below Z EL n0 WL0 FL0 rm Q T (mkF m (pc + 3) Ls (.null :: rest))) : Wo p e s below Z EL n0 WL0 FL0 rm Q T (mkF m pc Ls (.null :: rest)) := by
  obtain ⟨vm0, k0, locs, X, eT, hS, hk, hZ, hown, N, I⟩ := X
  exact Wo.by (X.checkcastNull hx (g := mkF m pc Ls (.null :: rest)) rfl rfl hd) k
theorem WS.ldcI (X : WS p l e R s m args below meth c Z EL n0 own T h WL FL cells slots) (hx : p.tables.exec = Jvm.exec) {index : Nat} {v : Int32} (w : (Jvm.Cond.constant own index v).before a0 Z = true) (hd : decode c.code pc = .ok (.ldc index, 2))
    (k : Wo p e s below Z EL n0 WL0 FL0 rm Q T (mkF m (pc + 2) Ls (.int v :: st))) : Wo p e s below Z EL n0 WL0 FL0 rm Q T (mkF m pc Ls st) := by
  obtain ⟨vm0, k0, locs, X, eT, hS, hk, hZ, hown, N, I⟩ := X
  exact Wo.by (X.ldcInt hx hown (mv hZ w) (g := mkF m pc Ls st) rfl hd) k
theorem WS.cpA (X : WS p l e R s m args below meth c Z EL n0 own T h WL FL cells slots) (hx : p.tables.exec = Jvm.exec) {index : Nat} (w1 : (Jvm.Cond.methodLink own index Jvm.Stand.acN).before a0 Z = true) (w2 : (Jvm.Cond.native Jvm.Stand.acN).before a0 Z = true) (w3 : (Jvm.Cond.static Jvm.Stand.acN).before a0 Z = true) (w4 : (Jvm.Cond.initialized "java/lang/System").before a0 Z = true)
    {a b : Addr} {ka kb : ClassId} {ty ty' : FieldType} {z z' sp dp nn : Int32} {vs vd us vr : List Value} {dv dd : Value} (A : Arv Z h a ka ty z vs dv) (B : Arv Z h b kb ty' z' vd dd) (hty : (ty = ty' ∧ refKind ty = false) ∨ (refKind ty = true ∧ refKind ty' = true ∧ StoL Z h b us))
    (h1 : ¬ sp < 0) (h2 : ¬ dp < 0) (h3 : ¬ nn < 0) (h4 : sp.toNatClampNeg + nn.toNatClampNeg ≤ z.toNatClampNeg) (h5 : dp.toNatClampNeg + nn.toNatClampNeg ≤ z'.toNatClampNeg)
    (hus : us = (List.range nn.toNatClampNeg).map fun i => vs.getD (sp.toNatClampNeg + i) dv) (hl : dp.toNatClampNeg + nn.toNatClampNeg ≤ vd.length) (hr : vd.take dp.toNatClampNeg ++ us ++ vd.drop (dp.toNatClampNeg + nn.toNatClampNeg) = vr) (hb : b ∈ WL)
    (hsize : Ls.size = c.maxLocals) (hd : decode c.code pc = .ok (.invokestatic index, 3)) (hf : 1 ≤ R.frames) {W : Nat} (hW : (rest.map fun v => v.category).sum ≤ W) (hlo : W + 18 ≤ R.locals)
    (k : ∀ T' h', WS p l e R s m args below meth c Z EL n0 own T' h' WL FL cells slots → Keep h h' [b] → Arv Z h' b kb ty' z' vr dd → Wo p e s below Z EL n0 WL0 FL0 rm Q T' (mkF m (pc + 3) Ls rest)) :
    Wo p e s below Z EL n0 WL0 FL0 rm Q T (mkF m pc Ls (.int nn :: .int dp :: .ref b :: .int sp :: .ref a :: rest)) := by
  obtain ⟨vm0, k0, locs, X, eT, hS, hk, hZ, hown, N, I⟩ := X
  obtain ⟨T', h', L, X', eT', N', K, V, st⟩ := RoadKit.cpA X hx hZ hown w1 w2 w3 w4 eT A B hty h1 h2 h3 h4 h5 hus hl N (I.ge hb) (g := mkF m pc Ls (.int nn :: .int dp :: .ref b :: .int sp :: .ref a :: rest)) rfl hsize rfl hd hf (W := W) (by show 2 * 0 + _ ≤ _; omega) (by rw [show nativeFrameWords "java/lang/System" "arraycopy" 5 = 7 by decide]; omega)
  subst hr
  exact Wo.by st (k T' h' ⟨vm0, k0, _, X', eT', hS, Nat.le_trans hk K.1, hZ, hown, N', I.keep K (allS hb all0)⟩ K V)
/-- a String constant, read -/
theorem WS.ldc (X : WS p l e R s m args below meth c Z EL n0 own T h WL FL cells slots) (hx : p.tables.exec = Jvm.exec) {index : Nat} {text : String} (w : (Jvm.Cond.stringLink own index text).before a0 Z = true) (wS : ∀ a ∈ Bundle.stringAtoms, a.before a0 Z = true) (hmem : (own, index) ∈ EL)
    {vs : List Value} {z : Int32} (ht : (∀ c ∈ text.toList, c.toNat < 256) ∧ text.toList.map (fun c => Value.int (Jvm.Lit.byteI c.toNat.toUInt16)) = vs) (hz : ¬ z < 0) (hl : z.toNatClampNeg = vs.length)
    (hd : decode c.code pc = .ok (.ldc index, 2)) {n : Nat} (hn : 4 * text.toList.length ≤ n) (hbig : n ≤ 536870912) (hc : cells + 2 ≤ R.cells) (hl' : slots + (n + 4) ≤ R.slots)
    (k : ∀ T' h' a b kb, WS p l e R s m args below meth c Z EL n0 own T' h' WL (a :: b :: FL) (cells + 2) (slots + (n + 4)) → Ext h h' → Exa Z h' a "java/lang/String" → Fld Z h' a "java/lang/String" "coder" "B" (.int 0) → Fld Z h' a "java/lang/String" "value" "[B" (.ref b) → Arv Z h' b kb .byte z vs (.int 0) → Wo p e s below Z EL n0 WL0 FL0 rm Q T' (mkF m (pc + 2) Ls (.ref a :: st))) :
    Wo p e s below Z EL n0 WL0 FL0 rm Q T (mkF m pc Ls st) := by
  obtain ⟨vm0, k0, locs, X, eT, hS, hk, hZ, hown, N, ⟨a1, i1⟩, i2, i3, i4, i5, i6⟩ := X
  obtain ⟨a, T', h', k1, b, kb, X', eT', E, hS', hk', hZ', hown', A, C, V, B, la, lb, hC, -, hne, st⟩ := ldcCH X hx hZ hown w wS eT hS hk i1 hmem i2 ht hz hl (g := mkF m pc Ls st) rfl hd hn hbig hc hl'
  have S : ∀ x ∈ WL, Safe Z EL T'.vm h' x := fun x hx => hC.safe (i4 x hx).2.1 (i4 x hx).2.2
  refine Wo.by st (k T' h' a b kb ⟨T'.vm, k1, _, X', eT', hS', hk', hZ', hown', N, ⟨a1, i1⟩, hC.1, i3.ext E, fun x hx => ⟨(i4 x hx).1, Nat.lt_of_lt_of_le (i4 x hx).2.1 E.1, S x hx⟩, i5, fun y hy => ?_⟩ E A C V B)
  rcases List.mem_cons.mp hy with rfl | hy
  · exact ⟨la, fun q => (hne _ (S _ q)).1 rfl⟩
  · rcases List.mem_cons.mp hy with rfl | hy
    · exact ⟨lb, fun q => (hne _ (S _ q)).2 rfl⟩
    · exact ⟨Nat.lt_of_lt_of_le (i6 y hy).1 E.1, (i6 y hy).2⟩
/-- a String constant that nobody reads -/
theorem WS.ldcO (X : WS p l e R s m args below meth c Z EL n0 own T h WL FL cells slots) (hx : p.tables.exec = Jvm.exec) {index : Nat} {text : String} (w : (Jvm.Cond.stringLink own index text).before a0 Z = true) (wS : ∀ a ∈ Bundle.stringAtoms, a.before a0 Z = true)
    (hd : decode c.code pc = .ok (.ldc index, 2)) {n : Nat} (hn : 4 * text.toList.length ≤ n) (hbig : n ≤ 536870912) (hc : cells + 2 ≤ R.cells) (hl' : slots + (n + 4) ≤ R.slots)
    (k : ∀ T' h' a, WS p l e R s m args below meth c Z EL n0 own T' h' WL FL (cells + 2) (slots + (n + 4)) → Ext h h' → Wo p e s below Z EL n0 WL0 FL0 rm Q T' (mkF m (pc + 2) Ls (.ref a :: st))) :
    Wo p e s below Z EL n0 WL0 FL0 rm Q T (mkF m pc Ls st) := by
  obtain ⟨vm0, k0, locs, X, eT, hS, hk, hZ, hown, N, ⟨a1, i1⟩, i2, i3, i4, i5, i6⟩ := X
  obtain ⟨a, T', h', k1, X', eT', E, hS', hk', hZ', hown', hC, -, st⟩ := ldcOH X hx hZ hown w wS eT hS hk i1 i2 (g := mkF m pc Ls st) rfl hd hn hbig hc hl'
  exact Wo.by st (k T' h' a ⟨T'.vm, k1, _, X', eT', hS', hk', hZ', hown', N, ⟨a1, i1⟩, hC.1, i3.ext E, fun x hx => ⟨(i4 x hx).1, Nat.lt_of_lt_of_le (i4 x hx).2.1 E.1, hC.safe (i4 x hx).2.1 (i4 x hx).2.2⟩, i5, fun y hy => ⟨Nat.lt_of_lt_of_le (i6 y hy).1 E.1, (i6 y hy).2⟩⟩ E)
/-- who pays a call -/
def Pay (l : Launch) (R : Room) (p : Program) (e : Env) (below : List Frame) (s : State) (args : Array Value) (Z : State) (EL : List (String × Nat)) (n0 : Nat) (y : MethodName) (len W : Nat) (as' : Array Value) (h : Heap) (WL FL : List Addr) (k n : Nat) (Q : Option Value → Heap → List Addr → List Addr → Prop) : Prop :=
  ∀ vm0, Z.Warmed39 vm0 → Inv Z EL n0 vm0 h WL FL → BackS l R p e below (s.setVm vm0) args y len W (fun A a => a = as' ∧ A.U.heap = h ∧ A.cells + k ≤ R.cells ∧ A.slots + n ≤ R.slots)
    (fun A _ v B => ∃ L WL' FL', Q v B.U.heap WL' FL' ∧ Fr n0 L ∧ B.locs = A.locs ++ L ∧ B.cells = A.cells + k ∧ B.slots = A.slots + n ∧ Inv Z EL n0 B.U.vm B.U.heap (WL' ++ WL) (FL' ++ FL))
theorem Ct.pay {y : MethodName} {bytes : ByteArray} {maxL : Nat} {ret : Option FieldType} {rm : Room} {as' : Array Value} {len W : Nat} {Q : Option Value → Heap → List Addr → List Addr → Prop} (C : Ct l Z EL n0 y bytes maxL ret rm as' h WL FL Q)
    (wc : (Jvm.Cond.code y bytes maxL ret).before a0 Z = true) (wz : (Jvm.Cond.initialized y.cls).before a0 Z = true) (hf : rm.frames + 1 ≤ R.frames) (hl : W + (maxL + 11) + rm.locals ≤ R.locals) :
    Pay l R p e below s args Z EL n0 y len W as' h WL FL rm.cells rm.slots Q := fun vm0 hZ I =>
  BackS.of_freeW (bytes := bytes) (maxL := maxL) (ret := ret) (E := fun _ first o t L k n => k = rm.cells ∧ n = rm.slots ∧ ∃ v WL' FL', o = .returned v ∧ Q v t.heap WL' FL' ∧ Fr n0 L ∧ Inv Z EL n0 t.vm t.heap (WL' ++ WL) (FL' ++ FL)) (C []) hf hl
    (fun m meth c A a Y hp => have hU : Z.Warmed39 A.U.vm := wtrans (s := s.setVm vm0) hZ Y.warmed
      ⟨by show (Jvm.Cond.and _ .tt).before a A.U = true; rw [Cond.before_and, mv hU wc]; rfl, mv hU wc, mv hU wz, hp.2.2.1, hp.2.2.2⟩)
    (fun m meth c A a g mk Y hp => ⟨hp.1, wtrans (s := s.setVm vm0) hZ Y.warmed, hp.2.1, (show Inv Z EL n0 A.U.vm h WL FL from WS.invT Y hZ I)⟩) (fun _ _ _ _ _ _ _ _ _ => trivial)
    (fun _ _ _ _ ⟨v, L, WL', FL', h1, h2, h3, h4, h5⟩ => ⟨L, _, _, h5, rfl, rfl, v, WL', FL', h1, h4, h3, h2⟩)
    (fun m meth c A a g mk v t L k n Y hp _ _ ⟨e1, e2, v', WL', FL', e3, e4, e5, e6⟩ => by
      cases e3; subst e1 e2
      exact ⟨L, WL', FL', e4, e5, rfl, rfl, rfl, e6⟩)
/-- a law of the narrow shape pays too -/
theorem Pay.ofN {y : MethodName} {as' : Array Value} {len W k n : Nat} {Qn : Option Value → Heap → List Loc → Prop} {Q : Option Value → Heap → List Addr → List Addr → Prop}
    (B : ∀ vm0, Z.Warmed39 (s.setVm vm0).vm → Back l R p e below (s.setVm vm0) args y len W (fun A a => a = as' ∧ A.U.heap = h ∧ A.cells + k ≤ R.cells ∧ A.slots + n ≤ R.slots) (fun A _ v B => ∃ L, Qn v B.U.heap L ∧ B.locs = A.locs ++ L ∧ B.cells = A.cells + k ∧ B.slots = A.slots + n))
    (hq : ∀ v h' L, Qn v h' L → Fr n0 L ∧ ∃ ws FL', Keep h h' ws ∧ (∀ x ∈ ws, x ∈ WL) ∧ (∀ y ∈ FL', h.size ≤ y ∧ y < h'.size) ∧ Q v h' [] FL') :
    Pay l R p e below s args Z EL n0 y len W as' h WL FL k n Q := fun vm0 hZ I => by
  intro m meth c A g ig mk a X hg hsize hdg hW hn hp
  obtain ⟨v, B, X', ⟨L, q1, q2, q3, q4⟩, st⟩ := B vm0 hZ m meth c A g ig mk a X hg hsize hdg hW hn hp
  obtain ⟨N, ws, FL', K, hws, hF, q⟩ := hq _ _ _ q1
  refine ⟨v, B, X'.retabled X'.warmed.wide, X'.warmed.since _, by rw [hp.2.1]; exact K.1, ⟨L, [], FL', q, N, q2, q3, q4, ?_⟩, st⟩
  obtain ⟨i1, i2, i3, i4, i5, i6⟩ := WS.invT X' hZ (I.keep K hws)
  refine ⟨i1, i2, i3, i4, i5, fun y hy => ?_⟩
  rcases List.mem_append.mp hy with z | z
  · exact ⟨(hF y z).2, fun w => Nat.lt_irrefl _ (Nat.lt_of_lt_of_le (I.lt w) (hF y z).1)⟩
  · exact i6 y z
/-- behind a call -/
theorem WS.back {vm0 : Vm} {k0 : Nat} {locs : List Loc} {B : Pt} {k n : Nat} {L : List Loc} {WL' FL' : List Addr} (hS : s.Since vm0 k0) (hk : k0 ≤ T.heap.size) (hZ : Z.Warmed39 vm0) (hown : vm0.findClass own = some m.cls) (N : Fr n0 locs) (X' : Stand p l e R ((s.setVm vm0).setVm B.U.vm) m args below meth c B.U B.locs B.cells B.slots)
    (hS' : (s.setVm vm0).Since B.U.vm B.U.heap.size) (hgr : T.heap.size ≤ B.U.heap.size) (N' : Fr n0 L) (q2 : B.locs = locs ++ L) (q3 : B.cells = cells + k) (q4 : B.slots = slots + n) (I' : Inv Z EL n0 B.U.vm B.U.heap (WL' ++ WL) (FL' ++ FL)) :
    WS p l e R s m args below meth c Z EL n0 own B.U B.U.heap (WL' ++ WL) (FL' ++ FL) (cells + k) (slots + n) := by
  obtain ⟨U, Lo, ck, sl⟩ := B
  dsimp only [Pt.U, Pt.locs, Pt.cells, Pt.slots] at *
  subst q2 q3 q4
  exact ⟨U.vm, U.heap.size, _, X', rfl, hS.trans hS' (Nat.le_trans hk hgr), Nat.le_refl _, State.Warmed39.trans (t := s.setVm vm0) hZ hS'.1, by rw [hS'.1.alike.findClass]; exact hown, N.app N', I'⟩
variable {index : Nat} {y z : MethodName} {bytes : ByteArray} {maxL : Nat} {ret : Option FieldType} {W k n : Nat} {as' : Array Value} {Qc : Option Value → Heap → List Addr → List Addr → Prop} {argsL : List Value}
theorem WS.callS (X : WS p l e R s m args below meth c Z EL n0 own T h WL FL cells slots) (hx : p.tables.exec = Jvm.exec) (w1 : (Jvm.Cond.methodLink own index y).before a0 Z = true) (w2 : (Jvm.Cond.static y).before a0 Z = true) (w3 : (Jvm.Cond.initialized y.cls).before a0 Z = true) (w4 : (Jvm.Cond.code y bytes maxL ret).before a0 Z = true) (hy : y.cls ≠ "java/lang/invoke/MethodHandle" ∧ y.cls ≠ "java/lang/invoke/VarHandle")
    (hP : Pay l R p e below s args Z EL n0 y 3 W as' h WL FL k n Qc) (hsize : Ls.size = c.maxLocals) (hlen : ∀ sig, parseMethodDescriptor y.desc = some sig → argsL.length = sig.parameters.length) (hst : st = argsL.reverse ++ rest) (has : argsL.toArray = as') (hW : (rest.map fun v => v.category).sum ≤ W)
    (hd : decode c.code pc = .ok (.invokestatic index, 3)) (hc : cells + k ≤ R.cells) (hl : slots + n ≤ R.slots)
    (kk : ∀ T' h' v WL' FL', WS p l e R s m args below meth c Z EL n0 own T' h' (WL' ++ WL) (FL' ++ FL) (cells + k) (slots + n) → Qc v h' WL' FL' → Wo p e s below Z EL n0 WL0 FL0 rm Q T' (mkF m (pc + 3) Ls (v.toList ++ rest))) :
    Wo p e s below Z EL n0 WL0 FL0 rm Q T (mkF m pc Ls st) := by
  obtain ⟨vm0, k0, locs, X, eT, hS, hk, hZ, hown, N, I⟩ := X
  obtain ⟨v, vm₁, B, -, X', hS', hgr, ⟨L, WL', FL', q, N', q2, q3, q4, I'⟩, stp⟩ := callSS X hx hown (mv hZ w1) (mv hZ w2) (mv hZ w3) (mv hZ w4) hy (hP vm0 hZ I) (g := mkF m pc Ls st) rfl hsize hlen hst (by show 2 * 0 + _ ≤ _; omega) hd (fun _ _ => ⟨has, eT, hc, hl⟩)
  exact Wo.by (fun t r => stp.trans r) (kk B.U _ v WL' FL' (WS.back hS (by rw [eT]; exact hk) hZ hown N X' hS' hgr N' q2 q3 q4 I') q)
theorem WS.callC (X : WS p l e R s m args below meth c Z EL n0 own T h WL FL cells slots) (hx : p.tables.exec = Jvm.exec) (hi : y.name = "<init>") (w1 : (Jvm.Cond.methodLink own index y).before a0 Z = true) (w2 : (Jvm.Cond.instanceMethod y).before a0 Z = true) (w4 : (Jvm.Cond.code y bytes maxL none).before a0 Z = true) (hy : y.cls ≠ "java/lang/invoke/MethodHandle" ∧ y.cls ≠ "java/lang/invoke/VarHandle")
    {a : Addr} (hP : Pay l R p e below s args Z EL n0 y 3 W as' h WL FL k n Qc) (hsize : Ls.size = c.maxLocals) (hlen : ∀ sig, parseMethodDescriptor y.desc = some sig → argsL.length = sig.parameters.length) (hst : st = argsL.reverse ++ .ref a :: rest) (has : (Value.ref a :: argsL).toArray = as') (hW : (rest.map fun v => v.category).sum ≤ W)
    (hd : decode c.code pc = .ok (.invokespecial index, 3)) (hc : cells + k ≤ R.cells) (hl : slots + n ≤ R.slots)
    (kk : ∀ T' h' v WL' FL', WS p l e R s m args below meth c Z EL n0 own T' h' (WL' ++ WL) (FL' ++ FL) (cells + k) (slots + n) → Qc v h' WL' FL' → Wo p e s below Z EL n0 WL0 FL0 rm Q T' (mkF m (pc + 3) Ls (v.toList ++ rest))) :
    Wo p e s below Z EL n0 WL0 FL0 rm Q T (mkF m pc Ls st) := by
  obtain ⟨vm0, k0, locs, X, eT, hS, hk, hZ, hown, N, I⟩ := X
  obtain ⟨v, vm₁, B, -, X', hS', hgr, ⟨L, WL', FL', q, N', q2, q3, q4, I'⟩, stp⟩ := X.specialBackS hx hi hown (mv hZ w1) (mv hZ w2) (mv hZ w4) hy (hP vm0 hZ I) (g := mkF m pc Ls st) rfl hsize (Steps.refl _) hlen hst (by show 2 * 0 + _ ≤ _; omega) hd (fun _ _ => ⟨has, eT, hc, hl⟩)
  exact Wo.by (fun t r => stp.trans r) (kk B.U _ v WL' FL' (WS.back hS (by rw [eT]; exact hk) hZ hown N X' hS' hgr N' q2 q3 q4 I') q)
theorem WS.callV {C : String} (X : WS p l e R s m args below meth c Z EL n0 own T h WL FL cells slots) (hx : p.tables.exec = Jvm.exec) (w1 : (Jvm.Cond.methodLink own index y).before a0 Z = true) (w2 : (Jvm.Cond.declares y).before a0 Z = true) (w3 : (Jvm.Cond.selects C y z).before a0 Z = true) (w4 : (Jvm.Cond.instanceMethod z).before a0 Z = true) (hf : ∀ vm0, Z.Warmed39 vm0 → NotFace (s.setVm vm0) y) (hy : y.cls ≠ "java/lang/invoke/MethodHandle" ∧ y.cls ≠ "java/lang/invoke/VarHandle")
    {a : Addr} (E : Exa Z h a C) (hP : Pay l R p e below s args Z EL n0 z 3 W as' h WL FL k n Qc) (hsize : Ls.size = c.maxLocals) (hlen : ∀ sig, parseMethodDescriptor y.desc = some sig → argsL.length = sig.parameters.length) (hst : st = argsL.reverse ++ .ref a :: rest) (has : (Value.ref a :: argsL).toArray = as') (hW : (rest.map fun v => v.category).sum ≤ W)
    (hd : decode c.code pc = .ok (.invokevirtual index, 3)) (hc : cells + k ≤ R.cells) (hl : slots + n ≤ R.slots)
    (kk : ∀ T' h' v WL' FL', WS p l e R s m args below meth c Z EL n0 own T' h' (WL' ++ WL) (FL' ++ FL) (cells + k) (slots + n) → Qc v h' WL' FL' → Wo p e s below Z EL n0 WL0 FL0 rm Q T' (mkF m (pc + 3) Ls (v.toList ++ rest))) :
    Wo p e s below Z EL n0 WL0 FL0 rm Q T (mkF m pc Ls st) := by
  obtain ⟨vm0, k0, locs, X, eT, hS, hk, hZ, hown, N, I⟩ := X
  obtain ⟨cB, kB, q0, q1, q5⟩ := isOf (s := s.setVm vm0) hZ eT E
  obtain ⟨v, vm₁, B, -, X', hS', hgr, ⟨L, WL', FL', q, N', q2, q3, q4, I'⟩, stp⟩ := X.virtualBackS hx hown (mv hZ w1) (mv hZ w2) (hf vm0 hZ) (mv hZ w3) (mv hZ w4) hy (hP vm0 hZ I) q0 q5 (g := mkF m pc Ls st) rfl hsize (Steps.refl _) hlen hst (by show 2 * 0 + _ ≤ _; omega) hd (fun _ _ => ⟨has, eT, hc, hl⟩)
  exact Wo.by (fun t r => stp.trans r) (kk B.U _ v WL' FL' (WS.back hS (by rw [eT]; exact hk) hZ hown N X' hS' hgr N' q2 q3 q4 I') q)
theorem WS.callI {C : String} {count : Nat} (X : WS p l e R s m args below meth c Z EL n0 own T h WL FL cells slots) (hx : p.tables.exec = Jvm.exec) (w1 : (Jvm.Cond.methodLink own index y).before a0 Z = true) (w2 : (Jvm.Cond.declares y).before a0 Z = true) (w2' : (Jvm.Cond.interfaceMethod y.cls y.cls y.name y.desc).before a0 Z = true) (w3 : (Jvm.Cond.selects C y z).before a0 Z = true) (w4 : (Jvm.Cond.instanceMethod z).before a0 Z = true)
    (w5 : (Jvm.Cond.publicMethod z).before a0 Z = true) (w6 : (Jvm.Cond.unhidden C y.name y.desc).before a0 Z = true) (w7 : (Jvm.Cond.castable C y.cls).before a0 Z = true) (hy : y.cls ≠ "java/lang/invoke/MethodHandle" ∧ y.cls ≠ "java/lang/invoke/VarHandle")
    {a : Addr} (E : Exa Z h a C) (hP : Pay l R p e below s args Z EL n0 z 5 W as' h WL FL k n Qc) (hsize : Ls.size = c.maxLocals) (hlen : ∀ sig, parseMethodDescriptor y.desc = some sig → argsL.length = sig.parameters.length) (hst : st = argsL.reverse ++ .ref a :: rest) (has : (Value.ref a :: argsL).toArray = as') (hW : (rest.map fun v => v.category).sum ≤ W)
    (hd : decode c.code pc = .ok (.invokeinterface index count, 5)) (hc : cells + k ≤ R.cells) (hl : slots + n ≤ R.slots)
    (kk : ∀ T' h' v WL' FL', WS p l e R s m args below meth c Z EL n0 own T' h' (WL' ++ WL) (FL' ++ FL) (cells + k) (slots + n) → Qc v h' WL' FL' → Wo p e s below Z EL n0 WL0 FL0 rm Q T' (mkF m (pc + 5) Ls (v.toList ++ rest))) :
    Wo p e s below Z EL n0 WL0 FL0 rm Q T (mkF m pc Ls st) := by
  obtain ⟨vm0, k0, locs, X, eT, hS, hk, hZ, hown, N, I⟩ := X
  obtain ⟨cB, kB, q0, q1, q5⟩ := isOf (s := s.setVm vm0) hZ eT E
  obtain ⟨v, vm₁, B, -, X', hS', hgr, ⟨L, WL', FL', q, N', q2, q3, q4, I'⟩, stp⟩ := X.interfaceBackS hx hown (mv hZ w1) (mv hZ w2) (mv hZ w2' (by simp [Cond.onTables, Cond.keepsFace, Cond.keeps, Cond.steady, Cond.faceAtom]; exact hy)) (mv hZ w3) (mv hZ w4) (mv hZ w5) (mv hZ w6) (mv hZ w7) hy (hP vm0 hZ I) q0 q1 q5 (g := mkF m pc Ls st) rfl hsize (Steps.refl _) hlen hst (by show 2 * 0 + _ ≤ _; omega) hd (fun _ _ => ⟨has, eT, hc, hl⟩)
  exact Wo.by (fun t r => stp.trans r) (kk B.U _ v WL' FL' (WS.back hS (by rw [eT]; exact hk) hZ hown N X' hS' hgr N' q2 q3 q4 I') q)
theorem declM (wi : (Jvm.Cond.instanceMethod y).before a0 Z = true) (wc : (Jvm.Cond.code y bytes maxL ret).before a0 Z = true) : (Jvm.Cond.declares y).before a0 Z = true := by
  obtain ⟨mk, me, hn, hm, hst, -⟩ := Cond.instanceMethod_spec wi
  obtain ⟨me', c', q1, -, -, -, -, -, -, hsig⟩ := Cond.code_spec hn wc
  cases hm.symm.trans q1
  simp [Cond.before, Cond.holds, Cond.value, hn, hm, hst, hsig]
theorem faceO {y' : MethodName} {C : String} (ws : (Jvm.Cond.selects C y' y').before a0 Z = true) (e : y'.cls = y.cls) : NotFace Z y := fun r0 h0 => by
  obtain ⟨c2, r2, m2, q1, q2, q3, q4, kP, hkP, hkPi⟩ := Cond.selects_spec ws
  have e1 := findClass_of_methodNamed q3
  have e2 := findClass_of_methodNamed h0
  rw [e] at e1
  have e3 := Option.some.inj (e1.symm.trans e2)
  exact ⟨kP, by rw [← e3]; exact hkP, hkPi⟩
theorem nfO {vm0 : Vm} {y' : MethodName} {C : String} (hZ : Z.Warmed39 vm0) (w : (Jvm.Cond.selects C y' y').before a0 Z = true) (e : y'.cls = y.cls) : NotFace (s.setVm vm0) y := faceO (a0 := #[]) (mv (s := s.setVm vm0) hZ w) e
theorem nfS {vm0 : Vm} {S : String} (hZ : Z.Warmed39 vm0) (w : (Jvm.Cond.superclass y.cls S).before a0 Z = true) : NotFace (s.setVm vm0) y := nf_super (args := #[]) (mv (s := s.setVm vm0) hZ w)
theorem sameM {y' : MethodName} {C : String} (hy : y.cls ≠ "java/lang/invoke/MethodHandle" ∧ y.cls ≠ "java/lang/invoke/VarHandle") (wi : (Jvm.Cond.instanceMethod y).before a0 Z = true) (ws : (Jvm.Cond.selects C y' y').before a0 Z = true) (e : y'.cls = y.cls) : (Jvm.Cond.sameMethod y.cls y.cls y.name y.desc).before a0 Z = true := by
  obtain ⟨mk, me, hn, hm, hst, -⟩ := Cond.instanceMethod_spec wi
  have hf := State.methodFound?_of_named hn hy
  have hc := findClass_of_methodNamed hn
  obtain ⟨kr, hkr, hni⟩ := faceO (y := y) ws e mk hn
  have hn' : Z.methodNamed? ⟨y.cls, y.name, y.desc⟩ = some mk := hn
  simp [Cond.before, Cond.holds, Cond.value, hc, hf, hn', hkr, hni]
theorem WS.callU {C K : String} {y' : MethodName} (X : WS p l e R s m args below meth c Z EL n0 own T h WL FL cells slots) (hx : p.tables.exec = Jvm.exec) (w1 : (Jvm.Cond.methodLink own index y).before a0 Z = true) (w2 : (Jvm.Cond.instanceMethod y).before a0 Z = true) (w3 : (Jvm.Cond.superclass own y.cls).before a0 Z = true) (w4 : (Jvm.Cond.code y bytes maxL ret).before a0 Z = true) (w5 : (Jvm.Cond.selects C y' y').before a0 Z = true) (e5 : y'.cls = y.cls) (hi : y.name ≠ "<init>") (hy : y.cls ≠ "java/lang/invoke/MethodHandle" ∧ y.cls ≠ "java/lang/invoke/VarHandle")
    {a : Addr} (F : Ins Z h a K true) (hP : Pay l R p e below s args Z EL n0 y 3 W as' h WL FL k n Qc) (hsize : Ls.size = c.maxLocals) (hlen : ∀ sig, parseMethodDescriptor y.desc = some sig → argsL.length = sig.parameters.length) (hst : st = argsL.reverse ++ .ref a :: rest) (has : (Value.ref a :: argsL).toArray = as') (hW : (rest.map fun v => v.category).sum ≤ W)
    (hd : decode c.code pc = .ok (.invokespecial index, 3)) (hc : cells + k ≤ R.cells) (hl : slots + n ≤ R.slots)
    (kk : ∀ T' h' v WL' FL', WS p l e R s m args below meth c Z EL n0 own T' h' (WL' ++ WL) (FL' ++ FL) (cells + k) (slots + n) → Qc v h' WL' FL' → Wo p e s below Z EL n0 WL0 FL0 rm Q T' (mkF m (pc + 3) Ls (v.toList ++ rest))) :
    Wo p e s below Z EL n0 WL0 FL0 rm Q T (mkF m pc Ls st) := by
  obtain ⟨vm0, k0, locs, X, eT, hS, hk, hZ, hown, N, I⟩ := X
  obtain ⟨v, vm₁, B, -, X', hS', hgr, ⟨L, WL', FL', q, N', q2, q3, q4, I'⟩, stp⟩ := superBackS X hx hZ hown w1 (sameM hy w2 w5 e5) w2 w3 hi (hP vm0 hZ I) eT F (g := mkF m pc Ls st) rfl hsize w4 hlen hst (by show 2 * 0 + _ ≤ _; omega) hd (fun _ _ => ⟨has, eT, hc, hl⟩)
  exact Wo.by (fun t r => stp.trans r) (kk B.U _ v WL' FL' (WS.back hS (by rw [eT]; exact hk) hZ hown N X' hS' hgr N' q2 q3 q4 I') q)
theorem nf {vm0 : Vm} {C : String} (hZ : Z.Warmed39 vm0) (w : (Jvm.Cond.selects C y y).before a0 Z = true) : NotFace (s.setVm vm0) y := notFace_of_selects (args := #[]) (mv (s := s.setVm vm0) hZ w)
end Walk
end Wd
end Jvm.Pilot.@@N@@
/- laws to paste: Road.backV, Road.lenW, Road.eqW, Road.codOf (cut by pick.py; bodies as the Statement names them) -/
namespace Jvm.Pilot.@@N@@
namespace StrChars
open Jvm Sem ClassFile Op Lib Jvm.Stand Jvm.Free.XT Jvm.Free.ALB Jvm.Free.JM Jvm.Free
open Jvm.Lib.Cold (StaticIs)
/-- a char array whose places are chars -/
def Ch (a : Addr) (A : Cell) (U : State) : Prop := Arr .char a A U ∧ Typed .char A
theorem Ch.mv {a : Addr} {A : Cell} {U U' : State} (h : Ch a A U) (hal : U.vm.Alike U'.vm) (hh : U'.heap = U.heap) : Ch a A U' := ⟨h.1.mv hal hh, h.2⟩
theorem Ch.keep {a : Addr} {A : Cell} {U U' : State} (h : Ch a A U) (hal : U.vm.Alike U'.vm) (hk : U'.heap[a]? = some A) : Ch a A U' := ⟨h.1.keep hal hk, h.2⟩
/-- what place i of a char[]'s cell holds -/
def cv (A : Cell) (i : Nat) : Int32 := match A.slots[i]? with | some (.int x) => x | _ => 0
theorem Ch.get {a : Addr} {A : Cell} {U : State} (h : Ch a A U) {i : Nat} (hi : i < A.slots.size) : A.slots[i]? = some (.int (cv A i)) := by
  have e := Array.getElem?_eq_getElem hi
  have f := h.2 i _ e
  unfold cv; rw [e]
  generalize A.slots[i] = v at f
  cases v <;> simp [fits] at f ⊢
/-- the byte that i2b leaves of a char -/
def lo8 (x : Int32) : Int32 := x.toInt8.toInt32
theorem fits_lo8 (y : Int32) : fits .byte (.int (lo8 y)) = true := by
  have h1 := y.toInt8.le_toInt
  have h2 := y.toInt8.toInt_lt
  simp only [lo8, fits, Bool.and_eq_true, decide_eq_true_eq, Int32.le_iff_toInt_le, Int8.toInt_toInt32, show (-128 : Int32).toInt = -128 from by decide, show (127 : Int32).toInt = 127 from by decide]
  omega
/-- A' is A but that each place j of lo .. hi - 1 holds f j -/
def Laid (A A' : Cell) (lo hi : Nat) (f : Nat → Value) : Prop := A'.cls = A.cls ∧ A'.vm = A.vm ∧ A'.slots.size = A.slots.size ∧ ∀ i, A'.slots[i]? = if lo ≤ i ∧ i < hi then some (f i) else A.slots[i]?
theorem Laid.zero (A : Cell) (lo : Nat) (f : Nat → Value) : Laid A A lo (lo + 0) f := ⟨rfl, rfl, rfl, fun i => by rw [if_neg (by omega)]⟩
theorem Laid.step {A Ak : Cell} {lo k : Nat} {f : Nat → Value} {v : Value} (h : Laid A Ak lo k f) (hlo : lo ≤ k) (hk : k < Ak.slots.size) (hv : v = f k) : Laid A (Ak.setSlot k v) lo (k + 1) f := by
  refine ⟨h.1, h.2.1, by simpa [Cell.setSlot] using h.2.2.1, fun i => ?_⟩
  by_cases e : k = i
  · subst e; rw [Cell.slots_setSlot_self v hk, if_pos (by omega), hv]
  · rw [Cell.slots_setSlot_ne v e, h.2.2.2 i]
    by_cases q : lo ≤ i ∧ i < k
    · rw [if_pos q, if_pos (by omega)]
    · rw [if_neg q, if_neg (by omega)]
def U16 : String := "java/lang/StringUTF16"
namespace Cmp5
def yN : MethodName := ⟨"java/lang/StringUTF16", "compress", "([CI[BII)I"⟩
abbrev yB : ByteArray := jdk_52_method_21_code
theorem d0 : decode yB 0 = .ok (.iconst 0, 1) := by decide +kernel
theorem d1 : decode yB 1 = .ok (.istore 5, 2) := by decide +kernel
theorem d3 : decode yB 3 = .ok (.iload 5, 2) := by decide +kernel
theorem d5 : decode yB 5 = .ok (.iload 4, 2) := by decide +kernel
theorem d7 : decode yB 7 = .ok (.if_icmp (.ge) 37, 3) := by decide +kernel
theorem d10 : decode yB 10 = .ok (.aload_n 0, 1) := by decide +kernel
theorem d11 : decode yB 11 = .ok (.iload_n 1, 1) := by decide +kernel
theorem d12 : decode yB 12 = .ok (.caload, 1) := by decide +kernel
theorem d13 : decode yB 13 = .ok (.istore 6, 2) := by decide +kernel
theorem d15 : decode yB 15 = .ok (.iload 6, 2) := by decide +kernel
theorem d17 : decode yB 17 = .ok (.sipush 255, 3) := by decide +kernel
theorem d20 : decode yB 20 = .ok (.if_icmp (.le) 6, 3) := by decide +kernel
theorem d26 : decode yB 26 = .ok (.aload_n 2, 1) := by decide +kernel
theorem d27 : decode yB 27 = .ok (.iload_n 3, 1) := by decide +kernel
theorem d28 : decode yB 28 = .ok (.iload 6, 2) := by decide +kernel
theorem d30 : decode yB 30 = .ok (.i2b, 1) := by decide +kernel
theorem d31 : decode yB 31 = .ok (.bastore, 1) := by decide +kernel
theorem d32 : decode yB 32 = .ok (.iinc 1 1, 3) := by decide +kernel
theorem d35 : decode yB 35 = .ok (.iinc 3 1, 3) := by decide +kernel
theorem d38 : decode yB 38 = .ok (.iinc 5 1, 3) := by decide +kernel
theorem d41 : decode yB 41 = .ok (.goto (-38), 3) := by decide +kernel
theorem d44 : decode yB 44 = .ok (.iload 4, 2) := by decide +kernel
theorem d46 : decode yB 46 = .ok (.ireturn, 1) := by decide +kernel
def site : List Cond := []
def tab : Cond := tabOf yN yB 7 (some .int) site
def P (b : Addr) (A : Cell) (d : Addr) (B : Cell) (o q len : Nat) (args : Array Value) (s : State) : Prop := args = #[.ref b, .int (Int32.ofNat o), .ref d, .int (Int32.ofNat q), .int (Int32.ofNat len)] ∧ Ch b A s ∧ Arr .byte d B s ∧ b ≠ d ∧ o + len ≤ A.slots.size ∧ q + len ≤ B.slots.size ∧ ∀ i, i < len → ¬ 255 < cv A (o + i)
def E (b : Addr) (A : Cell) (d : Addr) (B : Cell) (o q len : Nat) (r : Option Value) (s u : State) : Prop := r = some (.int (Int32.ofNat len)) ∧ ∃ B', Put d B' s u ∧ Laid B B' q (q + len) (fun j => Value.int (lo8 (cv A (o + (j - q)))))
/-- no char of the range above 255: len; the places written hold each char's low byte -/
theorem law (l : Launch) (b : Addr) (A : Cell) (d : Addr) (B : Cell) (o q len : Nat) : Law l yN 5 5 0 0 yB 7 (some .int) site (P b A d B o q len) (E b A d B o q len) (copyLocs d q len) 0 0 := by
  refine Law.of_walk (plainFor_of_name (by decide +kernel)) (by decide +kernel) (by decide +kernel) (by decide) (fun _ _ h => by rw [h.1]; rfl) (fun _ U U' hal hh h => ⟨h.1, h.2.1.mv hal hh, h.2.2.1.mv hal hh, h.2.2.2⟩) (fun r U U' V V' h1 hal h2 h => ⟨h.1, h.2.elim fun B' q => ⟨B', q.1.mv h1 h2, q.2⟩⟩) ?_
  intro p e s m args below meth c s₁ X0 hexec hbytes hml hret hlk hnm hown hh0 W hP
  obtain ⟨rfl, hA, hB, hne, l1, l2, hp⟩ := hP
  have c1 : Steps p.tables e below (s₁.setTop (entryFrame m #[.ref b, .int (Int32.ofNat o), .ref d, .int (Int32.ofNat q), .int (Int32.ofNat len)] 7)) (s₁.setTop (mkF m 0 #[.val (.ref b), .val (.int (Int32.ofNat o)), .val (.ref d), .val (.int (Int32.ofNat q)), .val (.int (Int32.ofNat len)), .unset, .unset] [])) := entry rfl
  have hA0 := hA.1.mv X0.warmed.alike hh0
  have hB0 := hB.mv X0.warmed.alike hh0
  have a31 := hA.1.2.2.2
  have c2 : Steps p.tables e below (s₁.setTop (entryFrame m #[.ref b, .int (Int32.ofNat o), .ref d, .int (Int32.ofNat q), .int (Int32.ofNat len)] 7)) (s₁.setTop (mkF m 3 #[.val (.ref b), .val (.int (Int32.ofNat o)), .val (.ref d), .val (.int (Int32.ofNat q)), .val (.int (Int32.ofNat len)), .val (.int 0), .unset] [])) := c1.trans (by
    refine iconstV X0.here hexec rfl 0 (hb hbytes d0) (by decide) ?_
    refine XS.istore X0.here hexec rfl (hb hbytes d1) rfl rfl ?_
    exact Steps.refl _)
  have loop : ∀ (r i : Nat), i + r = len → ∀ (z : Slot), (z = .unset ∨ ∃ w, z = .val w ∧ w.category = 1) → ∀ (Tl : State) (Bk : Cell), Stand p l e { frames := 0, locals := 0, cells := 0, slots := 0 } s m #[.ref b, .int (Int32.ofNat o), .ref d, .int (Int32.ofNat q), .int (Int32.ofNat len)] below meth c Tl ([] ++ copyLocs d q i) 0 0 → Put d Bk s₁ Tl → Laid B Bk q (q + i) (fun j => Value.int (lo8 (cv A (o + (j - q))))) →
      Steps p.tables e below (s₁.setTop (entryFrame m #[.ref b, .int (Int32.ofNat o), .ref d, .int (Int32.ofNat q), .int (Int32.ofNat len)] 7)) (Tl.setTop (mkF m 3 #[.val (.ref b), .val (.int (Int32.ofNat (o + i))), .val (.ref d), .val (.int (Int32.ofNat (q + i))), .val (.int (Int32.ofNat len)), .val (.int (Int32.ofNat i)), z] [])) → ∃ (T' : State) (B' : Cell) (z' : Slot), Stand p l e { frames := 0, locals := 0, cells := 0, slots := 0 } s m #[.ref b, .int (Int32.ofNat o), .ref d, .int (Int32.ofNat q), .int (Int32.ofNat len)] below meth c T' ([] ++ copyLocs d q len) 0 0 ∧ Put d B' s₁ T' ∧ Laid B B' q (q + len) (fun j => Value.int (lo8 (cv A (o + (j - q))))) ∧
      Steps p.tables e below (s₁.setTop (entryFrame m #[.ref b, .int (Int32.ofNat o), .ref d, .int (Int32.ofNat q), .int (Int32.ofNat len)] 7)) (T'.setTop (mkF m 3 #[.val (.ref b), .val (.int (Int32.ofNat (o + len))), .val (.ref d), .val (.int (Int32.ofNat (q + len))), .val (.int (Int32.ofNat len)), .val (.int (Int32.ofNat len)), z'] [])) := by
    intro r
    induction r with
    | zero =>
      intro i hi z hz Tl Bk Xl pl fl cl
      have hil : i = len := by omega
      rw [hil] at Xl fl cl
      exact ⟨Tl, Bk, z, Xl, pl, fl, cl⟩
    | succ r ih =>
      intro i hi z hz Tl Bk Xl pl fl cl
      have all := X0.warmed.alike.symm.trans Xl.warmed.alike
      have hAl := hA0.keep all (pl.other hne hA0.1)
      have hBk := hB0.like all pl.1 fl.1 fl.2.1 fl.2.2.1
      have hlt : q + i < Bk.slots.size := by rw [fl.2.2.1]; omega
      have c3 : Steps p.tables e below (s₁.setTop (entryFrame m #[.ref b, .int (Int32.ofNat o), .ref d, .int (Int32.ofNat q), .int (Int32.ofNat len)] 7)) (Tl.setTop (mkF m 12 #[.val (.ref b), .val (.int (Int32.ofNat (o + i))), .val (.ref d), .val (.int (Int32.ofNat (q + i))), .val (.int (Int32.ofNat len)), .val (.int (Int32.ofNat i)), z] [.int (Int32.ofNat (o + i)), .ref b])) := cl.trans (by
        refine XS.iload Xl.here hexec rfl (hb hbytes d3) rfl ?_
        refine XS.iload Xl.here hexec rfl (hb hbytes d5) rfl ?_
        refine XS.icmpNo Xl.here hexec rfl (hb hbytes d7) rfl (ii_ge_f (lt32 (by omega) (by omega))) ?_
        refine XS.aloadN Xl.here hexec rfl (hb hbytes d10) rfl rfl ?_
        refine XS.iloadN Xl.here hexec rfl (hb hbytes d11) rfl ?_
        exact Steps.refl _)
      have c4 : Steps p.tables e below (s₁.setTop (entryFrame m #[.ref b, .int (Int32.ofNat o), .ref d, .int (Int32.ofNat q), .int (Int32.ofNat len)] 7)) (Tl.setTop (mkF m 13 #[.val (.ref b), .val (.int (Int32.ofNat (o + i))), .val (.ref d), .val (.int (Int32.ofNat (q + i))), .val (.int (Int32.ofNat len)), .val (.int (Int32.ofNat i)), z] [.int (cv A (o + i))])) := c3.trans (by
        refine Xl.aget hexec hAl rfl (hA.get (i := o + i) (by omega)) rfl rfl (hb hbytes d12) ?_
        exact Steps.refl _)
      have c5 : Steps p.tables e below (s₁.setTop (entryFrame m #[.ref b, .int (Int32.ofNat o), .ref d, .int (Int32.ofNat q), .int (Int32.ofNat len)] 7)) (Tl.setTop (mkF m 15 #[.val (.ref b), .val (.int (Int32.ofNat (o + i))), .val (.ref d), .val (.int (Int32.ofNat (q + i))), .val (.int (Int32.ofNat len)), .val (.int (Int32.ofNat i)), .val (.int (cv A (o + i)))] [])) := c4.trans (by
        refine XS.istoreS Xl.here hexec rfl (hb hbytes d13) rfl rfl hz ?_
        exact Steps.refl _)
      have c6 : Steps p.tables e below (s₁.setTop (entryFrame m #[.ref b, .int (Int32.ofNat o), .ref d, .int (Int32.ofNat q), .int (Int32.ofNat len)] 7)) (Tl.setTop (mkF m 31 #[.val (.ref b), .val (.int (Int32.ofNat (o + i))), .val (.ref d), .val (.int (Int32.ofNat (q + i))), .val (.int (Int32.ofNat len)), .val (.int (Int32.ofNat i)), .val (.int (cv A (o + i)))] [.int (lo8 (cv A (o + i))), .int (Int32.ofNat (q + i)), .ref d])) := c5.trans (by
        refine XS.iload Xl.here hexec rfl (hb hbytes d15) rfl ?_
        refine sipushV Xl.here hexec rfl 255 (hb hbytes d17) (by decide) ?_
        refine XS.icmpYes Xl.here hexec rfl (pc0 := 20) rfl (hb hbytes d20) rfl (ii_le_t (hp i (by omega))) (by decide) rfl ?_
        refine XS.aloadN Xl.here hexec rfl (hb hbytes d26) rfl rfl ?_
        refine XS.iloadN Xl.here hexec rfl (hb hbytes d27) rfl ?_
        refine XS.iload Xl.here hexec rfl (hb hbytes d28) rfl ?_
        refine i2b Xl.here hexec rfl (hb hbytes d30) rfl ?_
        exact Steps.refl _)
      obtain ⟨T7, X7, p7, st7⟩ := Xl.aput hexec hBk rfl hlt rfl (fits_lo8 (cv A (o + i))) (g := (mkF m 31 #[.val (.ref b), .val (.int (Int32.ofNat (o + i))), .val (.ref d), .val (.int (Int32.ofNat (q + i))), .val (.int (Int32.ofNat len)), .val (.int (Int32.ofNat i)), .val (.int (cv A (o + i)))] [.int (lo8 (cv A (o + i))), .int (Int32.ofNat (q + i)), .ref d])) rfl (rest := []) rfl (hb hbytes d31)
      have c8 : Steps p.tables e below (s₁.setTop (entryFrame m #[.ref b, .int (Int32.ofNat o), .ref d, .int (Int32.ofNat q), .int (Int32.ofNat len)] 7)) (T7.setTop (mkF m 32 #[.val (.ref b), .val (.int (Int32.ofNat (o + i))), .val (.ref d), .val (.int (Int32.ofNat (q + i))), .val (.int (Int32.ofNat len)), .val (.int (Int32.ofNat i)), .val (.int (cv A (o + i)))] [])) := c6.trans (st7 _ (Steps.refl _))
      have c9 : Steps p.tables e below (s₁.setTop (entryFrame m #[.ref b, .int (Int32.ofNat o), .ref d, .int (Int32.ofNat q), .int (Int32.ofNat len)] 7)) (T7.setTop (mkF m 3 #[.val (.ref b), .val (.int (Int32.ofNat (o + i) + 1)), .val (.ref d), .val (.int (Int32.ofNat (q + i) + 1)), .val (.int (Int32.ofNat len)), .val (.int (Int32.ofNat i + 1)), .val (.int (cv A (o + i)))] [])) := c8.trans (by
        refine iincV X7.here hexec rfl 1 (hb hbytes d32) (by decide) rfl rfl ?_
        refine iincV X7.here hexec rfl 1 (hb hbytes d35) (by decide) rfl rfl ?_
        refine iincV X7.here hexec rfl 1 (hb hbytes d38) (by decide) rfl rfl ?_
        refine XS.goto X7.here hexec rfl (pc0 := 41) rfl (hb hbytes d41) (by decide) rfl ?_
        exact Steps.refl _)
      have c10 : Steps p.tables e below (s₁.setTop (entryFrame m #[.ref b, .int (Int32.ofNat o), .ref d, .int (Int32.ofNat q), .int (Int32.ofNat len)] 7)) (T7.setTop (mkF m 3 #[.val (.ref b), .val (.int (Int32.ofNat (o + (i + 1)))), .val (.ref d), .val (.int (Int32.ofNat (q + (i + 1)))), .val (.int (Int32.ofNat len)), .val (.int (Int32.ofNat (i + 1))), .val (.int (cv A (o + i)))] [])) := by
        have := c9
        rw [succ32, succ32, succ32] at this
        exact this
      exact ih (i + 1) (by omega) _ (Or.inr ⟨_, rfl, rfl⟩) T7 _ (by rw [copyLocs_step, ← List.append_assoc]; exact X7) (pl.trans p7) (fl.step (by omega) hlt (by simp)) c10
  obtain ⟨T9, B9, z9, X9, p9, f9, g9⟩ := loop len 0 (by omega) .unset (Or.inl rfl) s₁ B (by simpa [copyLocs] using X0) ⟨hB0.1, fun _ _ => rfl, rfl⟩ (Laid.zero _ _ _) c2
  have c11 : Steps p.tables e below (s₁.setTop (entryFrame m #[.ref b, .int (Int32.ofNat o), .ref d, .int (Int32.ofNat q), .int (Int32.ofNat len)] 7)) (T9.setTop (mkF m 46 #[.val (.ref b), .val (.int (Int32.ofNat (o + len))), .val (.ref d), .val (.int (Int32.ofNat (q + len))), .val (.int (Int32.ofNat len)), .val (.int (Int32.ofNat len)), z9] [.int (Int32.ofNat len)])) := g9.trans (by
    refine XS.iload X9.here hexec rfl (hb hbytes d3) rfl ?_
    refine XS.iload X9.here hexec rfl (hb hbytes d5) rfl ?_
    refine XS.icmpYes X9.here hexec rfl (pc0 := 7) rfl (hb hbytes d7) rfl (ii_ge_t (nlt32 (by omega) (Nat.le_refl _))) (by decide) rfl ?_
    refine XS.iload X9.here hexec rfl (hb hbytes d44) rfl ?_
    exact Steps.refl _)
  exact ⟨T9, some (.int (Int32.ofNat len)), _, _, _, X9, by simp, rfl, rfl, (fun h => by cases h), ⟨rfl, B9, p9.from hh0, f9⟩, fun fs hl => c11.trans (X9.ireturnOut hexec hret rfl (Or.inl rfl) (hb hbytes d46) hl)⟩
end Cmp5
namespace Cmp3
def yN : MethodName := ⟨"java/lang/StringUTF16", "compress", "([CII)[B"⟩
abbrev yB : ByteArray := jdk_52_method_16_code
theorem d0 : decode yB 0 = .ok (.iload_n 2, 1) := by decide +kernel
theorem d1 : decode yB 1 = .ok (.newarray .byte, 2) := by decide +kernel
theorem d3 : decode yB 3 = .ok (.astore_n 3, 1) := by decide +kernel
theorem d4 : decode yB 4 = .ok (.aload_n 0, 1) := by decide +kernel
theorem d5 : decode yB 5 = .ok (.iload_n 1, 1) := by decide +kernel
theorem d6 : decode yB 6 = .ok (.aload_n 3, 1) := by decide +kernel
theorem d7 : decode yB 7 = .ok (.iconst 0, 1) := by decide +kernel
theorem d8 : decode yB 8 = .ok (.iload_n 2, 1) := by decide +kernel
theorem d9 : decode yB 9 = .ok (.invokestatic 115, 3) := by decide +kernel
theorem d12 : decode yB 12 = .ok (.istore 4, 2) := by decide +kernel
theorem d14 : decode yB 14 = .ok (.iload 4, 2) := by decide +kernel
theorem d16 : decode yB 16 = .ok (.iload_n 2, 1) := by decide +kernel
theorem d17 : decode yB 17 = .ok (.if_icmp (.eq) 40, 3) := by decide +kernel
theorem d57 : decode yB 57 = .ok (.aload_n 3, 1) := by decide +kernel
theorem d58 : decode yB 58 = .ok (.areturn, 1) := by decide +kernel
def site : List Cond := [.arrayClass .byte, Cmp5.tab] ++ staticW U16 115 Cmp5.yN
def tab : Cond := tabOf yN yB 6 (some (.array .byte)) site
def P (b : Addr) (A : Cell) (o len : Nat) (args : Array Value) (s : State) : Prop := args = #[.ref b, .int (Int32.ofNat o), .int (Int32.ofNat len)] ∧ Ch b A s ∧ o + len ≤ A.slots.size ∧ len ≤ 536870912 ∧ ∀ i, i < len → ¬ 255 < cv A (o + i)
def E (b : Addr) (A : Cell) (o len : Nat) (r : Option Value) (s u : State) : Prop := NewArr .byte "[B" len (fun j => .int (lo8 (cv A (o + j)))) r s u ∧ u.heap.size = s.heap.size + 1
/-- no char of the range above 255: a new byte[] of their low bytes -/
theorem law (l : Launch) (b : Addr) (A : Cell) (o len : Nat) : Law l yN 3 3 1 18 yB 6 (some (.array .byte)) site (P b A o len) (E b A o len) [] 1 len := by
  refine Law.of_walk (plainFor_of_name (by decide +kernel)) (by decide +kernel) (by decide +kernel) (by decide) (fun _ _ h => by rw [h.1]; rfl) (fun _ U U' hal hh h => ⟨h.1, h.2.1.mv hal hh, h.2.2⟩) (fun r U U' V V' h1 hal h2 h => ⟨NewArr.mv r U U' V V' h1 hal h2 h.1, by rw [h1, h2]; exact h.2⟩) ?_
  intro p e s m args below meth c s₁ X0 hexec hbytes hml hret hlk hnm hown hh0 W hP
  obtain ⟨rfl, hA, l1, l2, hp⟩ := hP
  have a31 := hA.1.2.2.2
  have c1 : Steps p.tables e below (s₁.setTop (entryFrame m #[.ref b, .int (Int32.ofNat o), .int (Int32.ofNat len)] 6)) (s₁.setTop (mkF m 0 #[.val (.ref b), .val (.int (Int32.ofNat o)), .val (.int (Int32.ofNat len)), .unset, .unset, .unset] [])) := entry rfl
  have c2 : Steps p.tables e below (s₁.setTop (entryFrame m #[.ref b, .int (Int32.ofNat o), .int (Int32.ofNat len)] 6)) (s₁.setTop (mkF m 1 #[.val (.ref b), .val (.int (Int32.ofNat o)), .val (.int (Int32.ofNat len)), .unset, .unset, .unset] [.int (Int32.ofNat len)])) := c1.trans (by
    refine XS.iloadN X0.here hexec rfl (hb hbytes d0) rfl ?_
    exact Steps.refl _)
  obtain ⟨T3, B3, X3, ba3, bs3, bv3, bh3, bf3, st3⟩ := X0.anew hexec (atype := .byte) (wk W (.arrayClass .byte)) rfl (by show len * 1 ≤ _; omega) (by omega) (g := (mkF m 1 #[.val (.ref b), .val (.int (Int32.ofNat o)), .val (.int (Int32.ofNat len)), .unset, .unset, .unset] [.int (Int32.ofNat len)])) rfl (hb hbytes d1) (rest := []) rfl (Nat.le_refl _) (by show 0 + len ≤ len; omega)
  rw [hh0] at ba3 st3
  have kp3 : XT.Kept s T3 := (XT.Kept.of_eq hh0).push bh3
  have hA3 := hA.keep X3.warmed.alike (kp3 _ _ hA.1.1)
  have hne : b ≠ s.heap.size := hA.1.ne
  have c4 : Steps p.tables e below (s₁.setTop (entryFrame m #[.ref b, .int (Int32.ofNat o), .int (Int32.ofNat len)] 6)) (T3.setTop (mkF m 3 #[.val (.ref b), .val (.int (Int32.ofNat o)), .val (.int (Int32.ofNat len)), .unset, .unset, .unset] [.ref s.heap.size])) := c2.trans (st3 _ (Steps.refl _))
  have c5 : Steps p.tables e below (s₁.setTop (entryFrame m #[.ref b, .int (Int32.ofNat o), .int (Int32.ofNat len)] 6)) (T3.setTop (mkF m 9 #[.val (.ref b), .val (.int (Int32.ofNat o)), .val (.int (Int32.ofNat len)), .val (.ref s.heap.size), .unset, .unset] [.int (Int32.ofNat len), .int 0, .ref s.heap.size, .int (Int32.ofNat o), .ref b])) := c4.trans (by
    refine XS.astoreN X3.here hexec rfl (hb hbytes d3) rfl rfl rfl ?_
    refine XS.aloadN X3.here hexec rfl (hb hbytes d4) rfl rfl ?_
    refine XS.iloadN X3.here hexec rfl (hb hbytes d5) rfl ?_
    refine XS.aloadN X3.here hexec rfl (hb hbytes d6) rfl rfl ?_
    refine iconstV X3.here hexec rfl 0 (hb hbytes d7) (by decide) ?_
    refine XS.iloadN X3.here hexec rfl (hb hbytes d8) rfl ?_
    exact Steps.refl _)
  obtain ⟨v6, T6, X6, E6, g6⟩ := X3.callS hexec (Cmp5.law l b A s.heap.size B3 o 0 len) hown (wks W (staticW U16 115 Cmp5.yN)) (wk W Cmp5.tab) (W := 0) (Nat.le_of_ble_eq_true rfl) (Nat.le_of_ble_eq_true rfl) (Nat.le_refl _) (by show 0 + len + 0 ≤ len; omega) (g := (mkF m 9 #[.val (.ref b), .val (.int (Int32.ofNat o)), .val (.int (Int32.ofNat len)), .val (.ref s.heap.size), .unset, .unset] [.int (Int32.ofNat len), .int (Int32.ofNat 0), .ref s.heap.size, .int (Int32.ofNat o), .ref b])) rfl (by rw [hml]; rfl) c5 (argsL := [.ref b, .int (Int32.ofNat o), .ref s.heap.size, .int (Int32.ofNat 0), .int (Int32.ofNat len)]) (rest := []) rfl rfl (by show 2 * 0 + 0 ≤ _; decide) (hb hbytes d9) (⟨rfl, hA3, ba3, hne, l1, by rw [bs3]; simp, hp⟩)
  obtain ⟨rfl, B6, p6, f6⟩ := E6
  have c7 : Steps p.tables e below (s₁.setTop (entryFrame m #[.ref b, .int (Int32.ofNat o), .int (Int32.ofNat len)] 6)) (T6.setTop (mkF m 12 #[.val (.ref b), .val (.int (Int32.ofNat o)), .val (.int (Int32.ofNat len)), .val (.ref s.heap.size), .unset, .unset] [.int (Int32.ofNat len)])) := g6
  have c8 : Steps p.tables e below (s₁.setTop (entryFrame m #[.ref b, .int (Int32.ofNat o), .int (Int32.ofNat len)] 6)) (T6.setTop (mkF m 58 #[.val (.ref b), .val (.int (Int32.ofNat o)), .val (.int (Int32.ofNat len)), .val (.ref s.heap.size), .val (.int (Int32.ofNat len)), .unset] [.ref s.heap.size])) := c7.trans (by
    refine XS.istore X6.here hexec rfl (hb hbytes d12) rfl rfl ?_
    refine XS.iload X6.here hexec rfl (hb hbytes d14) rfl ?_
    refine XS.iloadN X6.here hexec rfl (hb hbytes d16) rfl ?_
    refine XS.icmpYes X6.here hexec rfl (pc0 := 17) rfl (hb hbytes d17) rfl (ii_eq_t rfl) (by decide) rfl ?_
    refine XS.aloadN X6.here hexec rfl (hb hbytes d57) rfl rfl ?_
    exact Steps.refl _)
  have X8 := X6.wide (L' := []) (cells' := 1) (slots' := len) (fun x hx hlt => by
    simp only [List.nil_append, copyLocs, List.mem_map, List.mem_range] at hx
    obtain ⟨i, -, rfl⟩ := hx
    exact absurd hlt (Nat.lt_irrefl _)) (Nat.le_refl _) (by omega)
  exact ⟨T6, some (.ref s.heap.size), _, _, _, X8, rfl, rfl, rfl, (fun h => by cases h), ⟨⟨rfl, B6, ba3.like (X3.warmed.alike.symm.trans X6.warmed.alike) p6.1 f6.1 f6.2.1 f6.2.2.1, f6.2.1.trans bv3, by rw [X6.warmed.alike.findClass, f6.1]; exact bf3, by rw [f6.2.2.1, bs3]; simp, fun j hj => by rw [f6.2.2.2 j, if_pos (by omega)]; rfl, kp3.put p6 (Nat.le_refl _)⟩, by rw [p6.2.2, bh3, hh0]; simp⟩, fun fs hl => c8.trans (X8.areturnOut hexec rfl hret rfl (hb hbytes d58) hl)⟩
end Cmp3
namespace CodL
def yN : MethodName := ⟨"java/lang/StringUTF16", "coderFromArrayLen", "([BI)B"⟩
abbrev yB : ByteArray := jdk_52_method_15_code
theorem d0 : decode yB 0 = .ok (.iload_n 1, 1) := by decide +kernel
theorem d1 : decode yB 1 = .ok (.aload_n 0, 1) := by decide +kernel
theorem d2 : decode yB 2 = .ok (.arraylength, 1) := by decide +kernel
theorem d3 : decode yB 3 = .ok (.isub, 1) := by decide +kernel
theorem d4 : decode yB 4 = .ok (.bipush 31, 2) := by decide +kernel
theorem d6 : decode yB 6 = .ok (.iushr, 1) := by decide +kernel
theorem d7 : decode yB 7 = .ok (.i2b, 1) := by decide +kernel
theorem d8 : decode yB 8 = .ok (.ireturn, 1) := by decide +kernel
def site : List Cond := []
def tab : Cond := tabOf yN yB 2 (some .byte) site
def P (d : Addr) (B : Cell) (args : Array Value) (s : State) : Prop := args = #[.ref d, .int (Int32.ofNat B.slots.size)] ∧ Arr .byte d B s
def E (r : Option Value) (s u : State) : Prop := XT.PureE (some (.int 0)) r s u
/-- an array as long as the number of chars: LATIN1 -/
theorem law (l : Launch) (d : Addr) (B : Cell) : Law l yN 2 2 0 0 yB 2 (some .byte) site (P d B) E [] 0 0 := by
  refine Law.of_walk (plainFor_of_name (by decide +kernel)) (by decide +kernel) (by decide +kernel) (by decide) (fun _ _ h => by rw [h.1]; rfl) (fun _ U U' hal hh h => ⟨h.1, h.2.mv hal hh⟩) (fun r U U' V V' h1 hal h2 h => XT.PureE.mv r U U' V V' h1 hal h2 h) ?_
  intro p e s m args below meth c s₁ X0 hexec hbytes hml hret hlk hnm hown hh0 W hP
  obtain ⟨rfl, hB⟩ := hP
  have hB0 := hB.mv X0.warmed.alike hh0
  have c1 : Steps p.tables e below (s₁.setTop (entryFrame m #[.ref d, .int (Int32.ofNat B.slots.size)] 2)) (s₁.setTop (mkF m 0 #[.val (.ref d), .val (.int (Int32.ofNat B.slots.size))] [])) := entry rfl
  have c2 : Steps p.tables e below (s₁.setTop (entryFrame m #[.ref d, .int (Int32.ofNat B.slots.size)] 2)) (s₁.setTop (mkF m 2 #[.val (.ref d), .val (.int (Int32.ofNat B.slots.size))] [.ref d, .int (Int32.ofNat B.slots.size)])) := c1.trans (by
    refine XS.iloadN X0.here hexec rfl (hb hbytes d0) rfl ?_
    refine XS.aloadN X0.here hexec rfl (hb hbytes d1) rfl rfl ?_
    exact Steps.refl _)
  have c3 : Steps p.tables e below (s₁.setTop (entryFrame m #[.ref d, .int (Int32.ofNat B.slots.size)] 2)) (s₁.setTop (mkF m 8 #[.val (.ref d), .val (.int (Int32.ofNat B.slots.size))] [.int (lo8 (ushr (Int32.ofNat B.slots.size - Int32.ofNat B.slots.size) 31))])) := c2.trans (by
    refine X0.alen hexec hB0 rfl rfl (hb hbytes d2) ?_
    refine XS.isub X0.here hexec rfl (hb hbytes d3) rfl ?_
    refine bipushV X0.here hexec rfl 31 (hb hbytes d4) (by decide) ?_
    refine iushr X0.here hexec rfl (hb hbytes d6) rfl ?_
    refine i2b X0.here hexec rfl (hb hbytes d7) rfl ?_
    exact Steps.refl _)
  have e0 : lo8 (ushr (Int32.ofNat B.slots.size - Int32.ofNat B.slots.size) 31) = 0 := by rw [Int32.sub_self]; decide
  rw [e0] at c3
  exact ⟨s₁, some (.int 0), _, _, _, X0, rfl, rfl, rfl, (fun h => by cases h), ⟨rfl, hh0⟩, fun fs hl => c3.trans (X0.ireturnOut hexec hret rfl (Or.inr (Or.inr (Or.inl rfl))) (hb hbytes d8) hl)⟩
end CodL
/-- the String at a is Latin-1 over a new byte[] (the heap's one new cell): the low bytes of the len chars of A from o on; every cell but a is kept -/
def Got (a : Addr) (D : Cell) (fV fC : Field) (A : Cell) (o len : Nat) (r : Option Value) (s u : State) : Prop := r = none ∧ ∃ D' V : Cell, Blank "java/lang/String" a D' u ∧ Same D D' [fV.slot, fC.slot] ∧ D'.slots[fV.slot]? = some (.ref s.heap.size) ∧ D'.slots[fC.slot]? = some (.int 0) ∧ Arr .byte s.heap.size V u ∧ V.vm = .none ∧ u.vm.findClass "[B" = some V.cls ∧ V.slots.size = len ∧ (∀ j, j < len → V.slots[j]? = some (.int (lo8 (cv A (o + j))))) ∧ (∀ (y : Addr) (c : Cell), y ≠ a → s.heap[y]? = some c → u.heap[y]? = some c) ∧ u.heap.size = s.heap.size + 1
theorem Got.mv {a : Addr} {D A : Cell} {fV fC : Field} {o len : Nat} : ∀ r (U U' V V' : State), U'.heap = U.heap → V.vm.Alike V'.vm → V'.heap = V.heap → Got a D fV fC A o len r U V → Got a D fV fC A o len r U' V' :=
  fun r U U' V V' h1 hal h2 ⟨e0, D', X, a1, a2, a3, a4, a5, a6, a7, a8, a9, a10, a11⟩ => ⟨e0, D', X, a1.mv hal h2, a2, by rw [h1]; exact a3, a4, by rw [h1]; exact a5.mv hal h2, a6, by rw [hal.findClass]; exact a7, a8, a9, by rw [h1, h2]; exact a10, by rw [h1, h2]; exact a11⟩
namespace New4
def yN : MethodName := ⟨"java/lang/String", "<init>", "([CIILjava/lang/Void;)V"⟩
abbrev yB : ByteArray := jdk_42_method_149_code
theorem d0 : decode yB 0 = .ok (.aload_n 0, 1) := by decide +kernel
theorem d1 : decode yB 1 = .ok (.invokespecial 1, 3) := by decide +kernel
theorem d4 : decode yB 4 = .ok (.iload_n 3, 1) := by decide +kernel
theorem d5 : decode yB 5 = .ok (.ifCond (.ne) 22, 3) := by decide +kernel
theorem d27 : decode yB 27 = .ok (.getstatic 38, 3) := by decide +kernel
theorem d30 : decode yB 30 = .ok (.ifCond (.eq) 28, 3) := by decide +kernel
theorem d33 : decode yB 33 = .ok (.aload_n 1, 1) := by decide +kernel
theorem d34 : decode yB 34 = .ok (.iload_n 2, 1) := by decide +kernel
theorem d35 : decode yB 35 = .ok (.iload_n 3, 1) := by decide +kernel
theorem d36 : decode yB 36 = .ok (.invokestatic 177, 3) := by decide +kernel
theorem d39 : decode yB 39 = .ok (.astore 5, 2) := by decide +kernel
theorem d41 : decode yB 41 = .ok (.aload_n 0, 1) := by decide +kernel
theorem d42 : decode yB 42 = .ok (.aload 5, 2) := by decide +kernel
theorem d44 : decode yB 44 = .ok (.iload_n 3, 1) := by decide +kernel
theorem d45 : decode yB 45 = .ok (.invokestatic 47, 3) := by decide +kernel
theorem d48 : decode yB 48 = .ok (.putfield 15, 3) := by decide +kernel
theorem d51 : decode yB 51 = .ok (.aload_n 0, 1) := by decide +kernel
theorem d52 : decode yB 52 = .ok (.aload 5, 2) := by decide +kernel
theorem d54 : decode yB 54 = .ok (.putfield 9, 3) := by decide +kernel
theorem d57 : decode yB 57 = .ok (.return_, 1) := by decide +kernel
def site : List Cond := [.fieldLink "java/lang/String" 38 "java/lang/String" "COMPACT_STRINGS" "Z", Cmp3.tab, CodL.tab, .laysFinal "java/lang/String" "java/lang/String" "value" "[B", .fieldLink "java/lang/String" 9 "java/lang/String" "value" "[B", .laysFinal "java/lang/String" "java/lang/String" "coder" "B", .fieldLink "java/lang/String" 15 "java/lang/String" "coder" "B"] ++ objW "java/lang/String" 1 ++ staticW "java/lang/String" 177 Cmp3.yN ++ staticW "java/lang/String" 47 CodL.yN
def tab : Cond := tabOf yN yB 6 none site
def P (a : Addr) (D : Cell) (fV fC : Field) (b : Addr) (A : Cell) (z : Int32) (o len : Nat) (args : Array Value) (s : State) : Prop := args = #[.ref a, .ref b, .int (Int32.ofNat o), .int (Int32.ofNat len), .null] ∧ Blank "java/lang/String" a D s ∧ Found "java/lang/String" "value" "[B" fV s ∧ Found "java/lang/String" "coder" "B" fC s ∧ Ch b A s ∧ StaticIs s "java/lang/String" "COMPACT_STRINGS" "Z" (.int z) ∧ ¬ z = 0 ∧ 0 < len ∧ o + len ≤ A.slots.size ∧ len ≤ 536870912 ∧ ∀ i, i < len → ¬ 255 < cv A (o + i)
def E (a : Addr) (D : Cell) (fV fC : Field) (A : Cell) (o len : Nat) (r : Option Value) (s u : State) : Prop := Got a D fV fC A o len r s u
/-- len > 0, no char of the range above 255: a Latin-1 String of their low bytes -/
theorem law (l : Launch) (a : Addr) (D : Cell) (fV fC : Field) (b : Addr) (A : Cell) (z : Int32) (o len : Nat) : Law l yN 5 4 2 35 yB 6 none site (P a D fV fC b A z o len) (E a D fV fC A o len) [⟨a, fC.slot⟩, ⟨a, fV.slot⟩] 1 len := by
  refine Law.of_walk (plainFor_of_name (by decide +kernel)) (by decide +kernel) (by decide +kernel) (by decide) (fun _ _ h => by rw [h.1]; rfl) (fun _ U U' hal hh h => ⟨h.1, h.2.1.mv hal hh, h.2.2.1.al hal, h.2.2.2.1.al hal, h.2.2.2.2.1.mv hal hh, h.2.2.2.2.2.1.there hal hh, h.2.2.2.2.2.2⟩) (fun r U U' V V' h1 hal h2 h => Got.mv r U U' V V' h1 hal h2 h) ?_
  intro p e s m args below meth c s₁ X0 hexec hbytes hml hret hlk hnm hown hh0 W hP
  obtain ⟨rfl, hB, f1, f2, hA, s1, hz, l0, l1, l2, hp⟩ := hP
  have a31 := hA.1.2.2.2
  have c1 : Steps p.tables e below (s₁.setTop (entryFrame m #[.ref a, .ref b, .int (Int32.ofNat o), .int (Int32.ofNat len), .null] 6)) (s₁.setTop (mkF m 0 #[.val (.ref a), .val (.ref b), .val (.int (Int32.ofNat o)), .val (.int (Int32.ofNat len)), .val .null, .unset] [])) := entry rfl
  have c2 : Steps p.tables e below (s₁.setTop (entryFrame m #[.ref a, .ref b, .int (Int32.ofNat o), .int (Int32.ofNat len), .null] 6)) (s₁.setTop (mkF m 1 #[.val (.ref a), .val (.ref b), .val (.int (Int32.ofNat o)), .val (.int (Int32.ofNat len)), .val .null, .unset] [.ref a])) := c1.trans (by
    refine XS.aloadN X0.here hexec rfl (hb hbytes d0) rfl rfl ?_
    exact Steps.refl _)
  obtain ⟨T3, X3, q3, st3⟩ := X0.oinit hexec hown (wks W (objW "java/lang/String" 1)) (g := (mkF m 1 #[.val (.ref a), .val (.ref b), .val (.int (Int32.ofNat o)), .val (.int (Int32.ofNat len)), .val .null, .unset] [.ref a])) rfl (by rw [hml]; rfl) (rest := []) rfl (hb hbytes d1) (W := 0) (by show 2 * 0 + 0 ≤ _; decide) (Nat.le_of_ble_eq_true rfl) (Nat.le_of_ble_eq_true rfl)
  have hh3 := q3.trans hh0
  have c4 : Steps p.tables e below (s₁.setTop (entryFrame m #[.ref a, .ref b, .int (Int32.ofNat o), .int (Int32.ofNat len), .null] 6)) (T3.setTop (mkF m 27 #[.val (.ref a), .val (.ref b), .val (.int (Int32.ofNat o)), .val (.int (Int32.ofNat len)), .val .null, .unset] [])) := (c2.trans (st3 _ (Steps.refl _))).trans (by
    refine XS.iloadN X3.here hexec rfl (hb hbytes d4) rfl ?_
    refine XS.ifYes X3.here hexec rfl (pc0 := 5) rfl (hb hbytes d5) rfl (i0_ne_t (nz32 (by omega) l0)) (by decide) rfl ?_
    exact Steps.refl _)
  obtain ⟨T5, X5, q5, st5⟩ := X3.sget hexec hown (wk W (.fieldLink "java/lang/String" 38 "java/lang/String" "COMPACT_STRINGS" "Z")) s1 (fun _ _ h => by rw [hh3]; exact h) (g := (mkF m 27 #[.val (.ref a), .val (.ref b), .val (.int (Int32.ofNat o)), .val (.int (Int32.ofNat len)), .val .null, .unset] [])) rfl (hb hbytes d27)
  have hh5 := q5.trans hh3
  have c6 : Steps p.tables e below (s₁.setTop (entryFrame m #[.ref a, .ref b, .int (Int32.ofNat o), .int (Int32.ofNat len), .null] 6)) (T5.setTop (mkF m 30 #[.val (.ref a), .val (.ref b), .val (.int (Int32.ofNat o)), .val (.int (Int32.ofNat len)), .val .null, .unset] [.int z])) := c4.trans (st5 _ (Steps.refl _))
  have c7 : Steps p.tables e below (s₁.setTop (entryFrame m #[.ref a, .ref b, .int (Int32.ofNat o), .int (Int32.ofNat len), .null] 6)) (T5.setTop (mkF m 36 #[.val (.ref a), .val (.ref b), .val (.int (Int32.ofNat o)), .val (.int (Int32.ofNat len)), .val .null, .unset] [.int (Int32.ofNat len), .int (Int32.ofNat o), .ref b])) := c6.trans (by
    refine XS.ifNo X5.here hexec rfl (hb hbytes d30) rfl (i0_eq_f hz) ?_
    refine XS.aloadN X5.here hexec rfl (hb hbytes d33) rfl rfl ?_
    refine XS.iloadN X5.here hexec rfl (hb hbytes d34) rfl ?_
    refine XS.iloadN X5.here hexec rfl (hb hbytes d35) rfl ?_
    exact Steps.refl _)
  obtain ⟨v8, T8, X8, E8, g8⟩ := X5.callS hexec (Cmp3.law l b A o len) hown (wks W (staticW "java/lang/String" 177 Cmp3.yN)) (wk W Cmp3.tab) (W := 0) (Nat.le_of_ble_eq_true rfl) (Nat.le_of_ble_eq_true rfl) (Nat.le_refl _) (by show 0 + len ≤ len; omega) (g := (mkF m 36 #[.val (.ref a), .val (.ref b), .val (.int (Int32.ofNat o)), .val (.int (Int32.ofNat len)), .val .null, .unset] [.int (Int32.ofNat len), .int (Int32.ofNat o), .ref b])) rfl (by rw [hml]; rfl) c7 (argsL := [.ref b, .int (Int32.ofNat o), .int (Int32.ofNat len)]) (rest := []) rfl rfl (by show 2 * 0 + 0 ≤ _; decide) (hb hbytes d36) (⟨rfl, hA.mv X5.warmed.alike hh5, l1, l2, hp⟩)
  obtain ⟨e8, z8⟩ := E8
  obtain ⟨rfl, N, n1, n2, n3, n4, n5, n6⟩ := NewArr.mv _ T5 s _ _ hh5.symm (Vm.Alike.refl _) rfl e8
  rw [hh5] at z8
  have hB1 := hB.keep X8.warmed.alike (n6 _ _ hB.1)
  have hne : s.heap.size ≠ a := (Nat.ne_of_lt (Array.getElem?_eq_some_iff.mp hB.1).1).symm
  have c9 : Steps p.tables e below (s₁.setTop (entryFrame m #[.ref a, .ref b, .int (Int32.ofNat o), .int (Int32.ofNat len), .null] 6)) (T8.setTop (mkF m 39 #[.val (.ref a), .val (.ref b), .val (.int (Int32.ofNat o)), .val (.int (Int32.ofNat len)), .val .null, .unset] [.ref s.heap.size])) := g8
  have c10 : Steps p.tables e below (s₁.setTop (entryFrame m #[.ref a, .ref b, .int (Int32.ofNat o), .int (Int32.ofNat len), .null] 6)) (T8.setTop (mkF m 45 #[.val (.ref a), .val (.ref b), .val (.int (Int32.ofNat o)), .val (.int (Int32.ofNat len)), .val .null, .val (.ref s.heap.size)] [.int (Int32.ofNat N.slots.size), .ref s.heap.size, .ref a])) := by
    have hc : Steps p.tables e below (s₁.setTop (entryFrame m #[.ref a, .ref b, .int (Int32.ofNat o), .int (Int32.ofNat len), .null] 6)) (T8.setTop (mkF m 45 #[.val (.ref a), .val (.ref b), .val (.int (Int32.ofNat o)), .val (.int (Int32.ofNat len)), .val .null, .val (.ref s.heap.size)] [.int (Int32.ofNat len), .ref s.heap.size, .ref a])) := c9.trans (by
      refine XS.astore X8.here hexec rfl (hb hbytes d39) rfl rfl rfl ?_
      refine XS.aloadN X8.here hexec rfl (hb hbytes d41) rfl rfl ?_
      refine XS.aload X8.here hexec rfl (hb hbytes d42) rfl rfl ?_
      refine XS.iloadN X8.here hexec rfl (hb hbytes d44) rfl ?_
      exact Steps.refl _)
    rw [n4]; exact hc
  obtain ⟨v11, T11, X11, E11, g11⟩ := X8.callS hexec (CodL.law l s.heap.size N) hown (wks W (staticW "java/lang/String" 47 CodL.yN)) (wk W CodL.tab) (W := 1) (Nat.le_of_ble_eq_true rfl) (Nat.le_of_ble_eq_true rfl) (Nat.le_refl _) (by show 0 + len + 0 ≤ len; omega) (g := (mkF m 45 #[.val (.ref a), .val (.ref b), .val (.int (Int32.ofNat o)), .val (.int (Int32.ofNat len)), .val .null, .val (.ref s.heap.size)] [.int (Int32.ofNat N.slots.size), .ref s.heap.size, .ref a])) rfl (by rw [hml]; rfl) c10 (argsL := [.ref s.heap.size, .int (Int32.ofNat N.slots.size)]) (rest := [.ref a]) rfl rfl (by show 2 * 0 + (1 + 0) ≤ _; decide) (hb hbytes d45) (⟨rfl, n1⟩)
  obtain ⟨rfl, q11⟩ := E11
  have hB11 := hB1.mv (X8.warmed.alike.symm.trans X11.warmed.alike) q11
  have c12 : Steps p.tables e below (s₁.setTop (entryFrame m #[.ref a, .ref b, .int (Int32.ofNat o), .int (Int32.ofNat len), .null] 6)) (T11.setTop (mkF m 48 #[.val (.ref a), .val (.ref b), .val (.int (Int32.ofNat o)), .val (.int (Int32.ofNat len)), .val .null, .val (.ref s.heap.size)] [.int 0, .ref a])) := g11
  obtain ⟨T13, X13, p13, bl13, sl13, st13⟩ := X11.finit hexec hown (wk W (.fieldLink "java/lang/String" 15 "java/lang/String" "coder" "B")) (Or.inr ⟨_, (wk W (.laysFinal "java/lang/String" "java/lang/String" "coder" "B"))⟩) (Or.inl ⟨rfl, hnm⟩) f2 (Or.inl rfl) hB11 (t := .byte) (by decide +kernel) rfl (g := (mkF m 48 #[.val (.ref a), .val (.ref b), .val (.int (Int32.ofNat o)), .val (.int (Int32.ofNat len)), .val .null, .val (.ref s.heap.size)] [.int 0, .ref a])) rfl (rest := []) rfl (hb hbytes d48)
  have c14 : Steps p.tables e below (s₁.setTop (entryFrame m #[.ref a, .ref b, .int (Int32.ofNat o), .int (Int32.ofNat len), .null] 6)) (T13.setTop (mkF m 54 #[.val (.ref a), .val (.ref b), .val (.int (Int32.ofNat o)), .val (.int (Int32.ofNat len)), .val .null, .val (.ref s.heap.size)] [.ref s.heap.size, .ref a])) := (c12.trans (st13 _ (Steps.refl _))).trans (by
    refine XS.aloadN X13.here hexec rfl (hb hbytes d51) rfl rfl ?_
    refine XS.aload X13.here hexec rfl (hb hbytes d52) rfl rfl ?_
    exact Steps.refl _)
  obtain ⟨T15, X15, p15, bl15, sl15, st15⟩ := X13.finit hexec hown (wk W (.fieldLink "java/lang/String" 9 "java/lang/String" "value" "[B")) (Or.inr ⟨_, (wk W (.laysFinal "java/lang/String" "java/lang/String" "value" "[B"))⟩) (Or.inl ⟨rfl, hnm⟩) f1 (Or.inl rfl) bl13 (t := (.array .byte)) (by decide +kernel) rfl (g := (mkF m 54 #[.val (.ref a), .val (.ref b), .val (.int (Int32.ofNat o)), .val (.int (Int32.ofNat len)), .val .null, .val (.ref s.heap.size)] [.ref s.heap.size, .ref a])) rfl (rest := []) rfl (hb hbytes d54)
  have c16 : Steps p.tables e below (s₁.setTop (entryFrame m #[.ref a, .ref b, .int (Int32.ofNat o), .int (Int32.ofNat len), .null] 6)) (T15.setTop (mkF m 57 #[.val (.ref a), .val (.ref b), .val (.int (Int32.ofNat o)), .val (.int (Int32.ofNat len)), .val .null, .val (.ref s.heap.size)] [])) := c14.trans (st15 _ (Steps.refl _))
  have ap := apart (Or.inr ⟨_, (wk W (.laysFinal "java/lang/String" "java/lang/String" "value" "[B"))⟩) (Or.inr ⟨_, (wk W (.laysFinal "java/lang/String" "java/lang/String" "coder" "B"))⟩) f1 f2 (t₁ := .array .byte) (t₂ := .byte) (by decide +kernel) (by decide +kernel) (by decide)
  have al := X8.warmed.alike.symm.trans X15.warmed.alike
  have n7 : T11.heap[s.heap.size]? = some N := by rw [q11]; exact n1.1
  exact ⟨T15, none, _, _, _, X15, by simp, rfl, by omega, (fun _ => rfl), ⟨rfl, _, N, bl15, ((Same.refl D _).set _ (by simp)).set _ (by simp), sl15, (Cell.slots_setSlot_ne _ ap).trans sl13, n1.keep al (p15.other hne (p13.other hne n7)), n2, by rw [al.findClass]; exact n3, n4, n5, fun y c h1 h2 => p15.other h1 (p13.other h1 (by rw [q11]; exact n6 y c h2)), by rw [p15.2.2, p13.2.2, q11]; exact z8⟩, fun fs hl => c16.trans (X15.returnOut hexec hret (hb hbytes d57) hl)⟩
end New4
namespace New1
def yN : MethodName := ⟨"java/lang/String", "<init>", "([C)V"⟩
abbrev yB : ByteArray := jdk_42_method_3_code
theorem d0 : decode yB 0 = .ok (.aload_n 0, 1) := by decide +kernel
theorem d1 : decode yB 1 = .ok (.aload_n 1, 1) := by decide +kernel
theorem d2 : decode yB 2 = .ok (.iconst 0, 1) := by decide +kernel
theorem d3 : decode yB 3 = .ok (.aload_n 1, 1) := by decide +kernel
theorem d4 : decode yB 4 = .ok (.arraylength, 1) := by decide +kernel
theorem d5 : decode yB 5 = .ok (.aconst_null, 1) := by decide +kernel
theorem d6 : decode yB 6 = .ok (.invokespecial 27, 3) := by decide +kernel
theorem d9 : decode yB 9 = .ok (.return_, 1) := by decide +kernel
def site : List Cond := [New4.tab] ++ initW "java/lang/String" 27 New4.yN
def tab : Cond := tabOf yN yB 2 none site
def P (a : Addr) (D : Cell) (fV fC : Field) (b : Addr) (A : Cell) (z : Int32) (args : Array Value) (s : State) : Prop := args = #[.ref a, .ref b] ∧ Blank "java/lang/String" a D s ∧ Found "java/lang/String" "value" "[B" fV s ∧ Found "java/lang/String" "coder" "B" fC s ∧ Ch b A s ∧ StaticIs s "java/lang/String" "COMPACT_STRINGS" "Z" (.int z) ∧ ¬ z = 0 ∧ 0 < A.slots.size ∧ A.slots.size ≤ 536870912 ∧ ∀ i, i < A.slots.size → ¬ 255 < cv A i
def E (a : Addr) (D : Cell) (fV fC : Field) (A : Cell) (r : Option Value) (s u : State) : Prop := Got a D fV fC A 0 A.slots.size r s u
/-- new String(chars), not empty, no char above 255: a Latin-1 String of their low bytes -/
theorem law (l : Launch) (a : Addr) (D : Cell) (fV fC : Field) (b : Addr) (A : Cell) (z : Int32) : Law l yN 2 1 3 52 yB 2 none site (P a D fV fC b A z) (E a D fV fC A) [⟨a, fC.slot⟩, ⟨a, fV.slot⟩] 1 A.slots.size := by
  refine Law.of_walk (plainFor_of_name (by decide +kernel)) (by decide +kernel) (by decide +kernel) (by decide) (fun _ _ h => by rw [h.1]; rfl) (fun _ U U' hal hh h => ⟨h.1, h.2.1.mv hal hh, h.2.2.1.al hal, h.2.2.2.1.al hal, h.2.2.2.2.1.mv hal hh, h.2.2.2.2.2.1.there hal hh, h.2.2.2.2.2.2⟩) (fun r U U' V V' h1 hal h2 h => Got.mv r U U' V V' h1 hal h2 h) ?_
  intro p e s m args below meth c s₁ X0 hexec hbytes hml hret hlk hnm hown hh0 W hP
  obtain ⟨rfl, hB, f1, f2, hA, s1, hz, l0, l2, hp⟩ := hP
  have c1 : Steps p.tables e below (s₁.setTop (entryFrame m #[.ref a, .ref b] 2)) (s₁.setTop (mkF m 0 #[.val (.ref a), .val (.ref b)] [])) := entry rfl
  have c2 : Steps p.tables e below (s₁.setTop (entryFrame m #[.ref a, .ref b] 2)) (s₁.setTop (mkF m 6 #[.val (.ref a), .val (.ref b)] [.null, .int (Int32.ofNat A.slots.size), .int 0, .ref b, .ref a])) := c1.trans (by
    refine XS.aloadN X0.here hexec rfl (hb hbytes d0) rfl rfl ?_
    refine XS.aloadN X0.here hexec rfl (hb hbytes d1) rfl rfl ?_
    refine iconstV X0.here hexec rfl 0 (hb hbytes d2) (by decide) ?_
    refine XS.aloadN X0.here hexec rfl (hb hbytes d3) rfl rfl ?_
    refine X0.alen hexec (hA.1.mv X0.warmed.alike hh0) rfl rfl (hb hbytes d4) ?_
    refine XS.aconstNull X0.here hexec rfl (hb hbytes d5) ?_
    exact Steps.refl _)
  obtain ⟨v3, T3, X3, E3, g3⟩ := X0.callN hexec (New4.law l a D fV fC b A z 0 A.slots.size) rfl hown (wks W (initW "java/lang/String" 27 New4.yN)) (W New4.tab (by simp only [site, List.mem_cons, List.mem_append, true_or, or_true])) (W := 0) (Nat.le_of_ble_eq_true rfl) (Nat.le_of_ble_eq_true rfl) (Nat.le_refl _) (by show 0 + A.slots.size ≤ A.slots.size; omega) (g := (mkF m 6 #[.val (.ref a), .val (.ref b)] [.null, .int (Int32.ofNat A.slots.size), .int (Int32.ofNat 0), .ref b, .ref a])) rfl (by rw [hml]; rfl) c2 (argsL := [.ref b, .int (Int32.ofNat 0), .int (Int32.ofNat A.slots.size), .null]) (rest := []) rfl rfl (by show 2 * 0 + 0 ≤ _; decide) (hb hbytes d6) (⟨rfl, hB.mv X0.warmed.alike hh0, f1.al X0.warmed.alike, f2.al X0.warmed.alike, hA.mv X0.warmed.alike hh0, s1.there X0.warmed.alike hh0, hz, l0, by omega, l2, fun i hi => by rw [Nat.zero_add]; exact hp i hi⟩)
  have e0 := Got.mv _ s₁ s _ _ hh0.symm (Vm.Alike.refl _) rfl E3
  obtain rfl := e0.1
  have c4 : Steps p.tables e below (s₁.setTop (entryFrame m #[.ref a, .ref b] 2)) (T3.setTop (mkF m 9 #[.val (.ref a), .val (.ref b)] [])) := g3
  exact ⟨T3, none, _, _, _, X3, by simp, rfl, by omega, (fun _ => rfl), e0, fun fs hl => c4.trans (X3.returnOut hexec hret (hb hbytes d9) hl)⟩
theorem pays {l : Launch} {R : Room} {p : Program} {e : Env} {below : List Frame} {s : State} {sargs : Array Value} {len W : Nat} (a : Addr) (D : Cell) (fV fC : Field) (b : Addr) (A : Cell) (z : Int32) (htab : tab.before sargs s = true) (hfr : 4 ≤ R.frames) (hlo : W + 65 ≤ R.locals) :
    Back l R p e below s sargs yN len W (fun A₁ a₁ => A₁.cells + 1 ≤ R.cells ∧ A₁.slots + A.slots.size ≤ R.slots ∧ P a D fV fC b A z a₁ A₁.U) (fun A₁ _ v₁ B₁ => E a D fV fC A v₁ A₁.U B₁.U ∧ B₁.locs = A₁.locs ++ [⟨a, fC.slot⟩, ⟨a, fV.slot⟩] ∧ B₁.cells = A₁.cells + 1 ∧ B₁.slots = A₁.slots + A.slots.size) :=
  (law l a D fV fC b A z).pays htab hfr (by omega)
end New1
/-- the byte, read back as charAt reads it, is the char -/
theorem lo8_mask {x : Int32} (h0 : ¬ x < 0) (h1 : ¬ 255 < x) : lo8 x &&& 255 = x := by
  have t : ∀ k : Fin 256, lo8 (Int32.ofNat k.val) &&& 255 = Int32.ofNat k.val := by decide +kernel
  rw [Int32.lt_iff_toInt_lt] at h0 h1
  have e0 : (0 : Int32).toInt = 0 := rfl
  have e1 : (255 : Int32).toInt = 255 := rfl
  obtain ⟨k, hk⟩ : ∃ k : Nat, x.toInt = k := ⟨x.toInt.toNat, by omega⟩
  have hx : x = Int32.ofNat k := Int32.toInt_inj.mp (by rw [hk, Int32.toInt_ofNat_small (by omega)])
  rw [hx]
  exact t ⟨k, by omega⟩
end StrChars
namespace StrChars.Road
open Jvm Sem ClassFile Op Lib Jvm.Stand Jvm.Free Jvm.Free.XT
open Jvm.Lib.Cold (StaticIs)
abbrev ST : String := "java/lang/String"
/-- every table word that New1's law asks, flat -/
abbrev words : List Jvm.Cond := [.code New1.yN New1.yB 2 none, .initialized ST, .methodLink ST 27 New4.yN, .instanceMethod New4.yN,
  .code New4.yN New4.yB 6 none, .fieldLink ST 38 ST "COMPACT_STRINGS" "Z", .laysFinal ST ST "value" "[B", .fieldLink ST 9 ST "value" "[B", .laysFinal ST ST "coder" "B", .fieldLink ST 15 ST "coder" "B",
  .methodLink ST 1 Lib.objectInit, .instanceMethod Lib.objectInit, .code Lib.objectInit ⟨#[0xb1]⟩ 1 none, .methodLink ST 177 Cmp3.yN, .static Cmp3.yN, .methodLink ST 47 CodL.yN, .static CodL.yN,
  .code Cmp3.yN Cmp3.yB 6 (some (.array .byte)), .initialized U16, .arrayClass .byte, .methodLink U16 115 Cmp5.yN, .static Cmp5.yN, .code Cmp5.yN Cmp5.yB 7 (some .int), .code CodL.yN CodL.yB 2 (some .byte)]
theorem tab_of {a : Array Value} {s : State} (h : ∀ w ∈ words, w.before a s = true) : New1.tab.before a s = true := by
  have h5 : Cmp5.tab.before a s = true := unparts (wk h (.code Cmp5.yN Cmp5.yB 7 (some .int))) (wks h (.initialized Cmp5.yN.cls :: Cmp5.site))
  have hc : CodL.tab.before a s = true := unparts (wk h (.code CodL.yN CodL.yB 2 (some .byte))) (wks h (.initialized CodL.yN.cls :: CodL.site))
  have q5 : ∀ w ∈ Cmp5.tab :: words, w.before a s = true := fun w hw => (List.mem_cons.mp hw).elim (fun e => e ▸ h5) (h w)
  have h3 : Cmp3.tab.before a s = true := unparts (wk q5 (.code Cmp3.yN Cmp3.yB 6 (some (.array .byte)))) (wks q5 (.initialized Cmp3.yN.cls :: Cmp3.site))
  have q3 : ∀ w ∈ Cmp3.tab :: CodL.tab :: words, w.before a s = true := fun w hw => (List.mem_cons.mp hw).elim (fun e => e ▸ h3) fun hw => (List.mem_cons.mp hw).elim (fun e => e ▸ hc) (h w)
  have h4 : New4.tab.before a s = true := unparts (wk q3 (.code New4.yN New4.yB 6 none)) (wks q3 (.initialized New4.yN.cls :: New4.site))
  have q4 : ∀ w ∈ New4.tab :: words, w.before a s = true := fun w hw => (List.mem_cons.mp hw).elim (fun e => e ▸ h4) (h w)
  exact unparts (wk q4 (.code New1.yN New1.yB 2 none)) (wks q4 (.initialized New1.yN.cls :: New1.site))
/-- the words ride from the start Z to the walk's own state -/
theorem moved {Z s : State} {a0 args : Array Value} (hZ : Z.Warmed39 s.vm) (hw : ∀ d ∈ words, d.before a0 Z = true) : ∀ d ∈ words, d.before args s = true := fun d hd => by
  have q := hw d hd
  have t : ∀ d ∈ words, d = .arrayClass .byte ∨ (d.onTables && d.keepsFace) = true := by decide +kernel
  rcases t d hd with rfl | t
  · exact RoadKit.mvA hZ q
  · exact RoadKit.mv hZ q t
/-- WHAT COMES BACK, over the tables of the start Z: h the heap at the call, h' behind it -/
def Q (Z : State) (x : Addr) (A : Cell) (h : Heap) (v : Option Value) (h' : Heap) (L : List Loc) : Prop := v = none ∧ (∀ y ∈ L, y.base = x) ∧ RoadKit.Keep h h' [x] ∧ h'.size = h.size + 1 ∧ RoadKit.Exa Z h' x ST ∧ RoadKit.Fld Z h' x ST "value" "[B" (.ref h.size) ∧ RoadKit.Fld Z h' x ST "coder" "B" (.int 0) ∧
  (∃ V : Cell, RoadKit.Arr Z h' h.size V .byte ∧ V.vm = .none ∧ Z.vm.findClass "[B" = some V.cls ∧ V.slots.size = A.slots.size ∧ ∀ j, j < A.slots.size → V.slots[j]? = some (.int (lo8 (cv A j)))) ∧
  ∀ (O n d : String) (w : Value), RoadKit.Fld Z h x O n d w → RoadKit.slotOf Z O n d ≠ RoadKit.slotOf Z ST "value" "[B" → RoadKit.slotOf Z O n d ≠ RoadKit.slotOf Z ST "coder" "B" → RoadKit.Fld Z h' x O n d w
/-- **new String(chars) AT A CALL, IN THE ROAD'S FORM**: for specialBack behind newO: x the fresh String, b the char[] with the cell A -/
theorem back {p : Program} {l : Launch} {e : Env} {R : Room} {s : State} {args : Array Value} {below : List Frame} {len W : Nat} {Z : State} {a0 : Array Value} {h : Heap} (hZ : Z.Warmed39 s.vm) (hw : ∀ d ∈ words, d.before a0 Z = true) {kI : Nat} (wi : (Jvm.Cond.instantiable ST kI).before a0 Z = true)
    {x b : Addr} {A : Cell} {z : Int32} {v0 c0 : Value} (E : RoadKit.Exa Z h x ST) (V : RoadKit.Fld Z h x ST "value" "[B" v0) (C : RoadKit.Fld Z h x ST "coder" "B" c0) (K : RoadKit.Arr Z h b A .char) (hty : Typed .char A) (S : RoadKit.Sta Z h ST "COMPACT_STRINGS" "Z" (.int z)) (hz : ¬ z = 0)
    (l0 : 0 < A.slots.size) (l2 : A.slots.size ≤ 536870912) (hp : ∀ i, i < A.slots.size → ¬ 255 < cv A i) (hfr : 4 ≤ R.frames) (hlo : W + 65 ≤ R.locals) :
    Back l R p e below s args New1.yN len W (fun P a => a = #[.ref x, .ref b] ∧ P.U.heap = h ∧ P.cells + 1 ≤ R.cells ∧ P.slots + A.slots.size ≤ R.slots)
      (fun P _ v B => ∃ L, Q Z x A h v B.U.heap L ∧ B.locs = P.locs ++ L ∧ B.cells = P.cells + 1 ∧ B.slots = P.slots + A.slots.size) := by
  intro m meth c P g ig mk a X hg hsize hdg hW hn hp'
  obtain ⟨rfl, rfl, r1, r2⟩ := hp'
  have al : Z.vm.Alike P.U.vm := hZ.alike.trans X.warmed.alike
  obtain ⟨D, cfV, kV, iV, fV, hD, gV, stV, knV, obV, asV, slV⟩ := id V
  obtain ⟨D', cfC, kC, iC, fC, hD', gC, stC, -, -, asC, slC⟩ := id C
  cases hD.symm.trans hD'
  obtain ⟨D2, kD, e1, e2, e3, e4, e5⟩ := id E
  cases hD.symm.trans e1
  obtain ⟨c2, k2, i1, i2, i3, -⟩ := Cond.instantiable_spec wi
  cases e2.symm.trans i1
  cases e3.symm.trans i2
  obtain ⟨kU, u1, u2⟩ := al.2.2 _ _ e3
  have hB : Blank ST x D P.U := ⟨hD, ⟨knV, fun q hq => by rw [hq] at obV; cases obV⟩, by rw [al.findClass]; exact e2, kU, u1, by rw [u2]; exact i3, by rw [u2]; exact e5 i3⟩
  have F1 : Found ST "value" "[B" fV P.U := ⟨SBG.found_only al ⟨cfV, kV, iV, gV⟩, stV⟩
  have F2 : Found ST "coder" "B" fC P.U := ⟨SBG.found_only al ⟨cfC, kC, iC, gC⟩, stC⟩
  have hA : Ch b A P.U := ⟨⟨K.1, State.isArrayOf_alike al K.2.1, K.2.2, by omega⟩, hty⟩
  have hS : StaticIs P.U ST "COMPACT_STRINGS" "Z" (.int z) := by
    obtain ⟨cfS, iS, kS, fS, st, cS, t1, t2, t3, t4, t5, t6, t7⟩ := S
    exact StaticIs.there (s := { Z with heap := P.U.heap }) ⟨cfS, iS, kS, fS, st, cS, t1, t2, t3, t4, t5, (fun q => by rw [q] at t6; cases t6), t7⟩ al rfl
  obtain ⟨v, B, X', ⟨⟨hv, E', V', q1, q2, q3, q4, q5, q6, q7, q8, q9, q10, q11⟩, hl, hc, hs⟩, st⟩ := New1.pays x D fV fC b A z (tab_of (moved hZ hw)) hfr hlo m meth c P g ig mk _ X hg hsize hdg hW hn ⟨r1, r2, rfl, hB, F1, F2, hA, hS, hz, l0, l2, hp⟩
  have al' : Z.vm.Alike B.U.vm := hZ.alike.trans X'.warmed.alike
  have hsz : E'.slots.size = D.slots.size := by
    obtain ⟨-, -, -, kB, w1, w2, w3⟩ := q1
    obtain ⟨kB', y1, y2⟩ := al'.2.2 _ _ e3
    rw [q2.2.1] at w1
    cases w1.symm.trans y1
    rw [w3, e5 i3, y2]
  refine ⟨v, B, X', ⟨_, ⟨hv, ?_, ⟨by omega, fun y cy hy hn' => q10 y cy (by simpa using hn') hy, fun y cy hy => ?_⟩, q11, ⟨E', _, q1.1, by rw [q2.2.1]; exact e2, by rw [q2.2.1]; exact e3, by rw [q2.1]; exact obV, fun _ => by rw [hsz]; exact e5 i3⟩,
    ⟨E', cfV, kV, iV, fV, q1.1, gV, stV, by rw [q2.1]; exact knV, by rw [q2.1]; exact obV, by rw [q2.2.1]; exact asV, q3⟩, ⟨E', cfC, kC, iC, fC, q1.1, gC, stC, by rw [q2.1]; exact knV, by rw [q2.1]; exact obV, by rw [q2.2.1]; exact asC, q4⟩,
    ⟨V', ⟨q5.1, State.isArrayOf_alike al'.symm q5.2.1, q5.2.2.1⟩, q6, by rw [← al'.findClass]; exact q7, q8, fun j hj => by have := q9 j hj; rwa [Nat.zero_add] at this⟩, fun O n d w F n1 n2 => ?_⟩, hl, hc, hs⟩, st⟩
  · intro y hy
    simp only [List.mem_cons, List.not_mem_nil, or_false] at hy
    rcases hy with rfl | rfl <;> rfl
  · by_cases q : y = x
    · subst q
      cases hD.symm.trans hy
      exact ⟨E', q1.1, q2.2.1, q2.1, hsz⟩
    · exact ⟨cy, q10 y cy q hy, rfl, rfl, rfl⟩
  · obtain ⟨D3, cf, k, i, f, g1, g2, g3, g4, g5, g6, g7⟩ := F
    cases hD.symm.trans g1
    simp only [RoadKit.slotOf, g2, gV, gC, Option.map_some, Option.getD_some] at n1 n2
    exact ⟨E', cf, k, i, f, q1.1, g2, g3, by rw [q2.1]; exact g4, by rw [q2.1]; exact g5, by rw [q2.2.1]; exact g6, by rw [q2.2.2 f.slot (by simp [n1, n2])]; exact g7⟩
end StrChars.Road
namespace StrChars.Road
open Jvm Sem ClassFile Op Lib Jvm.Stand Jvm.Free Jvm.Free.XT
/-- WHAT COMES BACK, the byte[] as a list of values -/
def QA (Z : State) (x : Addr) (zn : Int32) (cs : List Int32) (h : Heap) (v : Option Value) (h' : Heap) (L : List Loc) : Prop := v = none ∧ (∀ y ∈ L, y.base = x) ∧ RoadKit.Keep h h' [x] ∧ h'.size = h.size + 1 ∧ RoadKit.Exa Z h' x ST ∧ RoadKit.Fld Z h' x ST "value" "[B" (.ref h.size) ∧ RoadKit.Fld Z h' x ST "coder" "B" (.int 0) ∧
  (∃ kb, Z.vm.findClass "[B" = some kb ∧ RoadKit.Arv Z h' h.size kb .byte zn (cs.map fun c => .int (lo8 c)) (.int 0)) ∧
  ∀ (O n d : String) (w : Value), RoadKit.Fld Z h x O n d w → RoadKit.slotOf Z O n d ≠ RoadKit.slotOf Z ST "value" "[B" → RoadKit.slotOf Z O n d ≠ RoadKit.slotOf Z ST "coder" "B" → RoadKit.Fld Z h' x O n d w
/-- **new String(chars) AT A CALL, THE ARRAYS AS LISTS**: the char[] at b holds cs, not empty, no char above 255 -/
theorem backArv {p : Program} {l : Launch} {e : Env} {R : Room} {s : State} {args : Array Value} {below : List Frame} {len W : Nat} {Z : State} {a0 : Array Value} {h : Heap} (hZ : Z.Warmed39 s.vm) (hw : ∀ d ∈ words, d.before a0 Z = true) {kI : Nat} (wi : (Jvm.Cond.instantiable ST kI).before a0 Z = true)
    {x b : Addr} {k : ClassId} {zn z : Int32} {cs : List Int32} {dv v0 c0 : Value} (E : RoadKit.Exa Z h x ST) (V : RoadKit.Fld Z h x ST "value" "[B" v0) (C : RoadKit.Fld Z h x ST "coder" "B" c0) (K : RoadKit.Arv Z h b k .char zn (cs.map Value.int) dv) (S : RoadKit.Sta Z h ST "COMPACT_STRINGS" "Z" (.int z)) (hz : ¬ z = 0)
    (hlen : zn.toNatClampNeg = cs.length) (h0 : 0 < cs.length) (hbig : cs.length ≤ 536870912) (hall : ∀ c ∈ cs, ¬ 255 < c) (hfr : 4 ≤ R.frames) (hlo : W + 65 ≤ R.locals) :
    Back l R p e below s args New1.yN len W (fun P a => a = #[.ref x, .ref b] ∧ P.U.heap = h ∧ P.cells + 1 ≤ R.cells ∧ P.slots + cs.length ≤ R.slots)
      (fun P _ v B => ∃ L, QA Z x zn cs h v B.U.heap L ∧ B.locs = P.locs ++ L ∧ B.cells = P.cells + 1 ∧ B.slots = P.slots + cs.length) := by
  obtain ⟨A, K1, K2, K3, K4, K5, K6⟩ := K
  have e : A.slots.size = cs.length := K3.trans hlen
  have hat : ∀ (i : Nat) (hi : i < cs.length), A.slots[i]? = some (.int cs[i]) := fun i hi => by rw [K5 i (by omega)]; simp [List.getD_eq_getElem?_getD, hi]
  have hcv : ∀ (i : Nat) (hi : i < cs.length), cv A i = cs[i] := fun i hi => by unfold cv; rw [hat i hi]
  have hty : Typed .char A := fun i v hv => by
    have hi : i < A.slots.size := (Array.getElem?_eq_some_iff.mp hv).1
    have q := K5 i hi
    rw [hv] at q
    rw [Option.some.inj q]
    exact K6 i hi
  refine Back.mono (back hZ hw wi E V C K1 hty S hz (by omega) (by omega) (fun i hi => by rw [hcv i (by omega)]; exact hall _ (List.getElem_mem _)) hfr hlo) (fun P a hp => ⟨hp.1, hp.2.1, hp.2.2.1, by rw [e]; exact hp.2.2.2⟩) (fun P a v B hp hq => ?_)
  obtain ⟨L, ⟨q1, q2, q3, q4, q5, q6, q7, ⟨V', v1, v2, v3, v4, v5⟩, q9⟩, hl, hc, hs⟩ := hq
  refine ⟨L, ⟨q1, q2, q3, q4, q5, q6, q7, ⟨V'.cls, v3, V', v1, rfl, by rw [v4, e, hlen], K4, fun i hi => ?_, fun i hi => ?_⟩, q9⟩, hl, hc, by rw [hs, e]⟩
  · have hi' : i < cs.length := by omega
    rw [v5 i (by omega), hcv i hi']; simp [List.getD_eq_getElem?_getD, hi']
  · have hi' : i < cs.length := by omega
    simp only [List.getD_eq_getElem?_getD, List.getElem?_map, List.getElem?_eq_getElem hi', Option.map_some, Option.getD_some]
    exact fits_lo8 _
end StrChars.Road
namespace StrChars.Road
open Jvm Sem ClassFile Op Lib Jvm.Stand Jvm.Free Jvm.Free.XT
/-- WHAT COMES BACK, in the writer's own shape -/
def QV (Z : State) (x : Addr) (N : Int32) (bs : List Int32) (h : Heap) (n0 : Nat) (v : Option Value) (h' : Heap) (L : List Loc) : Prop := v = none ∧ RoadKit.Fr n0 L ∧ RoadKit.Keep h h' [x] ∧ RoadKit.Exa Z h' x ST ∧ RoadKit.Fld Z h' x ST "coder" "B" (.int 0) ∧
  ∃ (t : Addr) (kb : ClassId), n0 ≤ t ∧ h.size ≤ t ∧ ¬ t = x ∧ RoadKit.Fld Z h' x ST "value" "[B" (.ref t) ∧ RoadKit.Arv Z h' t kb .byte N (bs.map Value.int) (.int 0)
/-- **new String(chars) AT A CALL, FOR THE WRITER**: a char[] of n known ints, each 0 to 255 -/
theorem backV {p : Program} {l : Launch} {e : Env} {R : Room} {s : State} {args : Array Value} {below : List Frame} {len W : Nat} {Z : State} {a0 : Array Value} {h : Heap} (hZ : Z.Warmed39 s.vm) (hw : ∀ d ∈ words, d.before a0 Z = true) {kI : Nat} (wi : (Jvm.Cond.instantiable ST kI).before a0 Z = true)
    {x b : Addr} {kC : ClassId} {cs bs : List Int32} {d v0 c0 : Value} {z N : Int32} {n n0 : Nat} (hx0 : n0 ≤ x) (hh0 : n0 ≤ h.size) (E : RoadKit.Exa Z h x ST) (V : RoadKit.Fld Z h x ST "value" "[B" v0) (C : RoadKit.Fld Z h x ST "coder" "B" c0) (K : RoadKit.Arv Z h b kC .char N (cs.map Value.int) d) (S : RoadKit.Sta Z h ST "COMPACT_STRINGS" "Z" (.int z)) (hz : ¬ z = 0)
    (hn : cs.length = n) (hN : N = Int32.ofNat n) (l0 : 0 < n) (l2 : n ≤ 4000) (hp : ∀ c ∈ cs, ¬ c < 0 ∧ ¬ (255 : Int32) < c) (hb : bs = cs.map (fun c => c.toInt8.toInt32)) (hfr : 4 ≤ R.frames) (hlo : W + 65 ≤ R.locals) :
    Back l R p e below s args (⟨"java/lang/String", "<init>", "([C)V"⟩ : MethodName) len W (fun P a => a = #[.ref x, .ref b] ∧ P.U.heap = h ∧ P.cells + 1 ≤ R.cells ∧ P.slots + n ≤ R.slots)
      (fun P _ v B => ∃ L, QV Z x N bs h n0 v B.U.heap L ∧ B.locs = P.locs ++ L ∧ B.cells = P.cells + 1 ∧ B.slots = P.slots + n) := by
  subst hn hN hb
  refine Back.mono (backArv hZ hw wi E V C K S hz (n32 (by omega)) l0 (by omega) (fun c hc => (hp c hc).2) hfr hlo) (fun P a hp => hp) (fun P a v B hp hq => ?_)
  obtain ⟨L, ⟨q1, q2, q3, q4, q5, q6, q7, ⟨kb, v1, v2⟩, q9⟩, hl, hc, hs⟩ := hq
  exact ⟨L, ⟨q1, fun y hy => by rw [q2 y hy]; exact hx0, q3, q5, q7, h.size, kb, hh0, Nat.le_refl _, Nat.ne_of_gt E.lt, q6, by rw [List.map_map]; exact v2⟩, hl, hc, hs⟩
end StrChars.Road
namespace StrChars
open Jvm Sem ClassFile Op Lib Jvm.Stand Jvm.Free.XT Jvm.Free.ALB Jvm.Free.JM Jvm.Free
open Jvm.Lib.Cold (StaticIs)
def hi8 (x : Int32) : Int32 := lo8 (x >>> ((8 : Int32) &&& 31))
/-- what StringUTF16.getChar makes of two bytes -/
def pairCh (u v : Int32) : Int32 := (((u &&& 255) <<< ((0 : Int32) &&& 31)) ||| ((v &&& 255) <<< ((8 : Int32) &&& 31))).toUInt32.toUInt16.toUInt32.toInt32
theorem shr0 (c : Int32) : c >>> ((0 : Int32) &&& 31) = c := by
  have e : ((0 : Int32) &&& 31) = 0 := by decide
  rw [e]
  apply Int32.toBitVec_inj.mp
  rw [Int32.toBitVec_shiftRight]
  have e1 : ((0 : Int32).toBitVec.smod 32) = 0#32 := by decide
  rw [e1, BitVec.sshiftRight_eq']
  exact BitVec.sshiftRight_zero
theorem lo8_and (x : Int32) : (lo8 x &&& 255).toBitVec.toNat = x.toBitVec.toNat % 256 := by
  have h : (lo8 x).toBitVec = (x.toBitVec.signExtend 8).signExtend 32 := by rw [lo8, Int8.toBitVec_toInt32, Int32.toBitVec_toInt8]
  rw [Int32.toBitVec_and, BitVec.toNat_and, h]
  have e : ((x.toBitVec.signExtend 8).signExtend 32).toNat % 256 = x.toBitVec.toNat % 256 := by
    rw [BitVec.toNat_signExtend]
    have hlt := x.toBitVec.isLt
    simp only [BitVec.toNat_setWidth, BitVec.toNat_signExtend]
    split <;> split <;> omega
  rw [← e]
  exact Nat.and_two_pow_sub_one_eq_mod _ 8
theorem pair_says {c : Int32} (h0 : ¬ c < 0) (h1 : ¬ 65535 < c) : pairCh (lo8 c) (hi8 c) = c := by
  rw [Int32.lt_iff_toInt_lt] at h0 h1
  have e0 : (0 : Int32).toInt = 0 := rfl
  have e1 : (65535 : Int32).toInt = 65535 := rfl
  have hc : c.toInt = c.toBitVec.toNat := by
    have := c.toBitVec.isLt
    have e : c.toInt = c.toBitVec.toInt := rfl
    rw [e] at h0 h1
    rw [e]
    rw [BitVec.toInt_eq_toNat_cond] at h0 h1 ⊢
    split at h0 <;> split <;> omega
  have hn : c.toBitVec.toNat < 65536 := by omega
  have a1 := lo8_and c
  have a2 : (hi8 c &&& 255).toBitVec.toNat = c.toBitVec.toNat / 256 := by
    rw [hi8, lo8_and]
    have e : ((8 : Int32) &&& 31) = 8 := by decide
    rw [e, Int32.toBitVec_shiftRight]
    have e2 : ((8 : Int32).toBitVec.smod 32) = 8#32 := by decide
    rw [e2, BitVec.sshiftRight_eq', BitVec.toNat_sshiftRight_of_msb_false (by rw [BitVec.msb_eq_false_iff_two_mul_lt]; omega)]
    show c.toBitVec.toNat >>> 8 % 256 = _
    rw [Nat.shiftRight_eq_div_pow]
    omega
  unfold pairCh
  apply Int32.toBitVec_inj.mp
  apply BitVec.eq_of_toNat_eq
  have f0 : ((0 : Int32) &&& 31) = 0 := by decide
  have f8 : ((8 : Int32) &&& 31) = 8 := by decide
  rw [f0, f8]
  have g : (((lo8 c &&& 255) <<< (0 : Int32)) ||| ((hi8 c &&& 255) <<< (8 : Int32))).toBitVec.toNat = c.toBitVec.toNat := by
    rw [Int32.toBitVec_or, Int32.toBitVec_shiftLeft, Int32.toBitVec_shiftLeft]
    have s0 : ((0 : Int32).toBitVec.smod 32) = 0#32 := by decide
    have s8 : ((8 : Int32).toBitVec.smod 32) = 8#32 := by decide
    rw [s0, s8, BitVec.toNat_or]
    simp only [BitVec.shiftLeft_eq', BitVec.toNat_shiftLeft, a1, a2]
    show (c.toBitVec.toNat % 256) <<< 0 % 2 ^ 32 ||| (c.toBitVec.toNat / 256) <<< 8 % 2 ^ 32 = _
    rw [Nat.shiftLeft_zero, Nat.mod_eq_of_lt (show c.toBitVec.toNat % 256 < 2 ^ 32 by omega), Nat.mod_eq_of_lt (show (c.toBitVec.toNat / 256) <<< 8 < 2 ^ 32 by rw [Nat.shiftLeft_eq]; omega), Nat.or_comm, ← Nat.shiftLeft_add_eq_or_of_lt (by omega), Nat.shiftLeft_eq]
    omega
  show BitVec.toNat (((((lo8 c &&& 255) <<< (0 : Int32)) ||| ((hi8 c &&& 255) <<< (8 : Int32))).toBitVec.setWidth 16).setWidth 32) = _
  rw [BitVec.toNat_setWidth, BitVec.toNat_setWidth, g]
  omega
end StrChars
namespace StrChars
open Jvm Sem ClassFile Op Lib Jvm.Stand Jvm.Free.XT Jvm.Free.ALB Jvm.Free.JM Jvm.Free
open Jvm.Lib.Cold (StaticIs)
theorem shr1 {n : Nat} (h : 2 * n < 2 ^ 31) : Int32.ofNat (2 * n) >>> ((1 : Int32) &&& 31) = Int32.ofNat n := by
  have e : ((1 : Int32) &&& 31) = 1 := by decide
  rw [e]
  apply Int32.toBitVec_inj.mp
  rw [Int32.toBitVec_shiftRight]
  have e1 : ((1 : Int32).toBitVec.smod 32) = 1#32 := by decide
  have hm : (BitVec.ofNat 32 (2 * n)).toNat = 2 * n := by rw [BitVec.toNat_ofNat, Nat.mod_eq_of_lt (by omega)]
  rw [e1, BitVec.sshiftRight_eq']
  apply BitVec.eq_of_toNat_eq
  show ((BitVec.ofNat 32 (2 * n)).sshiftRight 1).toNat = (BitVec.ofNat 32 n).toNat
  rw [BitVec.toNat_sshiftRight_of_msb_false (by rw [BitVec.msb_eq_false_iff_two_mul_lt, hm]; omega), hm, BitVec.toNat_ofNat, Nat.shiftRight_eq_div_pow]
  omega
/-- the array's cell V codes the n chars f 0 .. f (n - 1) by the coder cd, as the JDK does: coder 1 just where some char is above 255 -/
def Cod (cd : Int32) (n : Nat) (f : Nat → Int32) (V : Cell) : Prop := (cd = 0 ∧ V.slots.size = n ∧ ∀ j, j < n → V.slots[j]? = some (.int (lo8 (f j))) ∧ ¬ 255 < f j) ∨ (cd = 1 ∧ V.slots.size = 2 * n ∧ (∀ j, j < n → V.slots[2 * j]? = some (.int (lo8 (f j))) ∧ V.slots[2 * j + 1]? = some (.int (hi8 (f j)))) ∧ ∃ j, j < n ∧ 255 < f j)
theorem Cod.cd {cd : Int32} {n : Nat} {f : Nat → Int32} {V : Cell} (h : Cod cd n f V) : cd = 0 ∨ cd = 1 := h.imp (fun q => q.1) fun q => q.1
theorem Cod.len {cd : Int32} {n : Nat} {f : Nat → Int32} {V : Cell} (h : Cod cd n f V) (hs : V.slots.size < 2 ^ 31) : Int32.ofNat V.slots.size >>> (cd &&& 31) = Int32.ofNat n := by
  rcases h with ⟨rfl, h, -⟩ | ⟨rfl, h, -⟩
  · rw [shr0, h]
  · rw [h, shr1 (by omega)]
/-- **x is a String of the n chars f 0 .. f (n - 1)**, Latin-1 or UTF-16; its array at t has the cell V -/
def Txt (x t : Addr) (V : Cell) (cd : Int32) (n : Nat) (f : Nat → Int32) (U : State) : Prop := Exact "java/lang/String" x U ∧ Has x "java/lang/String" "value" "[B" (.ref t) U ∧ Has x "java/lang/String" "coder" "B" (.int cd) U ∧ XT.Arr .byte t V U ∧ Cod cd n f V ∧ ∀ j, j < n → ¬ f j < 0 ∧ ¬ 65535 < f j
theorem Txt.mv {x t : Addr} {V : Cell} {cd : Int32} {n : Nat} {f : Nat → Int32} {U U' : State} (h : Txt x t V cd n f U) (hal : U.vm.Alike U'.vm) (hh : U'.heap = U.heap) : Txt x t V cd n f U' := ⟨h.1.mv hal hh, h.2.1.mv hal hh, h.2.2.1.mv hal hh, h.2.2.2.1.mv hal hh, h.2.2.2.2⟩
namespace Cdr
def yN : MethodName := ⟨"java/lang/String", "coder", "()B"⟩
abbrev yB : ByteArray := jdk_42_method_152_code
theorem d0 : decode yB 0 = .ok (.getstatic 38, 3) := by decide +kernel
theorem d3 : decode yB 3 = .ok (.ifCond (.eq) 10, 3) := by decide +kernel
theorem d6 : decode yB 6 = .ok (.aload_n 0, 1) := by decide +kernel
theorem d7 : decode yB 7 = .ok (.getfield 15, 3) := by decide +kernel
theorem d10 : decode yB 10 = .ok (.goto 4, 3) := by decide +kernel
theorem d14 : decode yB 14 = .ok (.ireturn, 1) := by decide +kernel
def site : List Cond := [.fieldLink "java/lang/String" 38 "java/lang/String" "COMPACT_STRINGS" "Z", .fieldLink "java/lang/String" 15 "java/lang/String" "coder" "B"]
def tab : Cond := tabOf yN yB 1 (some .byte) site
def P (x : Addr) (cd z : Int32) (args : Array Value) (s : State) : Prop := args = #[.ref x] ∧ Has x "java/lang/String" "coder" "B" (.int cd) s ∧ (cd = 0 ∨ cd = 1) ∧ StaticIs s "java/lang/String" "COMPACT_STRINGS" "Z" (.int z) ∧ ¬ z = 0
def E (cd : Int32) (r : Option Value) (s u : State) : Prop := XT.PureE (some (.int cd)) r s u
theorem law (l : Launch) (x : Addr) (cd z : Int32) : Law l yN 1 0 0 0 yB 1 (some .byte) site (P x cd z) (E cd) [] 0 0 := by
  refine Law.of_walk (plainFor_of_name (by decide +kernel)) (by decide +kernel) (by decide +kernel) (by decide) (fun _ _ h => by rw [h.1]; rfl) (fun _ U U' hal hh h => ⟨h.1, h.2.1.mv hal hh, h.2.2.1, h.2.2.2.1.there hal hh, h.2.2.2.2⟩) (fun r U U' V V' h1 hal h2 h => XT.PureE.mv r U U' V V' h1 hal h2 h) ?_
  intro p e s m args below meth c s₁ X0 hexec hbytes hml hret hlk hnm hown hh0 W hP
  obtain ⟨rfl, hx, hc, s1, hz⟩ := hP
  have c1 : Steps p.tables e below (s₁.setTop (entryFrame m #[.ref x] 1)) (s₁.setTop (mkF m 0 #[.val (.ref x)] [])) := entry rfl
  obtain ⟨T2, X2, q2, st2⟩ := X0.sget hexec hown (wk W (.fieldLink "java/lang/String" 38 "java/lang/String" "COMPACT_STRINGS" "Z")) s1 (fun _ _ h => by rw [hh0]; exact h) (g := (mkF m 0 #[.val (.ref x)] [])) rfl (hb hbytes d0)
  have hh2 := q2.trans hh0
  have c3 : Steps p.tables e below (s₁.setTop (entryFrame m #[.ref x] 1)) (T2.setTop (mkF m 7 #[.val (.ref x)] [.ref x])) := (c1.trans (st2 _ (Steps.refl _))).trans (by
    refine XS.ifNo X2.here hexec rfl (hb hbytes d3) rfl (i0_eq_f hz) ?_
    refine XS.aloadN X2.here hexec rfl (hb hbytes d6) rfl rfl ?_
    exact Steps.refl _)
  obtain ⟨T4, X4, q4, st4⟩ := X2.hget hexec hown (wk W (.fieldLink "java/lang/String" 15 "java/lang/String" "coder" "B")) (hx.mv X2.warmed.alike hh2) (g := (mkF m 7 #[.val (.ref x)] [.ref x])) rfl (rest := []) rfl (hb hbytes d7)
  have c5 : Steps p.tables e below (s₁.setTop (entryFrame m #[.ref x] 1)) (T4.setTop (mkF m 14 #[.val (.ref x)] [.int cd])) := (c3.trans (st4 _ (Steps.refl _))).trans (by
    refine XS.goto X4.here hexec rfl (pc0 := 10) rfl (hb hbytes d10) (by decide) rfl ?_
    exact Steps.refl _)
  exact ⟨T4, some (.int cd), _, _, _, X4, rfl, rfl, rfl, (fun h => by cases h), ⟨rfl, q4.trans hh2⟩, fun fs hl => c5.trans (X4.ireturnOut hexec hret (by rcases hc with rfl | rfl <;> rfl) (Or.inr (Or.inr (Or.inl rfl))) (hb hbytes d14) hl)⟩
end Cdr
namespace Len
def yN : MethodName := ⟨"java/lang/String", "length", "()I"⟩
abbrev yB : ByteArray := jdk_42_method_54_code
theorem d0 : decode yB 0 = .ok (.aload_n 0, 1) := by decide +kernel
theorem d1 : decode yB 1 = .ok (.getfield 9, 3) := by decide +kernel
theorem d4 : decode yB 4 = .ok (.arraylength, 1) := by decide +kernel
theorem d5 : decode yB 5 = .ok (.aload_n 0, 1) := by decide +kernel
theorem d6 : decode yB 6 = .ok (.invokevirtual 335, 3) := by decide +kernel
theorem d9 : decode yB 9 = .ok (.ishr, 1) := by decide +kernel
theorem d10 : decode yB 10 = .ok (.ireturn, 1) := by decide +kernel
def site : List Cond := [.fieldLink "java/lang/String" 9 "java/lang/String" "value" "[B", Cdr.tab] ++ virtW "java/lang/String" 335 "java/lang/String" Cdr.yN Cdr.yN
def tab : Cond := tabOf yN yB 1 (some .int) site
def P (x t : Addr) (V : Cell) (cd : Int32) (n : Nat) (f : Nat → Int32) (z : Int32) (args : Array Value) (s : State) : Prop := args = #[.ref x] ∧ Txt x t V cd n f s ∧ StaticIs s "java/lang/String" "COMPACT_STRINGS" "Z" (.int z) ∧ ¬ z = 0
def E (n : Nat) (r : Option Value) (s u : State) : Prop := XT.PureE (some (.int (Int32.ofNat n))) r s u
/-- length() of a String of n chars, in either coding -/
theorem law (l : Launch) (x t : Addr) (V : Cell) (cd : Int32) (n : Nat) (f : Nat → Int32) (z : Int32) : Law l yN 1 0 1 13 yB 1 (some .int) site (P x t V cd n f z) (E n) [] 0 0 := by
  refine Law.of_walk (plainFor_of_name (by decide +kernel)) (by decide +kernel) (by decide +kernel) (by decide) (fun _ _ h => by rw [h.1]; rfl) (fun _ U U' hal hh h => ⟨h.1, h.2.1.mv hal hh, h.2.2.1.there hal hh, h.2.2.2⟩) (fun r U U' V V' h1 hal h2 h => XT.PureE.mv r U U' V V' h1 hal h2 h) ?_
  intro p e s m args below meth c s₁ X0 hexec hbytes hml hret hlk hnm hown hh0 W hP
  obtain ⟨rfl, hx, s1, hz⟩ := hP
  have v31 := hx.2.2.2.1.2.2.2
  have c1 : Steps p.tables e below (s₁.setTop (entryFrame m #[.ref x] 1)) (s₁.setTop (mkF m 1 #[.val (.ref x)] [.ref x])) := Steps.trans (entry rfl) (by
    show Steps p.tables e below (s₁.setTop (mkF m 0 #[.val (.ref x)] [])) _
    refine XS.aloadN X0.here hexec rfl (hb hbytes d0) rfl rfl ?_
    exact Steps.refl _)
  obtain ⟨T2, X2, q2, st2⟩ := X0.hget hexec hown (wk W (.fieldLink "java/lang/String" 9 "java/lang/String" "value" "[B")) (hx.mv X0.warmed.alike hh0).2.1 (g := (mkF m 1 #[.val (.ref x)] [.ref x])) rfl (rest := []) rfl (hb hbytes d1)
  have hh2 := q2.trans hh0
  have hx2 := hx.mv X2.warmed.alike hh2
  have c3 : Steps p.tables e below (s₁.setTop (entryFrame m #[.ref x] 1)) (T2.setTop (mkF m 6 #[.val (.ref x)] [.ref x, .int (Int32.ofNat V.slots.size)])) := (c1.trans (st2 _ (Steps.refl _))).trans (by
    refine X2.alen hexec hx2.2.2.2.1 rfl rfl (hb hbytes d4) ?_
    refine XS.aloadN X2.here hexec rfl (hb hbytes d5) rfl rfl ?_
    exact Steps.refl _)
  obtain ⟨v4, T4, X4, E4, g4⟩ := X2.callV hexec (Cdr.law l x cd z) hown (wks W (virtW "java/lang/String" 335 "java/lang/String" Cdr.yN Cdr.yN)) rfl (by decide) (wk W Cdr.tab) (W := 1) (Nat.le_of_ble_eq_true rfl) (Nat.le_of_ble_eq_true rfl) (Nat.le_refl _) (Nat.le_refl _) (hx2.1.fc X2.warmed.alike) hx2.1.is (g := (mkF m 6 #[.val (.ref x)] [.ref x, .int (Int32.ofNat V.slots.size)])) rfl (by rw [hml]; rfl) c3 (argsL := []) (rest := [.int (Int32.ofNat V.slots.size)]) rfl rfl (by show 2 * 0 + (1 + 0) ≤ _; decide) (hb hbytes d6) (⟨rfl, hx2.2.2.1, hx.2.2.2.2.1.cd, s1.there X2.warmed.alike hh2, hz⟩)
  obtain ⟨rfl, q4⟩ := E4
  have c5 : Steps p.tables e below (s₁.setTop (entryFrame m #[.ref x] 1)) (T4.setTop (mkF m 10 #[.val (.ref x)] [.int (Int32.ofNat V.slots.size >>> (cd &&& 31))])) := Steps.trans g4 (by
    refine ishr X4.here hexec rfl (hb hbytes d9) rfl ?_
    exact Steps.refl _)
  rw [hx.2.2.2.2.1.len v31] at c5
  exact ⟨T4, some (.int (Int32.ofNat n)), _, _, _, X4, rfl, rfl, rfl, (fun h => by cases h), ⟨rfl, q4.trans hh2⟩, fun fs hl => c5.trans (X4.ireturnOut hexec hret rfl (Or.inl rfl) (hb hbytes d10) hl)⟩
theorem pays {l : Launch} {R : Room} {p : Program} {e : Env} {below : List Frame} {s : State} {sargs : Array Value} {len W : Nat} (x t : Addr) (V : Cell) (cd : Int32) (n : Nat) (f : Nat → Int32) (z : Int32) (htab : tab.before sargs s = true) (hfr : 2 ≤ R.frames) (hlo : W + 25 ≤ R.locals) :
    Back l R p e below s sargs yN len W (fun A₁ a₁ => A₁.cells + 0 ≤ R.cells ∧ A₁.slots + 0 ≤ R.slots ∧ P x t V cd n f z a₁ A₁.U) (fun A₁ _ v₁ B₁ => E n v₁ A₁.U B₁.U ∧ B₁.locs = A₁.locs ++ [] ∧ B₁.cells = A₁.cells + 0 ∧ B₁.slots = A₁.slots + 0) :=
  (law l x t V cd n f z).pays htab hfr (by omega)
end Len
end StrChars
namespace StrChars.Road
open Jvm Sem ClassFile Op Lib Jvm.Stand Jvm.Free Jvm.Free.XT
open Jvm.Lib.Cold (StaticIs)
theorem consq {a : Array Value} {s : State} {c : Jvm.Cond} {L : List Jvm.Cond} (h0 : c.before a s = true) (h : ∀ w ∈ L, w.before a s = true) : ∀ w ∈ c :: L, w.before a s = true := fun w hw => (List.mem_cons.mp hw).elim (fun e => e ▸ h0) (h w)
/-- the words of String.length(), either coding -/
abbrev wordsLen : List Jvm.Cond := [.code Len.yN Len.yB 1 (some .int), .initialized ST, .fieldLink ST 9 ST "value" "[B", .fieldLink ST 38 ST "COMPACT_STRINGS" "Z", .fieldLink ST 15 ST "coder" "B", .code Cdr.yN Cdr.yB 1 (some .byte), .methodLink ST 335 Cdr.yN, .declares Cdr.yN, .selects ST Cdr.yN Cdr.yN, .instanceMethod Cdr.yN]
theorem tabLen_of {a : Array Value} {s : State} (h : ∀ w ∈ wordsLen, w.before a s = true) : Len.tab.before a s = true := by
  have hc : Cdr.tab.before a s = true := unparts (wk h (.code Cdr.yN Cdr.yB 1 (some .byte))) (wks h (.initialized Cdr.yN.cls :: Cdr.site))
  have q := consq hc h
  exact unparts (wk q (.code Len.yN Len.yB 1 (some .int))) (wks q (.initialized Len.yN.cls :: Len.site))
theorem movedLen {Z s : State} {a0 args : Array Value} (hZ : Z.Warmed39 s.vm) (hw : ∀ d ∈ wordsLen, d.before a0 Z = true) : ∀ d ∈ wordsLen, d.before args s = true := fun d hd => by
  have q := hw d hd
  have t : ∀ d ∈ wordsLen, d = .arrayClass .byte ∨ (d.onTables && d.keepsFace) = true := by decide +kernel
  rcases t d hd with rfl | t
  · exact RoadKit.mvA hZ q
  · exact RoadKit.mv hZ q t
/-- the bytes of the chars cs, low before high -/
def wideBytes : List Int32 → List Value
  | [] => []
  | c :: cs => .int (lo8 c) :: .int (hi8 c) :: wideBytes cs
theorem wide_lo (d : Value) : ∀ (cs : List Int32) (j : Nat), j < cs.length → (wideBytes cs).getD (2 * j) d = .int (lo8 (cs.getD j 0))
  | [], j, h => absurd h (Nat.not_lt_zero j)
  | c :: cs, 0, _ => rfl
  | c :: cs, j + 1, h => by
    have q := wide_lo d cs j (by simpa using h)
    rw [show 2 * (j + 1) = 2 * j + 1 + 1 from by omega]
    simpa [wideBytes] using q
theorem wide_hi (d : Value) : ∀ (cs : List Int32) (j : Nat), j < cs.length → (wideBytes cs).getD (2 * j + 1) d = .int (hi8 (cs.getD j 0))
  | [], j, h => absurd h (Nat.not_lt_zero j)
  | c :: cs, 0, _ => rfl
  | c :: cs, j + 1, h => by
    have q := wide_hi d cs j (by simpa using h)
    rw [show 2 * (j + 1) + 1 = 2 * j + 1 + 1 + 1 from by omega]
    simpa [wideBytes] using q
theorem low_at (d : Value) (cs : List Int32) (j : Nat) (h : j < cs.length) : (cs.map fun c => Value.int (lo8 c)).getD j d = .int (lo8 (cs.getD j 0)) := by
  simp [List.getD_eq_getElem?_getD, h]
/-- an array of N2 bytes vs codes the chars cs by the coder cd -/
def CodA (cs : List Int32) (cd N2 : Int32) (vs : List Value) : Prop := (cd = 0 ∧ N2 = Int32.ofNat cs.length ∧ vs = (cs.map fun c => Value.int (lo8 c)) ∧ ∀ c ∈ cs, ¬ 255 < c) ∨ (cd = 1 ∧ N2 = Int32.ofNat (2 * cs.length) ∧ vs = wideBytes cs ∧ ∃ c ∈ cs, 255 < c)
theorem CodA.cod {cs : List Int32} {cd N2 : Int32} {vs : List Value} {V : Cell} (h : CodA cs cd N2 vs) (hn : 2 * cs.length < 2 ^ 31) (hs : V.slots.size = N2.toNatClampNeg) (hv : RoadKit.Has V vs (.int 0)) : Cod cd cs.length (fun j => cs.getD j 0) V := by
  rcases h with ⟨rfl, rfl, rfl, h⟩ | ⟨rfl, rfl, rfl, c, hc, hw⟩
  · rw [n32 (by omega)] at hs
    exact Or.inl ⟨rfl, hs, fun j hj => ⟨by rw [hv j (by omega), low_at _ _ _ hj], by
      have e : cs.getD j 0 = cs[j] := by simp [List.getD_eq_getElem?_getD, hj]
      show ¬ 255 < cs.getD j 0
      rw [e]; exact h _ (List.getElem_mem _)⟩⟩
  · rw [n32 (by omega)] at hs
    obtain ⟨j, hj, rfl⟩ := List.getElem_of_mem hc
    exact Or.inr ⟨rfl, hs, fun j hj => ⟨by rw [hv _ (by omega), wide_lo _ _ _ hj], by rw [hv _ (by omega), wide_hi _ _ _ hj]⟩, j, hj, by
      have e : cs.getD j 0 = cs[j] := by simp [List.getD_eq_getElem?_getD, hj]
      show 255 < cs.getD j 0
      rw [e]; exact hw⟩
/-- an object of exactly java/lang/String, its two fields found: as the laws ask it -/
theorem strObj {Z U : State} {a0 : Array Value} {kI : Nat} (wi : (Jvm.Cond.instantiable ST kI).before a0 Z = true) (al : Z.vm.Alike U.vm) {x : Addr} {v0 c0 : Value} (E : RoadKit.Exa Z U.heap x ST) (V : RoadKit.Fld Z U.heap x ST "value" "[B" v0) (C : RoadKit.Fld Z U.heap x ST "coder" "B" c0) :
    ∃ (D : Cell) (fV fC : Field), Blank ST x D U ∧ Found ST "value" "[B" fV U ∧ Found ST "coder" "B" fC U ∧ D.slots[fV.slot]? = some v0 ∧ D.slots[fC.slot]? = some c0 ∧ RoadKit.slotOf Z ST "value" "[B" = fV.slot ∧ RoadKit.slotOf Z ST "coder" "B" = fC.slot := by
  obtain ⟨D, cfV, kV, iV, fV, hD, gV, stV, knV, obV, asV, slV⟩ := V
  obtain ⟨D', cfC, kC, iC, fC, hD', gC, stC, -, -, asC, slC⟩ := C
  cases hD.symm.trans hD'
  obtain ⟨D2, kD, e1, e2, e3, e4, e5⟩ := E
  cases hD.symm.trans e1
  obtain ⟨c2, k2, i1, i2, i3, -⟩ := Cond.instantiable_spec wi
  cases e2.symm.trans i1
  cases e3.symm.trans i2
  obtain ⟨kU, u1, u2⟩ := al.2.2 _ _ e3
  exact ⟨D, fV, fC, ⟨hD, ⟨knV, fun q hq => by rw [hq] at obV; cases obV⟩, by rw [al.findClass]; exact e2, kU, u1, by rw [u2]; exact i3, by rw [u2]; exact e5 i3⟩, ⟨SBG.found_only al ⟨cfV, kV, iV, gV⟩, stV⟩, ⟨SBG.found_only al ⟨cfC, kC, iC, gC⟩, stC⟩, slV, slC, by simp [RoadKit.slotOf, gV], by simp [RoadKit.slotOf, gC]⟩
theorem sta_is {Z U : State} (al : Z.vm.Alike U.vm) {C n d : String} {v : Value} (S : RoadKit.Sta Z U.heap C n d v) : StaticIs U C n d v := by
  obtain ⟨cfS, iS, kS, fS, st, cS, t1, t2, t3, t4, t5, t6, t7⟩ := S
  exact StaticIs.there (s := { Z with heap := U.heap }) ⟨cfS, iS, kS, fS, st, cS, t1, t2, t3, t4, t5, (fun q => by rw [q] at t6; cases t6), t7⟩ al rfl
/-- **length() OF SUCH A STRING** -/
theorem lenW {p : Program} {l : Launch} {e : Env} {R : Room} {s : State} {args : Array Value} {below : List Frame} {len W : Nat} {Z : State} {a0 : Array Value} {h : Heap} (hZ : Z.Warmed39 s.vm) (hw : ∀ d ∈ wordsLen, d.before a0 Z = true) {kI : Nat} (wi : (Jvm.Cond.instantiable ST kI).before a0 Z = true)
    {x t : Addr} {kb : ClassId} {cs : List Int32} {cd N2 z : Int32} {vs : List Value} (E : RoadKit.Exa Z h x ST) (V : RoadKit.Fld Z h x ST "value" "[B" (.ref t)) (C : RoadKit.Fld Z h x ST "coder" "B" (.int cd)) (K : RoadKit.Arv Z h t kb .byte N2 vs (.int 0)) (hc : CodA cs cd N2 vs) (hb : ∀ c ∈ cs, ¬ c < 0 ∧ ¬ (65535 : Int32) < c)
    (S : RoadKit.Sta Z h ST "COMPACT_STRINGS" "Z" (.int z)) (hz : ¬ z = 0) (l2 : cs.length ≤ 4000) (hfr : 2 ≤ R.frames) (hlo : W + 25 ≤ R.locals) :
    Back l R p e below s args (⟨"java/lang/String", "length", "()I"⟩ : MethodName) len W (fun P a => a = #[.ref x] ∧ P.U.heap = h ∧ P.cells + 0 ≤ R.cells ∧ P.slots + 0 ≤ R.slots)
      (fun P _ v B => ∃ L, (v = some (.int (Int32.ofNat cs.length)) ∧ L = [] ∧ B.U.heap = h) ∧ B.locs = P.locs ++ L ∧ B.cells = P.cells + 0 ∧ B.slots = P.slots + 0) := by
  obtain ⟨A, K1, K2, K3, K4, K5, K6⟩ := K
  have hcod := hc.cod (by omega) K3 K5
  intro m meth c P g ig mk a X hg hsize hdg hW hn hp'
  obtain ⟨rfl, rfl, r1, r2⟩ := hp'
  have al : Z.vm.Alike P.U.vm := hZ.alike.trans X.warmed.alike
  obtain ⟨D, fV, fC, hB, F1, F2, g1, g2, -, -⟩ := strObj wi al E V C
  have hx : Txt x t A cd cs.length (fun j => cs.getD j 0) P.U := ⟨⟨_, hB.2.2.1, D, hB.1, rfl, by cases q : D.vm <;> first | rfl | exact absurd q (hB.2.1.2 _)⟩, Has.of hB F1 g1, Has.of hB F2 g2, ⟨K1.1, State.isArrayOf_alike al K1.2.1, K1.2.2, by rcases hcod with ⟨-, q, -⟩ | ⟨-, q, -⟩ <;> omega⟩, hcod, fun j hj => by
    have e : cs.getD j 0 = cs[j] := by simp [List.getD_eq_getElem?_getD, hj]
    show ¬ cs.getD j 0 < 0 ∧ ¬ 65535 < cs.getD j 0
    rw [e]; exact hb _ (List.getElem_mem _)⟩
  obtain ⟨v, B, X', ⟨⟨hv, hh⟩, hl, hk, hs⟩, st⟩ := Len.pays x t A cd cs.length (fun j => cs.getD j 0) z (tabLen_of (movedLen hZ hw)) hfr hlo m meth c P g ig mk _ X hg hsize hdg hW hn ⟨r1, r2, rfl, hx, sta_is al S, hz⟩
  exact ⟨v, B, X', ⟨[], ⟨hv, rfl, hh⟩, hl, hk, hs⟩, st⟩
end StrChars.Road
namespace StrChars
open Jvm Sem ClassFile Op Lib Jvm.Stand Jvm.Free.XT Jvm.Free.ALB Jvm.Free.JM Jvm.Free
open Jvm.Lib.Cold (StaticIs)
/-- what place i of a byte[]'s cell holds -/
def yv (A : Cell) (i : Nat) : Int32 := match A.slots[i]? with | some (.int x) => x | _ => 0
theorem yv_get {a : Addr} {A : Cell} {U : State} (h : XT.Arr .byte a A U) (ht : Typed .byte A) {i : Nat} (hi : i < A.slots.size) : A.slots[i]? = some (.int (yv A i)) := by
  have e := Array.getElem?_eq_getElem hi
  have f := ht i _ e
  unfold yv; rw [e]
  generalize A.slots[i] = v at f
  cases v <;> simp [fits] at f ⊢
/-- the two arrays are equal, place for place -/
def EqC (A B : Cell) : Prop := A.slots.size = B.slots.size ∧ ∀ i, i < A.slots.size → yv A i = yv B i
/-- a boolean that says whether p -/
def Says01 (q : Prop) (r : Option Value) (s u : State) : Prop := ∃ v : Int32, r = some (.int v) ∧ u.heap = s.heap ∧ ((v = 1 ∧ q) ∨ (v = 0 ∧ ¬ q))
theorem Says01.mv {q : Prop} : ∀ r (U U' V V' : State), U'.heap = U.heap → V.vm.Alike V'.vm → V'.heap = V.heap → Says01 q r U V → Says01 q r U' V' :=
  fun r U U' V V' h1 _ h2 ⟨v, a, b, c⟩ => ⟨v, a, by rw [h1, h2]; exact b, c⟩
namespace LEq
def yN : MethodName := ⟨"java/lang/StringLatin1", "equals", "([B[B)Z"⟩
abbrev yB : ByteArray := jdk_43_method_13_code
theorem d0 : decode yB 0 = .ok (.aload_n 0, 1) := by decide +kernel
theorem d1 : decode yB 1 = .ok (.arraylength, 1) := by decide +kernel
theorem d2 : decode yB 2 = .ok (.aload_n 1, 1) := by decide +kernel
theorem d3 : decode yB 3 = .ok (.arraylength, 1) := by decide +kernel
theorem d4 : decode yB 4 = .ok (.if_icmp (.ne) 30, 3) := by decide +kernel
theorem d7 : decode yB 7 = .ok (.iconst 0, 1) := by decide +kernel
theorem d8 : decode yB 8 = .ok (.istore_n 2, 1) := by decide +kernel
theorem d9 : decode yB 9 = .ok (.iload_n 2, 1) := by decide +kernel
theorem d10 : decode yB 10 = .ok (.aload_n 0, 1) := by decide +kernel
theorem d11 : decode yB 11 = .ok (.arraylength, 1) := by decide +kernel
theorem d12 : decode yB 12 = .ok (.if_icmp (.ge) 20, 3) := by decide +kernel
theorem d15 : decode yB 15 = .ok (.aload_n 0, 1) := by decide +kernel
theorem d16 : decode yB 16 = .ok (.iload_n 2, 1) := by decide +kernel
theorem d17 : decode yB 17 = .ok (.baload, 1) := by decide +kernel
theorem d18 : decode yB 18 = .ok (.aload_n 1, 1) := by decide +kernel
theorem d19 : decode yB 19 = .ok (.iload_n 2, 1) := by decide +kernel
theorem d20 : decode yB 20 = .ok (.baload, 1) := by decide +kernel
theorem d21 : decode yB 21 = .ok (.if_icmp (.eq) 5, 3) := by decide +kernel
theorem d24 : decode yB 24 = .ok (.iconst 0, 1) := by decide +kernel
theorem d25 : decode yB 25 = .ok (.ireturn, 1) := by decide +kernel
theorem d26 : decode yB 26 = .ok (.iinc 2 1, 3) := by decide +kernel
theorem d29 : decode yB 29 = .ok (.goto (-20), 3) := by decide +kernel
theorem d32 : decode yB 32 = .ok (.iconst 1, 1) := by decide +kernel
theorem d33 : decode yB 33 = .ok (.ireturn, 1) := by decide +kernel
theorem d34 : decode yB 34 = .ok (.iconst 0, 1) := by decide +kernel
theorem d35 : decode yB 35 = .ok (.ireturn, 1) := by decide +kernel
def site : List Cond := []
def tab : Cond := tabOf yN yB 3 (some .boolean) site
def P (a : Addr) (A : Cell) (b : Addr) (B : Cell) (args : Array Value) (s : State) : Prop := args = #[.ref a, .ref b] ∧ XT.Arr .byte a A s ∧ Typed .byte A ∧ XT.Arr .byte b B s ∧ Typed .byte B
/-- whether two byte[] are equal, place for place -/
theorem law (l : Launch) (a : Addr) (A : Cell) (b : Addr) (B : Cell) : Law l yN 2 2 0 0 yB 3 (some .boolean) site (P a A b B) (Says01 (EqC A B)) [] 0 0 := by
  refine Law.of_walk (plainFor_of_name (by decide +kernel)) (by decide +kernel) (by decide +kernel) (by decide) (fun _ _ h => by rw [h.1]; rfl) (fun _ U U' hal hh h => ⟨h.1, h.2.1.mv hal hh, h.2.2.1, h.2.2.2.1.mv hal hh, h.2.2.2.2⟩) (fun r U U' V V' h1 hal h2 h => Says01.mv r U U' V V' h1 hal h2 h) ?_
  intro p e s m args below meth c s₁ X0 hexec hbytes hml hret hlk hnm hown hh0 W hP
  obtain ⟨rfl, hA, tA, hB, tB⟩ := hP
  have a31 := hA.2.2.2
  have b31 := hB.2.2.2
  have hA0 := hA.mv X0.warmed.alike hh0
  have hB0 := hB.mv X0.warmed.alike hh0
  have c1 : Steps p.tables e below (s₁.setTop (entryFrame m #[.ref a, .ref b] 3)) (s₁.setTop (mkF m 0 #[.val (.ref a), .val (.ref b), .unset] [])) := entry rfl
  have c2 : Steps p.tables e below (s₁.setTop (entryFrame m #[.ref a, .ref b] 3)) (s₁.setTop (mkF m 4 #[.val (.ref a), .val (.ref b), .unset] [.int (Int32.ofNat B.slots.size), .int (Int32.ofNat A.slots.size)])) := c1.trans (by
    refine XS.aloadN X0.here hexec rfl (hb hbytes d0) rfl rfl ?_
    refine X0.alen hexec hA0 rfl rfl (hb hbytes d1) ?_
    refine XS.aloadN X0.here hexec rfl (hb hbytes d2) rfl rfl ?_
    refine X0.alen hexec hB0 rfl rfl (hb hbytes d3) ?_
    exact Steps.refl _)
  by_cases hs : A.slots.size = B.slots.size
  · have c3 : Steps p.tables e below (s₁.setTop (entryFrame m #[.ref a, .ref b] 3)) (s₁.setTop (mkF m 9 #[.val (.ref a), .val (.ref b), .val (.int 0)] [])) := c2.trans (by
      refine XS.icmpNo X0.here hexec rfl (hb hbytes d4) rfl (ii_ne_f (by rw [hs])) ?_
      refine iconstV X0.here hexec rfl 0 (hb hbytes d7) (by decide) ?_
      refine XS.istoreN X0.here hexec rfl (hb hbytes d8) rfl rfl ?_
      exact Steps.refl _)
    have loop : ∀ (r i : Nat), i + r = A.slots.size → (∀ j, j < i → yv A j = yv B j) → Steps p.tables e below (s₁.setTop (entryFrame m #[.ref a, .ref b] 3)) (s₁.setTop (mkF m 9 #[.val (.ref a), .val (.ref b), .val (.int (Int32.ofNat i))] [])) → ∃ (pc : Nat) (Ls : Array Slot) (v : Int32), (pc = 25 ∨ pc = 33) ∧ ((v = 1 ∧ EqC A B) ∨ (v = 0 ∧ ¬ EqC A B)) ∧ Steps p.tables e below (s₁.setTop (entryFrame m #[.ref a, .ref b] 3)) (s₁.setTop (mkF m pc Ls [.int v])) := by
      intro r
      induction r with
      | zero =>
        intro i hi he cl
        exact ⟨33, _, 1, Or.inr rfl, Or.inl ⟨rfl, hs, fun j hj => he j (by omega)⟩, cl.trans (by
          refine XS.iloadN X0.here hexec rfl (hb hbytes d9) rfl ?_
          refine XS.aloadN X0.here hexec rfl (hb hbytes d10) rfl rfl ?_
          refine X0.alen hexec hA0 rfl rfl (hb hbytes d11) ?_
          refine XS.icmpYes X0.here hexec rfl (pc0 := 12) rfl (hb hbytes d12) rfl (ii_ge_t (nlt32 (by omega) (by omega))) (by decide) rfl ?_
          refine iconstV X0.here hexec rfl 1 (hb hbytes d32) (by decide) ?_
          exact Steps.refl _)⟩
      | succ r ih =>
        intro i hi he cl
        have c4 : Steps p.tables e below (s₁.setTop (entryFrame m #[.ref a, .ref b] 3)) (s₁.setTop (mkF m 21 #[.val (.ref a), .val (.ref b), .val (.int (Int32.ofNat i))] [.int (yv B i), .int (yv A i)])) := cl.trans (by
          refine XS.iloadN X0.here hexec rfl (hb hbytes d9) rfl ?_
          refine XS.aloadN X0.here hexec rfl (hb hbytes d10) rfl rfl ?_
          refine X0.alen hexec hA0 rfl rfl (hb hbytes d11) ?_
          refine XS.icmpNo X0.here hexec rfl (hb hbytes d12) rfl (ii_ge_f (lt32 (by omega) (by omega))) ?_
          refine XS.aloadN X0.here hexec rfl (hb hbytes d15) rfl rfl ?_
          refine XS.iloadN X0.here hexec rfl (hb hbytes d16) rfl ?_
          refine X0.aget hexec hA0 rfl (yv_get hA tA (i := i) (by omega)) rfl rfl (hb hbytes d17) ?_
          refine XS.aloadN X0.here hexec rfl (hb hbytes d18) rfl rfl ?_
          refine XS.iloadN X0.here hexec rfl (hb hbytes d19) rfl ?_
          refine X0.aget hexec hB0 rfl (yv_get hB tB (i := i) (by omega)) rfl rfl (hb hbytes d20) ?_
          exact Steps.refl _)
        by_cases hv : yv A i = yv B i
        · have c5 : Steps p.tables e below (s₁.setTop (entryFrame m #[.ref a, .ref b] 3)) (s₁.setTop (mkF m 9 #[.val (.ref a), .val (.ref b), .val (.int (Int32.ofNat i + 1))] [])) := c4.trans (by
            refine XS.icmpYes X0.here hexec rfl (pc0 := 21) rfl (hb hbytes d21) rfl (ii_eq_t hv) (by decide) rfl ?_
            refine iincV X0.here hexec rfl 1 (hb hbytes d26) (by decide) rfl rfl ?_
            refine XS.goto X0.here hexec rfl (pc0 := 29) rfl (hb hbytes d29) (by decide) rfl ?_
            exact Steps.refl _)
          rw [succ32] at c5
          exact ih (i + 1) (by omega) (fun j hj => by
            by_cases e : j = i
            · rw [e]; exact hv
            · exact he j (by omega)) c5
        · exact ⟨25, _, 0, Or.inl rfl, Or.inr ⟨rfl, fun q => hv (q.2 i (by omega))⟩, c4.trans (by
            refine XS.icmpNo X0.here hexec rfl (hb hbytes d21) rfl (ii_eq_f hv) ?_
            refine iconstV X0.here hexec rfl 0 (hb hbytes d24) (by decide) ?_
            exact Steps.refl _)⟩
    obtain ⟨pc, Ls, v, hpc, hv, cz⟩ := loop A.slots.size 0 (by omega) (fun j hj => absurd hj (Nat.not_lt_zero j)) c3
    have nv : narrow .boolean (.int v) = .int v := by rcases hv with ⟨rfl, -⟩ | ⟨rfl, -⟩ <;> rfl
    rcases hpc with rfl | rfl
    · exact ⟨s₁, some (.int v), _, _, _, X0, rfl, rfl, rfl, (fun h => by cases h), ⟨v, rfl, hh0, hv⟩, fun fs hl => cz.trans (X0.ireturnOut hexec hret nv (Or.inr (Or.inl rfl)) (hb hbytes d25) hl)⟩
    · exact ⟨s₁, some (.int v), _, _, _, X0, rfl, rfl, rfl, (fun h => by cases h), ⟨v, rfl, hh0, hv⟩, fun fs hl => cz.trans (X0.ireturnOut hexec hret nv (Or.inr (Or.inl rfl)) (hb hbytes d33) hl)⟩
  · have c3 : Steps p.tables e below (s₁.setTop (entryFrame m #[.ref a, .ref b] 3)) (s₁.setTop (mkF m 35 #[.val (.ref a), .val (.ref b), .unset] [.int 0])) := c2.trans (by
      refine XS.icmpYes X0.here hexec rfl (pc0 := 4) rfl (hb hbytes d4) rfl (ii_ne_t (ne32 a31 b31 hs)) (by decide) rfl ?_
      refine iconstV X0.here hexec rfl 0 (hb hbytes d34) (by decide) ?_
      exact Steps.refl _)
    exact ⟨s₁, some (.int 0), _, _, _, X0, rfl, rfl, rfl, (fun h => by cases h), ⟨0, rfl, hh0, Or.inr ⟨rfl, fun q => hs q.1⟩⟩, fun fs hl => c3.trans (X0.ireturnOut hexec hret rfl (Or.inr (Or.inl rfl)) (hb hbytes d35) hl)⟩
end LEq
theorem Cod.ty {cd : Int32} {n : Nat} {f : Nat → Int32} {V : Cell} (h : Cod cd n f V) : Typed .byte V := fun i v hv => by
  have hi : i < V.slots.size := (Array.getElem?_eq_some_iff.mp hv).1
  rcases h with ⟨-, k1, k2⟩ | ⟨-, k1, k2, -⟩
  · rw [(k2 i (by omega)).1] at hv; cases hv; exact fits_lo8 _
  · rcases Nat.mod_two_eq_zero_or_one i with e | e
    · obtain ⟨j, rfl⟩ : ∃ j, i = 2 * j := ⟨i / 2, by omega⟩
      rw [(k2 j (by omega)).1] at hv; cases hv; exact fits_lo8 _
    · obtain ⟨j, rfl⟩ : ∃ j, i = 2 * j + 1 := ⟨i / 2, by omega⟩
      rw [(k2 j (by omega)).2] at hv; cases hv; exact fits_lo8 _
/-- the same text -/
def SameT (n : Nat) (f : Nat → Int32) (k : Nat) (g : Nat → Int32) : Prop := n = k ∧ ∀ j, j < n → f j = g j
theorem lo8_inj {x y : Int32} (h0 : ¬ x < 0) (h1 : ¬ 255 < x) (k0 : ¬ y < 0) (k1 : ¬ 255 < y) (h : lo8 x = lo8 y) : x = y := by
  rw [← lo8_mask h0 h1, ← lo8_mask k0 k1, h]
/-- arrays coded by one coder are equal just where the texts are -/
theorem Cod.eqv {cd : Int32} {n k : Nat} {f g : Nat → Int32} {V V' : Cell} (h : Cod cd n f V) (h' : Cod cd k g V') (hf : ∀ j, j < n → ¬ f j < 0 ∧ ¬ 65535 < f j) (hg : ∀ j, j < k → ¬ g j < 0 ∧ ¬ 65535 < g j) : EqC V V' ↔ SameT n f k g := by
  have yvv : ∀ {W : Cell} {i : Nat} {x : Int32}, W.slots[i]? = some (.int x) → yv W i = x := fun q => by unfold yv; rw [q]
  rcases h with ⟨rfl, k1, k2⟩ | ⟨rfl, k1, k2, -⟩
  · rcases h' with ⟨-, m1, m2⟩ | ⟨e, -⟩
    · constructor
      · rintro ⟨e1, e2⟩
        refine ⟨by omega, fun j hj => ?_⟩
        have q := e2 j (by omega)
        rw [yvv (k2 j hj).1, yvv (m2 j (by omega)).1] at q
        exact lo8_inj (hf j hj).1 (k2 j hj).2 (hg j (by omega)).1 (m2 j (by omega)).2 q
      · rintro ⟨rfl, e2⟩
        refine ⟨by omega, fun j hj => ?_⟩
        rw [yvv (k2 j (by omega)).1, yvv (m2 j (by omega)).1, e2 j (by omega)]
    · exact absurd e (by decide)
  · rcases h' with ⟨e, -⟩ | ⟨-, m1, m2, -⟩
    · exact absurd e (by decide)
    · constructor
      · rintro ⟨e1, e2⟩
        refine ⟨by omega, fun j hj => ?_⟩
        have q1 := e2 (2 * j) (by omega)
        have q2 := e2 (2 * j + 1) (by omega)
        rw [yvv (k2 j hj).1, yvv (m2 j (by omega)).1] at q1
        rw [yvv (k2 j hj).2, yvv (m2 j (by omega)).2] at q2
        rw [← pair_says (hf j hj).1 (hf j hj).2, ← pair_says (hg j (by omega)).1 (hg j (by omega)).2, q1, q2]
      · rintro ⟨rfl, e2⟩
        refine ⟨by omega, fun i hi => ?_⟩
        rcases Nat.mod_two_eq_zero_or_one i with e | e
        · obtain ⟨j, rfl⟩ : ∃ j, i = 2 * j := ⟨i / 2, by omega⟩
          rw [yvv (k2 j (by omega)).1, yvv (m2 j (by omega)).1, e2 j (by omega)]
        · obtain ⟨j, rfl⟩ : ∃ j, i = 2 * j + 1 := ⟨i / 2, by omega⟩
          rw [yvv (k2 j (by omega)).2, yvv (m2 j (by omega)).2, e2 j (by omega)]
/-- two codings differ: so do the texts -/
theorem Cod.dif {cd cd' : Int32} {n k : Nat} {f g : Nat → Int32} {V V' : Cell} (h : Cod cd n f V) (h' : Cod cd' k g V') (hne : ¬ cd = cd') : ¬ SameT n f k g := by
  rintro ⟨rfl, e⟩
  rcases h with ⟨rfl, -, k2⟩ | ⟨rfl, -, -, j, hj, hw⟩
  · rcases h' with ⟨rfl, -⟩ | ⟨-, -, -, j, hj, hw⟩
    · exact hne rfl
    · exact (k2 j hj).2 (by rw [e j hj]; exact hw)
  · rcases h' with ⟨-, -, m2⟩ | ⟨rfl, -⟩
    · exact (m2 j hj).2 (by rw [← e j hj]; exact hw)
    · exact hne rfl
/-- an object of exactly C is an instance of C -/
theorem cinst {p : Program} {l : Launch} {e : Env} {R : Room} {s : State} {m : MethodId} {args : Array Value} {below : List Frame} {meth : Method} {c : Code} {T : State} {locs : List Loc} {cells slots : Nat} (X : Stand p l e R s m args below meth c T locs cells slots) (hexec : p.tables.exec = Jvm.exec) {own C : String} {index : Nat} (hown : s.vm.findClass own = some m.cls) (hlink : (Cond.classLink own index C).before args s = true) {a : Addr} (hE : Exact C a T)
    {g : JFrame} (hg : g.method = m) {rest : List Value} (hstack : g.stack = .ref a :: rest) (hdg : decode c.code g.pc = .ok (.instanceof index, 3)) :
    ∃ T', Stand p l e R s m args below meth c T' locs cells slots ∧ T'.heap = T.heap ∧ ∀ target, Steps p.tables e below (T'.setTop { g with pc := g.pc + 3, stack := .int 1 :: rest }) target → Steps p.tables e below (T.setTop g) target := by
  obtain ⟨cB, h1, D, h2, h3, h4⟩ := hE
  have h1' : s.vm.findClass C = some cB := by rw [← X.warmed.alike.findClass]; exact h1
  obtain ⟨vm', X', st⟩ := X.instanceofYes hexec hown hlink h2 h4 h1' (by rw [h3]; exact Jvm.Free.SB.assignable_self _ _) hg hstack hdg
  exact ⟨_, X', rfl, st⟩
theorem cself {p : Program} {l : Launch} {e : Env} {R : Room} {s : State} {m : MethodId} {args : Array Value} {below : List Frame} {meth : Method} {c : Code} {T : State} {locs : List Loc} {cells slots : Nat} (X : Stand p l e R s m args below meth c T locs cells slots) (hexec : p.tables.exec = Jvm.exec) {own C : String} {index : Nat} (hown : s.vm.findClass own = some m.cls) (hlink : (Cond.classLink own index C).before args s = true) {a : Addr} (hE : Exact C a T)
    {g : JFrame} (hg : g.method = m) {rest : List Value} (hstack : g.stack = .ref a :: rest) (hdg : decode c.code g.pc = .ok (.checkcast index, 3)) :
    ∃ T', Stand p l e R s m args below meth c T' locs cells slots ∧ T'.heap = T.heap ∧ ∀ target, Steps p.tables e below (T'.setTop { g with pc := g.pc + 3, stack := .ref a :: rest }) target → Steps p.tables e below (T.setTop g) target := by
  obtain ⟨cB, h1, D, h2, h3, h4⟩ := hE
  have h1' : s.vm.findClass C = some cB := by rw [← X.warmed.alike.findClass]; exact h1
  obtain ⟨vm', X', st⟩ := X.checkcastYes hexec hown hlink h2 h4 h1' (by rw [h3]; exact Jvm.Free.SB.assignable_self _ _) hg hstack hdg
  exact ⟨_, X', rfl, fun t h => st t (by rw [← hstack] at h; exact h)⟩
namespace SEq
def yN : MethodName := ⟨"java/lang/String", "equals", "(Ljava/lang/Object;)Z"⟩
abbrev yB : ByteArray := jdk_42_method_66_code
theorem d0 : decode yB 0 = .ok (.aload_n 0, 1) := by decide +kernel
theorem d1 : decode yB 1 = .ok (.aload_n 1, 1) := by decide +kernel
theorem d2 : decode yB 2 = .ok (.if_acmp (.ne) 5, 3) := by decide +kernel
theorem d5 : decode yB 5 = .ok (.iconst 1, 1) := by decide +kernel
theorem d6 : decode yB 6 = .ok (.ireturn, 1) := by decide +kernel
theorem d7 : decode yB 7 = .ok (.aload_n 1, 1) := by decide +kernel
theorem d8 : decode yB 8 = .ok (.instanceof 10, 3) := by decide +kernel
theorem d11 : decode yB 11 = .ok (.ifCond (.eq) 43, 3) := by decide +kernel
theorem d14 : decode yB 14 = .ok (.aload_n 1, 1) := by decide +kernel
theorem d15 : decode yB 15 = .ok (.checkcast 10, 3) := by decide +kernel
theorem d18 : decode yB 18 = .ok (.astore_n 2, 1) := by decide +kernel
theorem d19 : decode yB 19 = .ok (.getstatic 38, 3) := by decide +kernel
theorem d22 : decode yB 22 = .ok (.ifCond (.eq) 14, 3) := by decide +kernel
theorem d25 : decode yB 25 = .ok (.aload_n 0, 1) := by decide +kernel
theorem d26 : decode yB 26 = .ok (.getfield 15, 3) := by decide +kernel
theorem d29 : decode yB 29 = .ok (.aload_n 2, 1) := by decide +kernel
theorem d30 : decode yB 30 = .ok (.getfield 15, 3) := by decide +kernel
theorem d33 : decode yB 33 = .ok (.if_icmp (.ne) 21, 3) := by decide +kernel
theorem d36 : decode yB 36 = .ok (.aload_n 0, 1) := by decide +kernel
theorem d37 : decode yB 37 = .ok (.getfield 9, 3) := by decide +kernel
theorem d40 : decode yB 40 = .ok (.aload_n 2, 1) := by decide +kernel
theorem d41 : decode yB 41 = .ok (.getfield 9, 3) := by decide +kernel
theorem d44 : decode yB 44 = .ok (.invokestatic 541, 3) := by decide +kernel
theorem d47 : decode yB 47 = .ok (.ifCond (.eq) 7, 3) := by decide +kernel
theorem d50 : decode yB 50 = .ok (.iconst 1, 1) := by decide +kernel
theorem d51 : decode yB 51 = .ok (.goto 4, 3) := by decide +kernel
theorem d54 : decode yB 54 = .ok (.iconst 0, 1) := by decide +kernel
theorem d55 : decode yB 55 = .ok (.ireturn, 1) := by decide +kernel
def site : List Cond := [.classLink "java/lang/String" 10 "java/lang/String", .fieldLink "java/lang/String" 38 "java/lang/String" "COMPACT_STRINGS" "Z", .fieldLink "java/lang/String" 15 "java/lang/String" "coder" "B", .fieldLink "java/lang/String" 9 "java/lang/String" "value" "[B", LEq.tab] ++ staticW "java/lang/String" 541 LEq.yN
def tab : Cond := tabOf yN yB 3 (some .boolean) site
def P (x t : Addr) (V : Cell) (cd : Int32) (n : Nat) (f : Nat → Int32) (y t' : Addr) (V' : Cell) (cd' : Int32) (k : Nat) (g : Nat → Int32) (z : Int32) (args : Array Value) (s : State) : Prop := args = #[.ref x, .ref y] ∧ Txt x t V cd n f s ∧ Txt y t' V' cd' k g s ∧ StaticIs s "java/lang/String" "COMPACT_STRINGS" "Z" (.int z) ∧ ¬ z = 0
/-- equals(Object) of two Strings: whether the texts are the same -/
theorem law (l : Launch) (x t : Addr) (V : Cell) (cd : Int32) (n : Nat) (f : Nat → Int32) (y t' : Addr) (V' : Cell) (cd' : Int32) (k : Nat) (g : Nat → Int32) (z : Int32) : Law l yN 2 1 1 14 yB 3 (some .boolean) site (P x t V cd n f y t' V' cd' k g z) (Says01 (SameT n f k g)) [] 0 0 := by
  refine Law.of_walk (plainFor_of_name (by decide +kernel)) (by decide +kernel) (by decide +kernel) (by decide) (fun _ _ h => by rw [h.1]; rfl) (fun _ U U' hal hh h => ⟨h.1, h.2.1.mv hal hh, h.2.2.1.mv hal hh, h.2.2.2.1.there hal hh, h.2.2.2.2⟩) (fun r U U' V V' h1 hal h2 h => Says01.mv r U U' V V' h1 hal h2 h) ?_
  intro p e s m args below meth c s₁ X0 hexec hbytes hml hret hlk hnm hown hh0 W hP
  obtain ⟨rfl, hx, hy, s1, hz⟩ := hP
  have c1 : Steps p.tables e below (s₁.setTop (entryFrame m #[.ref x, .ref y] 3)) (s₁.setTop (mkF m 2 #[.val (.ref x), .val (.ref y), .unset] [.ref y, .ref x])) := Steps.trans (entry rfl) (by
    show Steps p.tables e below (s₁.setTop (mkF m 0 #[.val (.ref x), .val (.ref y), .unset] [])) _
    refine XS.aloadN X0.here hexec rfl (hb hbytes d0) rfl rfl ?_
    refine XS.aloadN X0.here hexec rfl (hb hbytes d1) rfl rfl ?_
    exact Steps.refl _)
  by_cases hxy : x = y
  · have c2 : Steps p.tables e below (s₁.setTop (entryFrame m #[.ref x, .ref y] 3)) (s₁.setTop (mkF m 6 #[.val (.ref x), .val (.ref y), .unset] [.int 1])) := c1.trans (by
      refine acmpNo X0.here hexec rfl (hb hbytes d2) rfl rfl rfl (by simp [acmp, hxy]) ?_
      refine iconstV X0.here hexec rfl 1 (hb hbytes d5) (by decide) ?_
      exact Steps.refl _)
    subst hxy
    have ec : cd = cd' := by
      obtain ⟨D, fd, a1, a2, a3⟩ := hx.2.2.1
      obtain ⟨D', fd', b1, b2, b3⟩ := hy.2.2.1
      cases a1.symm.trans b1
      obtain ⟨q1, q2, q3, q4⟩ := a2.1
      obtain ⟨r1, r2, r3, r4⟩ := b2.1
      cases q4.symm.trans r4
      cases a3.symm.trans b3; rfl
    have et : t = t' := by
      obtain ⟨D, fd, a1, a2, a3⟩ := hx.2.1
      obtain ⟨D', fd', b1, b2, b3⟩ := hy.2.1
      cases a1.symm.trans b1
      obtain ⟨q1, q2, q3, q4⟩ := a2.1
      obtain ⟨r1, r2, r3, r4⟩ := b2.1
      cases q4.symm.trans r4
      cases a3.symm.trans b3; rfl
    subst ec et
    have ev : V = V' := by cases hx.2.2.2.1.1.symm.trans hy.2.2.2.1.1; rfl
    subst ev
    have hs : SameT n f k g := (Cod.eqv hx.2.2.2.2.1 hy.2.2.2.2.1 hx.2.2.2.2.2 hy.2.2.2.2.2).mp ⟨rfl, fun _ _ => rfl⟩
    exact ⟨s₁, some (.int 1), _, _, _, X0, rfl, rfl, rfl, (fun h => by cases h), ⟨1, rfl, hh0, Or.inl ⟨rfl, hs⟩⟩, fun fs hl => c2.trans (X0.ireturnOut hexec hret rfl (Or.inr (Or.inl rfl)) (hb hbytes d6) hl)⟩
  · have c2 : Steps p.tables e below (s₁.setTop (entryFrame m #[.ref x, .ref y] 3)) (s₁.setTop (mkF m 8 #[.val (.ref x), .val (.ref y), .unset] [.ref y])) := c1.trans (by
      refine acmpYes X0.here hexec rfl (pc0 := 2) rfl (hb hbytes d2) rfl rfl rfl (by simp [acmp, hxy]) (by decide) rfl ?_
      refine XS.aloadN X0.here hexec rfl (hb hbytes d7) rfl rfl ?_
      exact Steps.refl _)
    obtain ⟨T3, X3, q3, st3⟩ := cinst X0 hexec hown (wk W (.classLink "java/lang/String" 10 "java/lang/String")) (hy.mv X0.warmed.alike hh0).1 (g := (mkF m 8 #[.val (.ref x), .val (.ref y), .unset] [.ref y])) rfl (rest := []) rfl (hb hbytes d8)
    have hh3 := q3.trans hh0
    have c4 : Steps p.tables e below (s₁.setTop (entryFrame m #[.ref x, .ref y] 3)) (T3.setTop (mkF m 15 #[.val (.ref x), .val (.ref y), .unset] [.ref y])) := (c2.trans (st3 _ (Steps.refl _))).trans (by
      refine XS.ifNo X3.here hexec rfl (hb hbytes d11) rfl (i0_eq_f (by decide)) ?_
      refine XS.aloadN X3.here hexec rfl (hb hbytes d14) rfl rfl ?_
      exact Steps.refl _)
    obtain ⟨T5, X5, q5, st5⟩ := cself X3 hexec hown (wk W (.classLink "java/lang/String" 10 "java/lang/String")) (hy.mv X3.warmed.alike hh3).1 (g := (mkF m 15 #[.val (.ref x), .val (.ref y), .unset] [.ref y])) rfl (rest := []) rfl (hb hbytes d15)
    have hh5 := q5.trans hh3
    have c6 : Steps p.tables e below (s₁.setTop (entryFrame m #[.ref x, .ref y] 3)) (T5.setTop (mkF m 19 #[.val (.ref x), .val (.ref y), .val (.ref y)] [])) := (c4.trans (st5 _ (Steps.refl _))).trans (by
      refine XS.astoreN X5.here hexec rfl (hb hbytes d18) rfl rfl rfl ?_
      exact Steps.refl _)
    obtain ⟨T7, X7, q7, st7⟩ := X5.sget hexec hown (wk W (.fieldLink "java/lang/String" 38 "java/lang/String" "COMPACT_STRINGS" "Z")) s1 (fun _ _ h => by rw [hh5]; exact h) (g := (mkF m 19 #[.val (.ref x), .val (.ref y), .val (.ref y)] [])) rfl (hb hbytes d19)
    have hh7 := q7.trans hh5
    have c8 : Steps p.tables e below (s₁.setTop (entryFrame m #[.ref x, .ref y] 3)) (T7.setTop (mkF m 26 #[.val (.ref x), .val (.ref y), .val (.ref y)] [.ref x])) := (c6.trans (st7 _ (Steps.refl _))).trans (by
      refine XS.ifNo X7.here hexec rfl (hb hbytes d22) rfl (i0_eq_f hz) ?_
      refine XS.aloadN X7.here hexec rfl (hb hbytes d25) rfl rfl ?_
      exact Steps.refl _)
    obtain ⟨T9, X9, q9, st9⟩ := X7.hget hexec hown (wk W (.fieldLink "java/lang/String" 15 "java/lang/String" "coder" "B")) (hx.mv X7.warmed.alike hh7).2.2.1 (g := (mkF m 26 #[.val (.ref x), .val (.ref y), .val (.ref y)] [.ref x])) rfl (rest := []) rfl (hb hbytes d26)
    have hh9 := q9.trans hh7
    have c10 : Steps p.tables e below (s₁.setTop (entryFrame m #[.ref x, .ref y] 3)) (T9.setTop (mkF m 30 #[.val (.ref x), .val (.ref y), .val (.ref y)] [.ref y, .int cd])) := (c8.trans (st9 _ (Steps.refl _))).trans (by
      refine XS.aloadN X9.here hexec rfl (hb hbytes d29) rfl rfl ?_
      exact Steps.refl _)
    obtain ⟨T11, X11, q11, st11⟩ := X9.hget hexec hown (wk W (.fieldLink "java/lang/String" 15 "java/lang/String" "coder" "B")) (hy.mv X9.warmed.alike hh9).2.2.1 (g := (mkF m 30 #[.val (.ref x), .val (.ref y), .val (.ref y)] [.ref y, .int cd])) rfl (rest := [.int cd]) rfl (hb hbytes d30)
    have hh11 := q11.trans hh9
    have c12 : Steps p.tables e below (s₁.setTop (entryFrame m #[.ref x, .ref y] 3)) (T11.setTop (mkF m 33 #[.val (.ref x), .val (.ref y), .val (.ref y)] [.int cd', .int cd])) := c10.trans (st11 _ (Steps.refl _))
    by_cases hcd : cd = cd'
    · subst hcd
      have c13 : Steps p.tables e below (s₁.setTop (entryFrame m #[.ref x, .ref y] 3)) (T11.setTop (mkF m 37 #[.val (.ref x), .val (.ref y), .val (.ref y)] [.ref x])) := c12.trans (by
        refine XS.icmpNo X11.here hexec rfl (hb hbytes d33) rfl (ii_ne_f rfl) ?_
        refine XS.aloadN X11.here hexec rfl (hb hbytes d36) rfl rfl ?_
        exact Steps.refl _)
      obtain ⟨T14, X14, q14, st14⟩ := X11.hget hexec hown (wk W (.fieldLink "java/lang/String" 9 "java/lang/String" "value" "[B")) (hx.mv X11.warmed.alike hh11).2.1 (g := (mkF m 37 #[.val (.ref x), .val (.ref y), .val (.ref y)] [.ref x])) rfl (rest := []) rfl (hb hbytes d37)
      have hh14 := q14.trans hh11
      have c15 : Steps p.tables e below (s₁.setTop (entryFrame m #[.ref x, .ref y] 3)) (T14.setTop (mkF m 41 #[.val (.ref x), .val (.ref y), .val (.ref y)] [.ref y, .ref t])) := (c13.trans (st14 _ (Steps.refl _))).trans (by
        refine XS.aloadN X14.here hexec rfl (hb hbytes d40) rfl rfl ?_
        exact Steps.refl _)
      obtain ⟨T16, X16, q16, st16⟩ := X14.hget hexec hown (wk W (.fieldLink "java/lang/String" 9 "java/lang/String" "value" "[B")) (hy.mv X14.warmed.alike hh14).2.1 (g := (mkF m 41 #[.val (.ref x), .val (.ref y), .val (.ref y)] [.ref y, .ref t])) rfl (rest := [.ref t]) rfl (hb hbytes d41)
      have hh16 := q16.trans hh14
      have c17 : Steps p.tables e below (s₁.setTop (entryFrame m #[.ref x, .ref y] 3)) (T16.setTop (mkF m 44 #[.val (.ref x), .val (.ref y), .val (.ref y)] [.ref t', .ref t])) := c15.trans (st16 _ (Steps.refl _))
      obtain ⟨v18, T18, X18, E18, g18⟩ := X16.callS hexec (LEq.law l t V t' V') hown (wks W (staticW "java/lang/String" 541 LEq.yN)) (wk W LEq.tab) (W := 0) (Nat.le_of_ble_eq_true rfl) (Nat.le_of_ble_eq_true rfl) (Nat.le_refl _) (Nat.le_refl _) (g := (mkF m 44 #[.val (.ref x), .val (.ref y), .val (.ref y)] [.ref t', .ref t])) rfl (by rw [hml]; rfl) c17 (argsL := [.ref t, .ref t']) (rest := []) rfl rfl (by show 2 * 0 + 0 ≤ _; decide) (hb hbytes d44) (⟨rfl, hx.2.2.2.1.mv X16.warmed.alike hh16, hx.2.2.2.2.1.ty, hy.2.2.2.1.mv X16.warmed.alike hh16, hy.2.2.2.2.1.ty⟩)
      obtain ⟨v, rfl, q18, hv⟩ := E18
      have iff := Cod.eqv hx.2.2.2.2.1 hy.2.2.2.2.1 hx.2.2.2.2.2 hy.2.2.2.2.2
      rcases hv with ⟨rfl, he⟩ | ⟨rfl, he⟩
      · have c19 : Steps p.tables e below (s₁.setTop (entryFrame m #[.ref x, .ref y] 3)) (T18.setTop (mkF m 55 #[.val (.ref x), .val (.ref y), .val (.ref y)] [.int 1])) := Steps.trans g18 (by
          refine XS.ifNo X18.here hexec rfl (hb hbytes d47) rfl (i0_eq_f (by decide)) ?_
          refine iconstV X18.here hexec rfl 1 (hb hbytes d50) (by decide) ?_
          refine XS.goto X18.here hexec rfl (pc0 := 51) rfl (hb hbytes d51) (by decide) rfl ?_
          exact Steps.refl _)
        exact ⟨T18, some (.int 1), _, _, _, X18, rfl, rfl, rfl, (fun h => by cases h), ⟨1, rfl, q18.trans hh16, Or.inl ⟨rfl, iff.mp he⟩⟩, fun fs hl => c19.trans (X18.ireturnOut hexec hret rfl (Or.inr (Or.inl rfl)) (hb hbytes d55) hl)⟩
      · have c19 : Steps p.tables e below (s₁.setTop (entryFrame m #[.ref x, .ref y] 3)) (T18.setTop (mkF m 55 #[.val (.ref x), .val (.ref y), .val (.ref y)] [.int 0])) := Steps.trans g18 (by
          refine XS.ifYes X18.here hexec rfl (pc0 := 47) rfl (hb hbytes d47) rfl (i0_eq_t rfl) (by decide) rfl ?_
          refine iconstV X18.here hexec rfl 0 (hb hbytes d54) (by decide) ?_
          exact Steps.refl _)
        exact ⟨T18, some (.int 0), _, _, _, X18, rfl, rfl, rfl, (fun h => by cases h), ⟨0, rfl, q18.trans hh16, Or.inr ⟨rfl, fun q => he (iff.mpr q)⟩⟩, fun fs hl => c19.trans (X18.ireturnOut hexec hret rfl (Or.inr (Or.inl rfl)) (hb hbytes d55) hl)⟩
    · have c13 : Steps p.tables e below (s₁.setTop (entryFrame m #[.ref x, .ref y] 3)) (T11.setTop (mkF m 55 #[.val (.ref x), .val (.ref y), .val (.ref y)] [.int 0])) := c12.trans (by
        refine XS.icmpYes X11.here hexec rfl (pc0 := 33) rfl (hb hbytes d33) rfl (ii_ne_t hcd) (by decide) rfl ?_
        refine iconstV X11.here hexec rfl 0 (hb hbytes d54) (by decide) ?_
        exact Steps.refl _)
      exact ⟨T11, some (.int 0), _, _, _, X11, rfl, rfl, rfl, (fun h => by cases h), ⟨0, rfl, hh11, Or.inr ⟨rfl, Cod.dif hx.2.2.2.2.1 hy.2.2.2.2.1 hcd⟩⟩, fun fs hl => c13.trans (X11.ireturnOut hexec hret rfl (Or.inr (Or.inl rfl)) (hb hbytes d55) hl)⟩
theorem pays {l : Launch} {R : Room} {p : Program} {e : Env} {below : List Frame} {s : State} {sargs : Array Value} {len W : Nat} (x t : Addr) (V : Cell) (cd : Int32) (n : Nat) (f : Nat → Int32) (y t' : Addr) (V' : Cell) (cd' : Int32) (k : Nat) (g : Nat → Int32) (z : Int32) (htab : tab.before sargs s = true) (hfr : 2 ≤ R.frames) (hlo : W + 28 ≤ R.locals) :
    Back l R p e below s sargs yN len W (fun A₁ a₁ => A₁.cells + 0 ≤ R.cells ∧ A₁.slots + 0 ≤ R.slots ∧ P x t V cd n f y t' V' cd' k g z a₁ A₁.U) (fun A₁ _ v₁ B₁ => Says01 (SameT n f k g) v₁ A₁.U B₁.U ∧ B₁.locs = A₁.locs ++ [] ∧ B₁.cells = A₁.cells + 0 ∧ B₁.slots = A₁.slots + 0) :=
  (law l x t V cd n f y t' V' cd' k g z).pays htab hfr (by omega)
end SEq
end StrChars
namespace StrChars.Road
open Jvm Sem ClassFile Op Lib Jvm.Stand Jvm.Free Jvm.Free.XT
open Jvm.Lib.Cold (StaticIs)
/-- the words of String.equals(Object) -/
abbrev wordsEq : List Jvm.Cond := [.code SEq.yN SEq.yB 3 (some .boolean), .initialized ST, .classLink ST 10 ST, .fieldLink ST 38 ST "COMPACT_STRINGS" "Z", .fieldLink ST 15 ST "coder" "B", .fieldLink ST 9 ST "value" "[B", .methodLink ST 541 LEq.yN, .static LEq.yN, .code LEq.yN LEq.yB 3 (some .boolean), .initialized "java/lang/StringLatin1"]
theorem tabEq_of {a : Array Value} {s : State} (h : ∀ w ∈ wordsEq, w.before a s = true) : SEq.tab.before a s = true := by
  have hl : LEq.tab.before a s = true := unparts (wk h (.code LEq.yN LEq.yB 3 (some .boolean))) (wks h (.initialized LEq.yN.cls :: LEq.site))
  have q := consq hl h
  exact unparts (wk q (.code SEq.yN SEq.yB 3 (some .boolean))) (wks q (.initialized SEq.yN.cls :: SEq.site))
theorem movedEq {Z s : State} {a0 args : Array Value} (hZ : Z.Warmed39 s.vm) (hw : ∀ d ∈ wordsEq, d.before a0 Z = true) : ∀ d ∈ wordsEq, d.before args s = true := fun d hd => by
  have t : ∀ d ∈ wordsEq, (d.onTables && d.keepsFace) = true := by decide +kernel
  exact RoadKit.mv hZ (hw d hd) (t d hd)
/-- the road's facts of a String, as the laws ask it -/
theorem txt_of {Z U : State} {a0 : Array Value} {kI : Nat} (wi : (Jvm.Cond.instantiable ST kI).before a0 Z = true) (al : Z.vm.Alike U.vm) {x t : Addr} {kb : ClassId} {cs : List Int32} {cd N2 : Int32} {vs : List Value} (E : RoadKit.Exa Z U.heap x ST) (V : RoadKit.Fld Z U.heap x ST "value" "[B" (.ref t)) (C : RoadKit.Fld Z U.heap x ST "coder" "B" (.int cd)) (K : RoadKit.Arv Z U.heap t kb .byte N2 vs (.int 0)) (hc : CodA cs cd N2 vs) (hb : ∀ c ∈ cs, ¬ c < 0 ∧ ¬ (65535 : Int32) < c) (l2 : cs.length ≤ 4000) :
    ∃ A, Txt x t A cd cs.length (fun j => cs.getD j 0) U := by
  obtain ⟨A, K1, K2, K3, K4, K5, K6⟩ := K
  have hcod := hc.cod (by omega) K3 K5
  obtain ⟨D, fV, fC, hB, F1, F2, g1, g2, -, -⟩ := strObj wi al E V C
  exact ⟨A, ⟨_, hB.2.2.1, D, hB.1, rfl, by cases q : D.vm <;> first | rfl | exact absurd q (hB.2.1.2 _)⟩, Has.of hB F1 g1, Has.of hB F2 g2, ⟨K1.1, State.isArrayOf_alike al K1.2.1, K1.2.2, by rcases hcod with ⟨-, q, -⟩ | ⟨-, q, -⟩ <;> omega⟩, hcod, fun j hj => by
    have e : cs.getD j 0 = cs[j] := by simp [List.getD_eq_getElem?_getD, hj]
    show ¬ cs.getD j 0 < 0 ∧ ¬ 65535 < cs.getD j 0
    rw [e]; exact hb _ (List.getElem_mem _)⟩
theorem same_list (cs ds : List Int32) : SameT cs.length (fun j => cs.getD j 0) ds.length (fun j => ds.getD j 0) ↔ cs = ds := by
  constructor
  · rintro ⟨e, q⟩
    refine List.ext_getElem e fun j h1 h2 => ?_
    have := q j h1
    simpa [List.getD_eq_getElem?_getD, h1, h2] using this
  · rintro rfl
    exact ⟨rfl, fun _ _ => rfl⟩
/-- **equals(Object) OF TWO SUCH STRINGS**: 1 just where the chars are the same -/
theorem eqW {p : Program} {l : Launch} {e : Env} {R : Room} {s : State} {args : Array Value} {below : List Frame} {len W : Nat} {Z : State} {a0 : Array Value} {h : Heap} (hZ : Z.Warmed39 s.vm) (hw : ∀ d ∈ wordsEq, d.before a0 Z = true) {kI : Nat} (wi : (Jvm.Cond.instantiable ST kI).before a0 Z = true)
    {x t : Addr} {kb : ClassId} {cs : List Int32} {cd N2 : Int32} {vs : List Value} (E : RoadKit.Exa Z h x ST) (V : RoadKit.Fld Z h x ST "value" "[B" (.ref t)) (C : RoadKit.Fld Z h x ST "coder" "B" (.int cd)) (K : RoadKit.Arv Z h t kb .byte N2 vs (.int 0)) (hc : CodA cs cd N2 vs) (hb : ∀ c ∈ cs, ¬ c < 0 ∧ ¬ (65535 : Int32) < c) (l2 : cs.length ≤ 4000)
    {y t' : Addr} {kb' : ClassId} {ds : List Int32} {cd' N2' : Int32} {vs' : List Value} (E' : RoadKit.Exa Z h y ST) (V' : RoadKit.Fld Z h y ST "value" "[B" (.ref t')) (C' : RoadKit.Fld Z h y ST "coder" "B" (.int cd')) (K' : RoadKit.Arv Z h t' kb' .byte N2' vs' (.int 0)) (hc' : CodA ds cd' N2' vs') (hb' : ∀ c ∈ ds, ¬ c < 0 ∧ ¬ (65535 : Int32) < c) (l2' : ds.length ≤ 4000)
    {z : Int32} (S : RoadKit.Sta Z h ST "COMPACT_STRINGS" "Z" (.int z)) (hz : ¬ z = 0) (hfr : 2 ≤ R.frames) (hlo : W + 28 ≤ R.locals) :
    Back l R p e below s args (⟨"java/lang/String", "equals", "(Ljava/lang/Object;)Z"⟩ : MethodName) len W (fun P a => a = #[.ref x, .ref y] ∧ P.U.heap = h ∧ P.cells + 0 ≤ R.cells ∧ P.slots + 0 ≤ R.slots)
      (fun P _ v B => ∃ L, (((v = some (.int 1) ∧ cs = ds) ∨ (v = some (.int 0) ∧ ¬ cs = ds)) ∧ L = [] ∧ B.U.heap = h) ∧ B.locs = P.locs ++ L ∧ B.cells = P.cells + 0 ∧ B.slots = P.slots + 0) := by
  intro m meth c P g ig mk a X hg hsize hdg hW hn hp'
  obtain ⟨rfl, rfl, r1, r2⟩ := hp'
  have al : Z.vm.Alike P.U.vm := hZ.alike.trans X.warmed.alike
  obtain ⟨A, hx⟩ := txt_of wi al E V C K hc hb l2
  obtain ⟨A', hy⟩ := txt_of wi al E' V' C' K' hc' hb' l2'
  obtain ⟨v, B, X', ⟨⟨w, hv, hh, hq⟩, hl, hk, hs⟩, st⟩ := SEq.pays x t A cd cs.length (fun j => cs.getD j 0) y t' A' cd' ds.length (fun j => ds.getD j 0) z (tabEq_of (movedEq hZ hw)) hfr hlo m meth c P g ig mk _ X hg hsize hdg hW hn ⟨r1, r2, rfl, hx, hy, sta_is al S, hz⟩
  refine ⟨v, B, X', ⟨[], ⟨?_, rfl, hh⟩, hl, hk, hs⟩, st⟩
  rcases hq with ⟨rfl, q⟩ | ⟨rfl, q⟩
  · exact Or.inl ⟨hv, (same_list cs ds).mp q⟩
  · exact Or.inr ⟨hv, fun e => q ((same_list cs ds).mpr e)⟩
end StrChars.Road
namespace StrChars.Road
open Jvm Sem ClassFile Op Lib Jvm.Stand Jvm.Free Jvm.Free.XT
open Jvm.Lib.Cold (StaticIs)
/-- what backV says of its String, as the contracts of this text ask it: cs's low bytes, coder 0 -/
theorem codOf {cs : List Int32} {n : Nat} (hn : cs.length = n) (hb : ∀ c ∈ cs, ¬ 255 < c) : CodA cs 0 (Int32.ofNat n) ((cs.map lo8).map Value.int) := Or.inl ⟨rfl, by rw [hn], by simp [List.map_map, Function.comp_def], hb⟩
end StrChars.Road
end Jvm.Pilot.@@N@@
namespace Jvm.Pilot.@@N@@
open Jvm Jvm.ClassFile Sem Op Lib Jvm.Free Jvm.Stand Jvm.LawKit Jvm.RoadKit Bundle Jvm.Pilot.@@N@@.Jvm.D
namespace Wd
section Strs
variable {p : Program} {l : Launch} {e : Env} {R : Room} {s : State} {args : Array Value} {below : List Frame} {Z : State} {EL : List (String × Nat)} {n0 : Nat} {h h' : Heap} {WL FL : List Addr} {a0 : Array Value} {len W : Nat} {x t : Addr} {cs : List Int32}
abbrev lat (cs : List Int32) : List Value := (cs.map fun c => c.toInt8.toInt32).map Value.int
/-- x is a String of the chars cs, each at most 255; t its bytes -/
def StrL (Z : State) (h : Heap) (x t : Addr) (cs : List Int32) : Prop :=
  Exa Z h x "java/lang/String" ∧ Fld Z h x "java/lang/String" "value" "[B" (.ref t) ∧ Fld Z h x "java/lang/String" "coder" "B" (.int 0) ∧ (∃ kb, Arv Z h t kb .byte (Int32.ofNat cs.length) (lat cs) (.int 0)) ∧ (∀ c ∈ cs, ¬ c < 0 ∧ ¬ (255 : Int32) < c) ∧ cs.length ≤ 4000
theorem StrL.ext (S : StrL Z h x t cs) (E : Ext h h') : StrL Z h' x t cs := by
  obtain ⟨s1, s2, s3, ⟨kb, s4⟩, s5⟩ := S; exact ⟨s1.ext E, s2.ext E, s3.ext E, ⟨kb, s4.ext E⟩, s5⟩
theorem StrL.keep {ws : List Addr} (S : StrL Z h x t cs) (K : Keep h h' ws) (h1 : x ∉ ws) (h2 : t ∉ ws) : StrL Z h' x t cs := by
  obtain ⟨s1, s2, s3, ⟨kb, s4⟩, s5⟩ := S; exact ⟨s1.keep K, s2.keep K h1, s3.keep K h1, ⟨kb, s4.keep K h2⟩, s5⟩
theorem StrL.wr {a : Addr} {sl : Nat} {v : Value} (S : StrL Z h x t cs) (W : Wr h h' a sl v) (h1 : x ≠ a) (h2 : t ≠ a) : StrL Z h' x t cs := by
  obtain ⟨s1, s2, s3, ⟨kb, s4⟩, s5⟩ := S; exact ⟨s1.wr W, s2.other W (Or.inl h1), s3.other W (Or.inl h1), ⟨kb, s4.other W h2⟩, s5⟩
/-- what new String(chars) leaves -/
def QNew (Z : State) (x : Addr) (cs : List Int32) (h : Heap) (v : Option Value) (h' : Heap) (WL' FL' : List Addr) : Prop := ∃ t : Addr, v = none ∧ WL' = [] ∧ FL' = [t] ∧ Keep h h' [x] ∧ StrL Z h' x t cs
theorem StrL.up (S : StrL Z h x t cs) : ∀ c ∈ cs, ¬ c < 0 ∧ ¬ (65535 : Int32) < c := fun c hc => ⟨(S.2.2.2.2.1 c hc).1, fun q => (S.2.2.2.2.1 c hc).2 (by rw [Int32.lt_iff_toInt_lt] at q ⊢; have e1 : (65535 : Int32).toInt = 65535 := rfl; have e2 : (255 : Int32).toInt = 255 := rfl; omega)⟩
theorem StrL.cod (S : StrL Z h x t cs) : StrChars.Road.CodA cs 0 (Int32.ofNat cs.length) (lat cs) := StrChars.Road.codOf rfl (fun c hc => (S.2.2.2.2.1 c hc).2)
theorem pay_new (hw : ∀ d ∈ StrChars.Road.words, d.before a0 Z = true) {kI : Nat} (wi : (Jvm.Cond.instantiable "java/lang/String" kI).before a0 Z = true) {b : Addr} {kC : ClassId} {d v0 c0 : Value} {z N : Int32} {n : Nat} (ge : n0 ≤ x) (ge' : n0 ≤ h.size) (hx : x ∈ WL) (E : Exa Z h x "java/lang/String") (V : Fld Z h x "java/lang/String" "value" "[B" v0) (C : Fld Z h x "java/lang/String" "coder" "B" c0) (A : Arv Z h b kC .char N (cs.map Value.int) d) (S : Sta Z h "java/lang/String" "COMPACT_STRINGS" "Z" (.int z)) (hz : ¬ z = 0)
    (hn : cs.length = n) (hN : N = Int32.ofNat n) (l0 : 0 < n) (l2 : n ≤ 4000) (hp : ∀ c ∈ cs, ¬ c < 0 ∧ ¬ (255 : Int32) < c) (hfr : 4 ≤ R.frames) (hlo : W + 65 ≤ R.locals) :
    Pay l R p e below s args Z EL n0 (⟨"java/lang/String", "<init>", "([C)V"⟩ : MethodName) len W #[.ref x, .ref b] h WL FL 1 n (QNew Z x cs h) :=
  Pay.ofN (fun vm0 hZ => StrChars.Road.backV (n0 := n0) hZ hw wi ge ge' E V C A S hz hn hN l0 l2 hp rfl hfr hlo) (fun v h' L ⟨q1, q2, q3, q4, q5, t, kb, q6, q7, q8, q9, q10⟩ => by
    refine ⟨q2, [x], [t], q3, allS hx all0, allS ⟨q7, q10.lt⟩ all0, t, q1, rfl, rfl, q3, q4, q9, q5, ⟨kb, ?_⟩, hp, by omega⟩
    rw [hN] at q10; rw [hn]; exact q10)
theorem pay_len (hw : ∀ d ∈ StrChars.Road.wordsLen, d.before a0 Z = true) {kI : Nat} (wi : (Jvm.Cond.instantiable "java/lang/String" kI).before a0 Z = true) {z : Int32} (S : StrL Z h x t cs) (O : Sta Z h "java/lang/String" "COMPACT_STRINGS" "Z" (.int z)) (hz : ¬ z = 0) (hfr : 2 ≤ R.frames) (hlo : W + 25 ≤ R.locals) :
    Pay l R p e below s args Z EL n0 (⟨"java/lang/String", "length", "()I"⟩ : MethodName) len W #[.ref x] h WL FL 0 0 (fun v h' WL' FL' => v = some (.int (Int32.ofNat cs.length)) ∧ WL' = [] ∧ FL' = [] ∧ h' = h) := by
  have up := S.up; have cd := S.cod
  obtain ⟨s1, s2, s3, ⟨kb, s4⟩, s5, s6⟩ := S
  exact Pay.ofN (Qn := fun v h' L => v = some (.int (Int32.ofNat cs.length)) ∧ L = [] ∧ h' = h) (fun vm0 hZ => StrChars.Road.lenW hZ hw wi s1 s2 s3 s4 cd up O hz s6 hfr hlo) (fun v h' L ⟨q1, q2, q3⟩ => by
    subst q2 q3
    exact ⟨Fr.nil _, [], [], Keep.refl _ _, all0, all0, q1, rfl, rfl, rfl⟩)
theorem pay_eq (hw : ∀ d ∈ StrChars.Road.wordsEq, d.before a0 Z = true) {kI : Nat} (wi : (Jvm.Cond.instantiable "java/lang/String" kI).before a0 Z = true) {z : Int32} {y u : Addr} {ds : List Int32} (S : StrL Z h x t cs) (S' : StrL Z h y u ds) (O : Sta Z h "java/lang/String" "COMPACT_STRINGS" "Z" (.int z)) (hz : ¬ z = 0) (hfr : 2 ≤ R.frames) (hlo : W + 28 ≤ R.locals) :
    Pay l R p e below s args Z EL n0 (⟨"java/lang/String", "equals", "(Ljava/lang/Object;)Z"⟩ : MethodName) len W #[.ref x, .ref y] h WL FL 0 0 (fun v h' WL' FL' => v = some (.int (if cs = ds then 1 else 0)) ∧ WL' = [] ∧ FL' = [] ∧ h' = h) := by
  have up := S.up; have cd := S.cod; have up' := S'.up; have cd' := S'.cod
  obtain ⟨s1, s2, s3, ⟨kb, s4⟩, s5, s6⟩ := S
  obtain ⟨r1, r2, r3, ⟨kr, r4⟩, r5, r6⟩ := S'
  exact Pay.ofN (Qn := fun v h' L => ((v = some (.int 1) ∧ cs = ds) ∨ (v = some (.int 0) ∧ ¬ cs = ds)) ∧ L = [] ∧ h' = h) (fun vm0 hZ => StrChars.Road.eqW hZ hw wi s1 s2 s3 s4 cd up s6 r1 r2 r3 r4 cd' up' r6 O hz hfr hlo) (fun v h' L ⟨q1, q2, q3⟩ => by
    subst q2 q3
    refine ⟨Fr.nil _, [], [], Keep.refl _ _, all0, all0, ?_, rfl, rfl, rfl⟩
    rcases q1 with ⟨q, e⟩ | ⟨q, e⟩
    · rw [q, if_pos e]
    · rw [q, if_neg e])
theorem pay_eqT (hw : ∀ d ∈ StrChars.Road.wordsEq, d.before a0 Z = true) {kI : Nat} (wi : (Jvm.Cond.instantiable "java/lang/String" kI).before a0 Z = true) {z : Int32} {y u : Addr} {ds : List Int32} (S : StrL Z h x t cs) (S' : StrL Z h y u ds) (eq : cs = ds) (O : Sta Z h "java/lang/String" "COMPACT_STRINGS" "Z" (.int z)) (hz : ¬ z = 0) (hfr : 2 ≤ R.frames) (hlo : W + 28 ≤ R.locals) :
    Pay l R p e below s args Z EL n0 (⟨"java/lang/String", "equals", "(Ljava/lang/Object;)Z"⟩ : MethodName) len W #[.ref x, .ref y] h WL FL 0 0 (fun v h' WL' FL' => v = some (.int 1) ∧ WL' = [] ∧ FL' = [] ∧ h' = h) := by
  have q := pay_eq (l := l) (R := R) (p := p) (e := e) (below := below) (s := s) (args := args) (EL := EL) (n0 := n0) (WL := WL) (FL := FL) (len := len) (W := W) hw wi S S' O hz hfr hlo
  rw [if_pos eq] at q; exact q
theorem lat_len : (lat cs).length = cs.length := by simp [lat]
theorem lat_app (cs ds : List Int32) : lat (cs ++ ds) = lat cs ++ lat ds := by simp [lat]
theorem oN {n : Nat} (h : n < 2147483648) : (Int32.ofNat n).toInt = (n : Int) := Int32.toInt_ofNat_small h
theorem oC {n : Nat} (h : n < 2147483648) : (Int32.ofNat n).toNatClampNeg = n := by simp only [Int32.toNatClampNeg, oN h]; rfl
theorem oNn {n : Nat} (h : n < 2147483648) : ¬ Int32.ofNat n < 0 := by
  rw [Int32.lt_iff_toInt_lt, oN h]; have e2 : (0 : Int32).toInt = 0 := rfl; omega
theorem oLt {a b : Nat} (h1 : a < 2147483648) (h2 : b < 2147483648) : Int32.ofNat a < Int32.ofNat b ↔ a < b := by
  rw [Int32.lt_iff_toInt_lt, oN h1, oN h2]; omega
theorem oEq {a b : Nat} (h1 : a < 2147483648) (h2 : b < 2147483648) : Int32.ofNat a = Int32.ofNat b ↔ a = b := by
  rw [← Int32.toInt_inj, oN h1, oN h2]; omega
theorem oapp (cs ds : List Int32) : Int32.ofNat cs.length + Int32.ofNat ds.length = Int32.ofNat (cs ++ ds).length := by rw [List.length_append, Int32.ofNat_add]
theorem oNo {a b : Nat} (h : a ≤ b) (hb : b < 2147483648) : ¬ (0 : Int32) < Int32.ofNat a - Int32.ofNat b := by
  have q := c_isub (Int32.ofNat a) (Int32.ofNat b)
  have r := rng32 (Int32.ofNat a - Int32.ofNat b)
  rw [oN (show a < 2147483648 by omega), oN hb] at q
  rw [Int32.lt_iff_toInt_lt]; have e2 : (0 : Int32).toInt = 0 := rfl
  omega
theorem shl0 (x : Int32) : x <<< ((0 : Int32) &&& 31) = x := by
  have e : ((0 : Int32) &&& 31) = 0 := rfl
  rw [e]; simp
theorem shr0 (x : Int32) : x >>> ((0 : Int32) &&& 31) = x := by
  have e : ((0 : Int32) &&& 31) = 0 := rfl
  rw [e]; simp
/-- x is a StringBuilder that holds the chars cs, each at most 255; t its bytes, cap many -/
def SB (Z : State) (h : Heap) (x t : Addr) (cap : Nat) (cs : List Int32) : Prop :=
  Exa Z h x "java/lang/StringBuilder" ∧ Fld Z h x "java/lang/AbstractStringBuilder" "value" "[B" (.ref t) ∧ Fld Z h x "java/lang/AbstractStringBuilder" "coder" "B" (.int 0) ∧ Fld Z h x "java/lang/AbstractStringBuilder" "count" "I" (.int (Int32.ofNat cs.length)) ∧ (∃ kb, Arv Z h t kb .byte (Int32.ofNat cap) (lat cs) (.int 0)) ∧ (∀ c ∈ cs, ¬ c < 0 ∧ ¬ (255 : Int32) < c) ∧ cs.length ≤ cap ∧ cap ≤ 4000 ∧ Exa Z h t "[B"
theorem SB.ext {cap : Nat} (S : SB Z h x t cap cs) (E : Ext h h') : SB Z h' x t cap cs := by
  obtain ⟨s1, s2, s3, s4, ⟨kb, s5⟩, s6, s7, s8, s9⟩ := S; exact ⟨s1.ext E, s2.ext E, s3.ext E, s4.ext E, ⟨kb, s5.ext E⟩, s6, s7, s8, s9.ext E⟩
theorem SB.keep {cap : Nat} {ws : List Addr} (S : SB Z h x t cap cs) (K : Keep h h' ws) (h1 : x ∉ ws) (h2 : t ∉ ws) : SB Z h' x t cap cs := by
  obtain ⟨s1, s2, s3, s4, ⟨kb, s5⟩, s6, s7, s8, s9⟩ := S; exact ⟨s1.keep K, s2.keep K h1, s3.keep K h1, s4.keep K h1, ⟨kb, s5.keep K h2⟩, s6, s7, s8, s9.keep K⟩
theorem SB.wr {cap : Nat} {a : Addr} {sl : Nat} {v : Value} (S : SB Z h x t cap cs) (W : Wr h h' a sl v) (h1 : x ≠ a) (h2 : t ≠ a) : SB Z h' x t cap cs := by
  obtain ⟨s1, s2, s3, s4, ⟨kb, s5⟩, s6, s7, s8, s9⟩ := S; exact ⟨s1.wr W, s2.other W (Or.inl h1), s3.other W (Or.inl h1), s4.other W (Or.inl h1), ⟨kb, s5.other W h2⟩, s6, s7, s8, s9.wr W⟩
section Copy
variable {m : MethodId} {meth : Method} {c : Code} {T : State} {cells slots : Nat} {own : String} {WL0 FL0 : List Addr} {rm : Room} {Q : Option Value → Heap → List Addr → List Addr → Prop} {pc : Nat} {Ls : Array Slot} {rest : List Value}
/-- arraycopy of the bytes of ds behind those of cs -/
theorem WS.cpL (X : WS p l e R s m args below meth c Z EL n0 own T h WL FL cells slots) (hx : p.tables.exec = Jvm.exec) {index : Nat} (w1 : (Jvm.Cond.methodLink own index Jvm.Stand.acN).before a0 Z = true) (w2 : (Jvm.Cond.native Jvm.Stand.acN).before a0 Z = true) (w3 : (Jvm.Cond.static Jvm.Stand.acN).before a0 Z = true) (w4 : (Jvm.Cond.initialized "java/lang/System").before a0 Z = true)
    {a b : Addr} {ka kb : ClassId} {capA cap : Nat} {cs ds : List Int32} (A : Arv Z h a ka .byte (Int32.ofNat capA) (lat ds) (.int 0)) (B : Arv Z h b kb .byte (Int32.ofNat cap) (lat cs) (.int 0))
    (hA : ds.length ≤ capA) (hB : cs.length + ds.length ≤ cap) (hc1 : capA ≤ 4000) (hc2 : cap ≤ 4000) (hb : b ∈ WL)
    (hsize : Ls.size = c.maxLocals) (hd : decode c.code pc = .ok (.invokestatic index, 3)) (hf : 1 ≤ R.frames) {W : Nat} (hW : (rest.map fun v => v.category).sum ≤ W) (hlo : W + 18 ≤ R.locals)
    (k : ∀ T' h', WS p l e R s m args below meth c Z EL n0 own T' h' WL FL cells slots → Keep h h' [b] → Arv Z h' b kb .byte (Int32.ofNat cap) (lat (cs ++ ds)) (.int 0) → Wo p e s below Z EL n0 WL0 FL0 rm Q T' (mkF m (pc + 3) Ls rest)) :
    Wo p e s below Z EL n0 WL0 FL0 rm Q T (mkF m pc Ls (.int (Int32.ofNat ds.length) :: .int (Int32.ofNat cs.length) :: .ref b :: .int 0 :: .ref a :: rest)) := by
  have z0 : (0 : Int32).toNatClampNeg = 0 := rfl
  have e1 : (Int32.ofNat ds.length).toNatClampNeg = ds.length := oC (by omega)
  have e2 : (Int32.ofNat cs.length).toNatClampNeg = cs.length := oC (by omega)
  have e3 : (Int32.ofNat cap).toNatClampNeg = cap := oC (by omega)
  have e4 : (Int32.ofNat capA).toNatClampNeg = capA := oC (by omega)
  have B' := B.pad (pad_rep (lat cs) (.int 0) (cap - cs.length))
  refine X.cpA hx w1 w2 w3 w4 A B' (Or.inl ⟨rfl, rfl⟩) (us := lat ds) (vr := lat (cs ++ ds) ++ List.replicate (cap - cs.length - ds.length) (.int 0)) (by decide) (oNn (by omega)) (oNn (by omega)) (by rw [z0, e1, e4]; omega) (by rw [e1, e2, e3]; omega) ?_ (by rw [e1, e2]; simp [lat_len]; omega) ?_ hb hsize hd hf hW hlo (fun T' h' X' K V => k T' h' X' K (V.pad (fun i => (pad_rep _ _ _ i).symm)))
  · rw [e1, z0]
    apply List.ext_getElem
    · simp [lat_len]
    · intro i h1 h2
      simp only [List.getElem_map, List.getElem_range, Nat.zero_add]
      rw [List.getD_eq_getElem?_getD, List.getElem?_eq_getElem h1]; simp [lat]
  · rw [e1, e2]
    have l1 : (lat cs).length = cs.length := lat_len
    rw [List.take_left' l1, lat_app, List.append_assoc, List.append_assoc]
    congr 2
    rw [List.drop_append, l1, List.drop_eq_nil_of_le (by rw [l1]; omega), List.nil_append, List.drop_replicate]
    congr 1; omega
/-- a byte array, copied whole into a longer fresh one -/
theorem WS.cpG (X : WS p l e R s m args below meth c Z EL n0 own T h WL FL cells slots) (hx : p.tables.exec = Jvm.exec) {index : Nat} (w1 : (Jvm.Cond.methodLink own index Jvm.Stand.acN).before a0 Z = true) (w2 : (Jvm.Cond.native Jvm.Stand.acN).before a0 Z = true) (w3 : (Jvm.Cond.static Jvm.Stand.acN).before a0 Z = true) (w4 : (Jvm.Cond.initialized "java/lang/System").before a0 Z = true)
    {a b : Addr} {ka kb : ClassId} {cap cap2 : Nat} {cs : List Int32} (A : Arv Z h a ka .byte (Int32.ofNat cap) (lat cs) (.int 0)) (B : Arv Z h b kb .byte (Int32.ofNat cap2) [] (.int 0))
    (hA : cs.length ≤ cap) (hB : cap ≤ cap2) (hc2 : cap2 ≤ 4000) (hb : b ∈ WL)
    (hsize : Ls.size = c.maxLocals) (hd : decode c.code pc = .ok (.invokestatic index, 3)) (hf : 1 ≤ R.frames) {W : Nat} (hW : (rest.map fun v => v.category).sum ≤ W) (hlo : W + 18 ≤ R.locals)
    (k : ∀ T' h', WS p l e R s m args below meth c Z EL n0 own T' h' WL FL cells slots → Keep h h' [b] → Arv Z h' b kb .byte (Int32.ofNat cap2) (lat cs) (.int 0) → Wo p e s below Z EL n0 WL0 FL0 rm Q T' (mkF m (pc + 3) Ls rest)) :
    Wo p e s below Z EL n0 WL0 FL0 rm Q T (mkF m pc Ls (.int (Int32.ofNat cap) :: .int 0 :: .ref b :: .int 0 :: .ref a :: rest)) := by
  have hl : (cs ++ List.replicate (cap - cs.length) 0).length = cap := by simp; omega
  have e2 : lat (cs ++ List.replicate (cap - cs.length) 0) = lat cs ++ List.replicate (cap - cs.length) (.int 0) := by
    rw [lat_app]; congr 1; simp [lat]
  have A' : Arv Z h a ka .byte (Int32.ofNat cap) (lat (cs ++ List.replicate (cap - cs.length) 0)) (.int 0) := by rw [e2]; exact A.pad (pad_rep (lat cs) (.int 0) (cap - cs.length))
  have r := X.cpL (Q := Q) (rm := rm) (WL0 := WL0) (FL0 := FL0) (Ls := Ls) (rest := rest) (pc := pc) hx w1 w2 w3 w4 (cs := []) (cap := cap2) A' B (Nat.le_of_eq hl) (by rw [hl]; show 0 + cap ≤ cap2; omega) (show cap ≤ 4000 by omega) hc2 hb hsize hd hf hW hlo (fun T' h' X' K V => k T' h' X' K (by
    rw [List.nil_append, e2] at V; exact V.pad (fun i => (pad_rep _ _ _ i).symm)))
  rw [hl] at r
  exact r
/-- an array of bytes, cloned -/
theorem WS.clone (X : WS p l e R s m args below meth c Z EL n0 own T h WL FL cells slots) (hx : p.tables.exec = Jvm.exec) {index : Nat} {ad : String} (w1 : (Jvm.Cond.methodLink own index ⟨ad, "clone", "()Ljava/lang/Object;"⟩).before a0 Z = true) (w2 : (Jvm.Cond.sameMethod ad "java/lang/Object" "clone" "()Ljava/lang/Object;").before a0 Z = true) (w3 : (Jvm.Cond.native ⟨"java/lang/Object", "clone", "()Ljava/lang/Object;"⟩).before a0 Z = true) (w4 : (Jvm.Cond.instanceMethod ⟨"java/lang/Object", "clone", "()Ljava/lang/Object;"⟩).before a0 Z = true)
    (w5 : (Jvm.Cond.selects ad ⟨ad, "clone", "()Ljava/lang/Object;"⟩ ⟨"java/lang/Object", "clone", "()Ljava/lang/Object;"⟩).before a0 Z = true) (w6 : (Jvm.Cond.castable ad "java/lang/Cloneable").before a0 Z = true)
    {a : Addr} {ka : ClassId} {ty : FieldType} {z : Int32} {vs : List Value} {dv : Value} (A : Arv Z h a ka ty z vs dv) (E0 : Exa Z h a ad)
    (hsize : Ls.size = c.maxLocals) (hd : decode c.code pc = .ok (.invokevirtual index, 3)) (hf : 1 ≤ R.frames) {W cap : Nat} (hW : (rest.map fun v => v.category).sum ≤ W) (hlo : W + 14 ≤ R.locals) (hcap : z.toNatClampNeg ≤ cap) (hc : cells + 1 ≤ R.cells) (hl : slots + cap ≤ R.slots)
    (k : ∀ T' h' b, WS p l e R s m args below meth c Z EL n0 own T' h' (b :: WL) FL (cells + 1) (slots + cap) → Ext h h' → h.size ≤ b → Exa Z h' b ad → Arv Z h' b ka ty z vs dv → Wo p e s below Z EL n0 WL0 FL0 rm Q T' (mkF m (pc + 3) Ls (.ref b :: rest))) :
    Wo p e s below Z EL n0 WL0 FL0 rm Q T (mkF m pc Ls (.ref a :: rest)) := by
  obtain ⟨vm0, k0, locs, X, eT, hS, hk, hZ, hown, N, I⟩ := X
  obtain ⟨T', h', X', eT', E, V, Ex, st⟩ := RoadKit.cloneH X hx hZ hown w1 w2 w3 w4 w5 w6 eT A.arh E0 (g := mkF m pc Ls (.ref a :: rest)) rfl hsize rfl hd hf (W := W) (cap := cap) (by show 2 * 0 + _ ≤ _; omega) hlo hcap hc hl
  exact Wo.by st (k T' h' h.size ⟨vm0, k0, _, X', eT', hS, Nat.le_trans hk E.1, hZ, hown, N, I.new E V.lt⟩ E (Nat.le_refl _) Ex V)
theorem WS.newPE (X : WS p l e R s m args below meth c Z EL n0 own T h WL FL cells slots) (hx : p.tables.exec = Jvm.exec) {aty : ArrayType} (w : (Jvm.Cond.arrayClass (newarray.typeOf aty)).before a0 Z = true) {n : Int32} (hd : decode c.code pc = .ok (.newarray aty, 2))
    (hn : ¬ n < 0) {cap : Nat} (hcap : n.toNatClampNeg ≤ cap) (hb : cap * 8 ≤ 536870912) (hc : cells + 1 ≤ R.cells) (hl : slots + cap ≤ R.slots) {ad : String} (had : "[" ++ (newarray.typeOf aty).toString = ad)
    (k : ∀ T' h' a ka, WS p l e R s m args below meth c Z EL n0 own T' h' (a :: WL) FL (cells + 1) (slots + cap) → Ext h h' → h.size ≤ a → Arv Z h' a ka (newarray.typeOf aty) n [] (defaultValue (newarray.typeOf aty)) → Exa Z h' a ad → Wo p e s below Z EL n0 WL0 FL0 rm Q T' (mkF m (pc + 2) Ls (.ref a :: rest))) :
    Wo p e s below Z EL n0 WL0 FL0 rm Q T (mkF m pc Ls (.int n :: rest)) := by
  obtain ⟨vm0, k0, locs, X, eT, hS, hk, hZ, hown, N, I⟩ := X
  obtain ⟨T', h', cA, X', eT', E, A, Ex, st⟩ := RoadKit.newPE X hx hZ w eT (g := mkF m pc Ls (.int n :: rest)) rfl hd rfl hn hcap hb hc hl had
  exact Wo.by st (k T' h' h.size cA ⟨vm0, k0, _, X', eT', hS, Nat.le_trans hk E.1, hZ, hown, N, I.new E A.lt⟩ E (Nat.le_refl _) (Arv.new A hn) Ex)
end Copy
theorem oAd (a b : Nat) : Int32.ofNat a + Int32.ofNat b = Int32.ofNat (a + b) := (Int32.ofNat_add a b).symm
theorem oSb {a b : Nat} (h : b ≤ a) : Int32.ofNat a - Int32.ofNat b = Int32.ofNat (a - b) := by
  obtain ⟨k, rfl⟩ : ∃ k, a = k + b := ⟨a - b, by omega⟩
  rw [Int32.ofNat_add, Int32.add_sub_cancel, Nat.add_sub_cancel]
theorem oA2 (a : Nat) : Int32.ofNat a + 2 = Int32.ofNat (a + 2) := oAd a 2
theorem oA16 (a : Nat) : Int32.ofNat a + 16 = Int32.ofNat (a + 16) := oAd a 16
theorem oPos {n : Nat} (h : 0 < n) (h2 : n < 2147483648) : (0 : Int32) < Int32.ofNat n := by
  rw [Int32.lt_iff_toInt_lt, oN h2]; have e2 : (0 : Int32).toInt = 0 := rfl; omega
theorem oBig {n : Nat} (h : n ≤ 4000) : ¬ (2147483639 : Int32) < Int32.ofNat n := by
  rw [Int32.lt_iff_toInt_lt, oN (by omega)]; have e2 : (2147483639 : Int32).toInt = 2147483639 := rfl; omega
theorem oMax {n : Nat} (h : n ≤ 4000) : ¬ Int32.ofNat n = (2147483647 : Int32) := by
  rw [← Int32.toInt_inj, oN (by omega)]; have e2 : (2147483647 : Int32).toInt = 2147483647 := rfl; omega
theorem oLt31 {n : Nat} (h : n ≤ 4000) : Int32.ofNat n < (2147483631 : Int32) := by
  rw [Int32.lt_iff_toInt_lt, oN (by omega)]; have e2 : (2147483631 : Int32).toInt = 2147483631 := rfl; omega
theorem oYes {a b : Nat} (h : b < a) (ha : a < 2147483648) : (0 : Int32) < Int32.ofNat a - Int32.ofNat b := by
  rw [oSb (Nat.le_of_lt h)]; exact oPos (by omega) (by omega)
section Warm
variable {m : MethodId} {meth : Method} {c : Code} {T : State} {cells slots : Nat} {own : String} {WL0 FL0 : List Addr} {rm : Room} {Q : Option Value → Heap → List Addr → List Addr → Prop} {pc : Nat} {Ls : Array Slot} {rest : List Value} {st argsL : List Value} {as' : Array Value} {index k n : Nat} {y : MethodName} {bytes : ByteArray} {maxL : Nat} {Qc : Option Value → Heap → List Addr → List Addr → Prop}
/-- a constructor's call at an entry that was resolved at the start -/
theorem WS.callR (X : WS p l e R s m args below meth c Z EL n0 own T h WL FL cells slots) (hx : p.tables.exec = Jvm.exec) (hi : y.name = "<init>") (w1 : (Jvm.Cond.methodRef own index y).before a0 Z = true) (w2 : (Jvm.Cond.instanceMethod y).before a0 Z = true) (w4 : (Jvm.Cond.code y bytes maxL none).before a0 Z = true) (hy : y.cls ≠ "java/lang/invoke/MethodHandle" ∧ y.cls ≠ "java/lang/invoke/VarHandle")
    {a : Addr} (hP : Pay l R p e below s args Z EL n0 y 3 W as' h WL FL k n Qc) (hsize : Ls.size = c.maxLocals) (hlen : ∀ sig, parseMethodDescriptor y.desc = some sig → argsL.length = sig.parameters.length) (hst : st = argsL.reverse ++ .ref a :: rest) (has : (Value.ref a :: argsL).toArray = as') (hW : (rest.map fun v => v.category).sum ≤ W)
    (hd : decode c.code pc = .ok (.invokespecial index, 3)) (hc : cells + k ≤ R.cells) (hl : slots + n ≤ R.slots)
    (kk : ∀ T' h' v WL' FL', WS p l e R s m args below meth c Z EL n0 own T' h' (WL' ++ WL) (FL' ++ FL) (cells + k) (slots + n) → Qc v h' WL' FL' → Wo p e s below Z EL n0 WL0 FL0 rm Q T' (mkF m (pc + 3) Ls (v.toList ++ rest))) :
    Wo p e s below Z EL n0 WL0 FL0 rm Q T (mkF m pc Ls st) := by
  obtain ⟨vm0, k0, locs, X, eT, hS, hk, hZ, hown, N, I⟩ := X
  have hZT : Z.Warmed39 T.vm := wtrans (s := s.setVm vm0) hZ X.warmed
  have i2 : (Jvm.Cond.instanceMethod y).before #[] T = true := mv hZT w2
  have i4 : (Jvm.Cond.code y bytes maxL none).before #[] T = true := mv hZT w4
  obtain ⟨tm, mt, n1, n2, n3, n4⟩ := Cond.instanceMethod_spec i2
  obtain ⟨mt', cd, c1, -, -, -, -, -, -, c8⟩ := Cond.code_spec n1 i4
  cases n2.symm.trans c1
  obtain ⟨tz, mz, z1, -⟩ := Cond.instanceMethod_spec w2
  have r1 : (Jvm.Cond.methodRef own index y).before a0 (Z.setVm T.vm) = true := Cond.methodRef_warmed39 hZT z1 hy w1
  have hownT : (Z.setVm T.vm).vm.findClass own = some m.cls := by
    have q := X.warmed.alike.findClass own
    show T.vm.findClass own = _
    rw [q]; exact hown
  obtain ⟨m2, c', f1, f2, f3, f4⟩ := Cond.methodRef_named e hownT r1
  have q2 := State.methodFound?_of_named (s := Z.setVm T.vm) (show (Z.setVm T.vm).methodNamed? y = some tm from n1) hy
  cases f1.symm.trans q2
  have q3 : T.vm.findClass y.cls = some tm.cls := findClass_of_methodNamed n1
  cases f3.symm.trans q3
  obtain ⟨kc, -, hkc⟩ : ∃ kc : Class, kc.name = y.cls ∧ T.vm.classes[tm.cls]? = some kc := by
    obtain ⟨kc, h1, h2⟩ := className_of_methodNamed n1
    exact ⟨kc, h2, h1⟩
  obtain ⟨nm1, nm2⟩ := name_of_methodNamed n1 n2
  have nm : mt.name = "<init>" := nm1.trans hi
  have ds : lookupSpecial T.vm tm.cls "<init>" mt.desc = Selection.method tm := by
    have q := lookupSpecial_of_named n1 n2 n3
    rw [hi, ← nm2] at q
    exact q
  obtain ⟨v, B, X', hS', hgr, ⟨L, WL', FL', q, N', q2, q3, q4, I'⟩, stp⟩ := hP vm0 hZ I m meth c (T, locs, cells, slots) (mkF m pc Ls rest) _ tm _ X rfl hsize hd (by show 2 * 0 + (rest.map fun v => v.category).sum ≤ _; omega) n1 ⟨has, eT, hc, hl⟩
  refine Wo.by (fun t r => ?_) (kk B.U _ v WL' FL' (WS.back hS (by rw [eT]; exact hk) hZ hown N X' hS' hgr N' q2 q3 q4 I') q)
  refine Steps.instr X.here ?_
  rw [show decode c.code (mkF m pc Ls st).pc = _ from hd]
  show (p.tables.exec _).wpRun _ _ _ _
  rw [hx]
  refine (Op.invokespecial.wp_init (f := mkF m pc Ls st) X.here.top (show namesResolved T.vm m.cls index tm.cls from f4) (show T.vm.methodReady m.cls index tm from f2) hkc n2 nm n3 n4 ds (hlen _ c8) hst).mpr ?_
  intro acts
  show Steps _ _ _ (doInvoke _ _ acts _ _).fst _
  rw [doInvoke_state]
  exact stp.trans r
theorem faceZ {y' z' : MethodName} {C : String} (ws : (Jvm.Cond.selects C y' z').before a0 Z = true) (e : z'.cls = y.cls) : NotFace Z y := fun r0 h0 => by
  obtain ⟨c2, r2, m2, q1, q2, q3, q4, kP, hkP, hkPi⟩ := Cond.selects_spec ws
  have e1 := findClass_of_methodNamed q3
  have e2 := findClass_of_methodNamed h0
  rw [e] at e1
  have e3 := Option.some.inj (e1.symm.trans e2)
  exact ⟨kP, by rw [← e3]; exact hkP, hkPi⟩
theorem nfZ {vm0 : Vm} {y' z' : MethodName} {C : String} (hZ : Z.Warmed39 vm0) (w : (Jvm.Cond.selects C y' z').before a0 Z = true) (e : z'.cls = y.cls) : NotFace (s.setVm vm0) y := faceZ (a0 := #[]) (mv (s := s.setVm vm0) hZ w) e
end Warm
section Dig
variable {m : MethodId} {meth : Method} {c : Code} {T : State} {cells slots : Nat} {own : String} {WL0 FL0 : List Addr} {rm : Room} {Q : Option Value → Heap → List Addr → List Addr → Prop} {pc : Nat} {Ls : Array Slot} {rest : List Value}
/-- a byte laid behind the others -/
theorem WS.stL (X : WS p l e R s m args below meth c Z EL n0 own T h WL FL cells slots) (hx : p.tables.exec = Jvm.exec) {a : Addr} {ka : ClassId} {cap : Nat} {cs : List Int32} (A : Arv Z h a ka .byte (Int32.ofNat cap) (lat cs) (.int 0)) {j x d : Int32} (hj : j = Int32.ofNat cs.length) (hn : nar .byte x = d.toInt8.toInt32) (hl : cs.length + 1 ≤ cap) (hc : cap ≤ 4000) (ha : a ∈ WL)
    (hd : decode c.code pc = .ok (.bastore, 1)) (k : ∀ T' h', WS p l e R s m args below meth c Z EL n0 own T' h' WL FL cells slots → Keep h h' [a] → Arv Z h' a ka .byte (Int32.ofNat cap) (lat (cs ++ [d])) (.int 0) → Wo p e s below Z EL n0 WL0 FL0 rm Q T' (mkF m (pc + 1) Ls rest)) :
    Wo p e s below Z EL n0 WL0 FL0 rm Q T (mkF m pc Ls (.int x :: .int j :: .ref a :: rest)) := by
  subst hj
  have A' := A.pad (pad_rep (lat cs) (.int 0) 1)
  have e1 : (Int32.ofNat cs.length).toNatClampNeg = cs.length := oC (by omega)
  refine X.stB hx A' (i := cs.length) ⟨oNn (by omega), (oLt (by omega) (by omega)).mpr (by omega)⟩ e1 (by simp [lat]) ha hd (fun T' h' X' W V => k T' h' X' ((Keep.refl h [a]).wr W (Or.inl (List.mem_of_getElem? (i := 0) rfl))) ?_)
  have e2 : (lat cs ++ List.replicate 1 (Value.int 0)).set cs.length (.int (nar .byte x)) = lat (cs ++ [d]) := by
    rw [lat_app, hn, List.set_append_right _ _ (by rw [lat_len]; exact Nat.le_refl _), lat_len, Nat.sub_self]; rfl
  rw [e2] at V; exact V
end Dig
/-- a table of bytes that the start's words tell -/
theorem digStart {Z : State} {a0 : Array Value} {f : Nat → Int32} {t X : Term} {a : Addr} (hF : Fit Z) (et : Term.eval a0 Z none [] Z t = some (.ref a)) (et' : ∀ i, Term.eval a0 Z none [i] Z t = some (.ref a)) (hlen : Cond.value a0 Z none Z [] (.eq (.length t) (.int (100 : Int32))) = some true)
    (hall : Cond.value a0 Z none Z [] (.all t (.eq (.elem t (.index 0)) X)) = some true) (hX : ∀ i, i < 100 → Term.eval a0 Z none [i] Z X = some (.int (f i))) (hex : Exa Z Z.heap a "[B") (hac : (Jvm.Cond.arrayClass .byte).before a0 Z = true) :
    ∃ k, Arv Z Z.heap a k .byte 100 ((List.range 100).map (fun i => Value.int (f i))) (.int 0) := by
  obtain ⟨cell, kc, x1, x2, x3, x4, -⟩ := hex
  obtain ⟨cc, kk, comp, y1, y2, y3⟩ := Cond.arrayClass_spec hac
  have y1' : Z.vm.findClass "[B" = some cc := y1
  cases x2.symm.trans y1'
  cases x3.symm.trans y2
  have hu : cell.vm ≠ VmData.unknown ∧ Z.arrayAt? a = some cell := by
    rw [Cond.value.eq_def] at hall
    simp only [et] at hall
    cases hA : Z.arrayAt? a with
    | none => rw [hA] at hall; cases hall
    | some cl =>
      have hA2 := hA
      simp only [State.arrayAt?, x1, x3, Option.bind_eq_bind, Option.bind_some, y3] at hA2
      split at hA2
      · cases hA2
      · rename_i hne
        cases hA2
        exact ⟨fun q => hne (Or.inl q), rfl⟩
  have arr : Arr Z Z.heap a cell .byte := ⟨x1, ⟨fun k q => (by rw [q] at x4; cases x4), kc, x3, comp, y3⟩, hu.1⟩
  have hl := eqv_i (Term.int_eval (100)) hlen
  have sz : cell.slots.size = 100 := by
    rw [Term.eval.eq_def] at hl
    simp only [et, Option.bind_eq_bind, Option.bind_some, hu.2] at hl
    split at hl
    · rename_i h2
      have q1 : cell.slots.size.toInt32 = 100 := by
        have q := Option.some.inj hl
        exact Value.int.inj q
      have q2 := len_toInt h2
      rw [q1] at q2
      have e1 : (100 : Int32).toInt = 100 := rfl
      omega
    · cases hl
  have at_ : ∀ i, i < 100 → ¬ (i.toInt32 < 0 ∨ cell.slots.size ≤ i.toInt32.toNatClampNeg) ∧ i.toInt32.toNatClampNeg = i ∧ cell.slots[i]? = some (.int (f i)) := fun i hi => by
    have q := eqv_i (hX i hi) (Cond.all_elim et hu.2 hall i (by omega))
    obtain ⟨q1, q2⟩ := elem_in q (et' i) (show Term.eval a0 Z none [i] Z (.index 0) = some (.int i.toInt32) from rfl) x1
    have e1 : i.toInt32.toNatClampNeg = i := oC (n := i) (by omega)
    rw [e1] at q2
    exact ⟨q1, e1, q2⟩
  have gd : ∀ i, i < 100 → ((List.range 100).map (fun i => Value.int (f i))).getD i (.int 0) = .int (f i) := fun i hi => by
    rw [List.getD_eq_getElem?_getD, List.getElem?_map, List.getElem?_range hi]; rfl
  refine ⟨cell.cls, cell, arr, rfl, sz, by decide, fun i hi => ?_, fun i hi => ?_⟩
  · rw [gd i (by omega)]; exact (at_ i (by omega)).2.2
  · rw [gd i (by omega)]
    obtain ⟨q1, q2, q3⟩ := at_ i (by omega)
    exact elem_fits hF arr q1 (by rw [q2]; exact q3)
/-- a call that asks less pays as one that asks more -/
theorem Pay.room {y : MethodName} {as' : Array Value} {len W k n n' : Nat} {Q : Option Value → Heap → List Addr → List Addr → Prop} (P : Pay l R p e below s args Z EL n0 y len W as' h WL FL k n Q) (hn : n ≤ n') : Pay l R p e below s args Z EL n0 y len W as' h WL FL k n' Q := fun vm0 hZ I => by
  intro m meth c A g ig mk a X hg hsize hdg hW hnm hp
  obtain ⟨v, B, X', hS', hgr, ⟨L, WL', FL', q, N, q2, q3, q4, I'⟩, st⟩ := P vm0 hZ I m meth c A g ig mk a X hg hsize hdg hW hnm ⟨hp.1, hp.2.1, hp.2.2.1, by have := hp.2.2.2; omega⟩
  exact ⟨v, (B.U, B.locs, B.cells, A.slots + n'), X'.mono (Nat.le_refl _) (by show B.slots ≤ A.slots + n'; rw [q4]; omega), hS', hgr, ⟨L, WL', FL', q, N, q2, q3, rfl, I'⟩, st⟩
section DigC
variable {m : MethodId} {meth : Method} {c : Code} {T : State} {cells slots : Nat} {own : String} {WL0 FL0 : List Addr} {rm : Room} {Q : Option Value → Heap → List Addr → List Addr → Prop} {pc : Nat} {Ls : Array Slot} {rest : List Value}
/-- a char laid behind the others -/
theorem WS.stCL (X : WS p l e R s m args below meth c Z EL n0 own T h WL FL cells slots) (hx : p.tables.exec = Jvm.exec) {a : Addr} {ka : ClassId} {N : Int32} {cs : List Int32} (A : Arv Z h a ka .char N (cs.map Value.int) (.int 0)) {j x : Int32} {cap : Nat} (hN : N = Int32.ofNat cap) (hj : j = Int32.ofNat cs.length) (hn : nar .char x = x) (hl : cs.length + 1 ≤ cap) (hc : cap ≤ 4000) (ha : a ∈ WL)
    (hd : decode c.code pc = .ok (.castore, 1)) (k : ∀ T' h', WS p l e R s m args below meth c Z EL n0 own T' h' WL FL cells slots → Keep h h' [a] → Arv Z h' a ka .char N ((cs ++ [x]).map Value.int) (.int 0) → Wo p e s below Z EL n0 WL0 FL0 rm Q T' (mkF m (pc + 1) Ls rest)) :
    Wo p e s below Z EL n0 WL0 FL0 rm Q T (mkF m pc Ls (.int x :: .int j :: .ref a :: rest)) := by
  subst hj; subst hN
  have A' := A.pad (pad_rep (cs.map Value.int) (.int 0) 1)
  have e1 : (Int32.ofNat cs.length).toNatClampNeg = cs.length := oC (by omega)
  refine X.stC hx A' (i := cs.length) ⟨oNn (by omega), (oLt (by omega) (by omega)).mpr (by omega)⟩ e1 (by simp) ha hd (fun T' h' X' W V => k T' h' X' ((Keep.refl h [a]).wr W (Or.inl (List.mem_of_getElem? (i := 0) rfl))) ?_)
  have e2 : (cs.map Value.int ++ List.replicate 1 (Value.int 0)).set cs.length (.int (nar .char x)) = (cs ++ [x]).map Value.int := by
    rw [List.map_append, hn, List.set_append_right _ _ (by simp), List.length_map, Nat.sub_self]; rfl
  rw [e2] at V; exact V
theorem WS.join (X : WS p l e R s m args below meth c Z EL n0 own T h WL FL cells slots) {Φ : State → Heap → Prop} {f f2 : JFrame}
    (B : (∀ T' h', WS p l e R s m args below meth c Z EL n0 own T' h' WL FL cells slots → Φ T' h' → Wo p e s below Z EL n0 WL0 FL0 rm Q T' f2) → Wo p e s below Z EL n0 WL0 FL0 rm Q T f)
    (J : ∀ T' h', WS p l e R s m args below meth c Z EL n0 own T' h' WL FL cells slots → Φ T' h' → Wo p e s below Z EL n0 WL0 FL0 rm Q T' f2) : Wo p e s below Z EL n0 WL0 FL0 rm Q T f := B J
end DigC
end Strs
end Wd
end Jvm.Pilot.@@N@@
namespace Jvm.Pilot.@@N@@
open Jvm Jvm.ClassFile Sem Op Lib Jvm.Free Jvm.Stand Jvm.LawKit Jvm.RoadKit Bundle Jvm.Pilot.@@N@@.Jvm.D Wd
theorem nlt {a b : Nat} (h : Nat.ble (a + 1) b = true) : a < b := Nat.le_of_ble_eq_true h
theorem nle {a b : Nat} (h : Nat.ble a b = true) : a ≤ b := Nat.le_of_ble_eq_true h
theorem fc0 {P : Int32 → Prop} : ∀ c ∈ ([] : List Int32), P c := fun _ q => nomatch q
theorem fcS {P : Int32 → Prop} {y : Int32} {L : List Int32} (q : P y) (r : ∀ c ∈ L, P c) : ∀ c ∈ y :: L, P c := fun c z => (List.mem_cons.mp z).elim (fun u => u ▸ q) (r c)
theorem msk {x m : Int32} {k : Nat} (hk : k ≤ 31) (hm : m.toBitVec.toNat = 2 ^ k - 1) : (x &&& m).toInt = x.toInt % (2 ^ k : Nat) := c_mask x m k hk hm
theorem rng255 (x : Int32) : ¬ (x &&& 255) < 0 ∧ ¬ (255 : Int32) < (x &&& 255) := by
  have h := c_mask x 255 8 (by decide) (by decide)
  rw [Int32.lt_iff_toInt_lt, Int32.lt_iff_toInt_lt, h]
  have e1 : (255 : Int32).toInt = 255 := rfl
  have e2 : (0 : Int32).toInt = 0 := rfl
  have e3 : ((2 ^ 8 : Nat) : Int) = 256 := rfl
  rw [e1, e2, e3]
  omega
theorem nar255 (x : Int32) : nar .char (x &&& 255) = x &&& 255 := i2c_mask x
theorem and3 (x : Int32) : x &&& 3 = 0 ∨ x &&& 3 = 1 ∨ x &&& 3 = 2 ∨ x &&& 3 = 3 := by
  have h := c_mask x 3 2 (by decide) (by decide)
  have e3 : ((2 ^ 2 : Nat) : Int) = 4 := rfl
  rw [e3] at h
  have : (x &&& 3).toInt = 0 ∨ (x &&& 3).toInt = 1 ∨ (x &&& 3).toInt = 2 ∨ (x &&& 3).toInt = 3 := by omega
  rcases this with q | q | q | q
  · exact Or.inl (Int32.toInt_inj.mp q)
  · exact Or.inr (Or.inl (Int32.toInt_inj.mp q))
  · exact Or.inr (Or.inr (Or.inl (Int32.toInt_inj.mp q)))
  · exact Or.inr (Or.inr (Or.inr (Int32.toInt_inj.mp q)))
theorem ofn {c : Int32} (h : ¬ c < 0 ∧ ¬ (255 : Int32) < c) : ∃ k : Fin 256, c = Int32.ofNat k.val := by
  have h1 := h.1; have h2 := h.2
  rw [Int32.lt_iff_toInt_lt] at h1 h2
  have e1 : (255 : Int32).toInt = 255 := rfl
  have e2 : (0 : Int32).toInt = 0 := rfl
  rw [e2] at h1; rw [e1] at h2
  refine ⟨⟨c.toInt.toNat, by omega⟩, Int32.toInt_inj.mp ?_⟩
  rw [Int32.toInt_ofNat_small (show c.toInt.toNat < 2 ^ 31 by omega)]
  show c.toInt = ((c.toInt.toNat : Nat) : Int)
  omega
theorem narR {c : Int32} (h : ¬ c < 0 ∧ ¬ (255 : Int32) < c) : nar .char c = c := by
  obtain ⟨k, rfl⟩ := ofn h
  exact (by decide +kernel : ∀ k : Fin 256, nar .char (Int32.ofNat k.val) = Int32.ofNat k.val) k
theorem b8 {c : Int32} (h : ¬ c < 0 ∧ ¬ (255 : Int32) < c) (d : Int32) (hd : ∀ k : Fin 256, (Int32.ofNat k.val).toInt8.toInt32 = d ↔ Int32.ofNat k.val = d) : c.toInt8.toInt32 = d ↔ c = d := by
  obtain ⟨k, rfl⟩ := ofn h
  exact hd k
def EL1 : List (String × Nat) := consts_1
def digOF (i : Nat) : Int32 := 48 + i.toInt32 % 10
def digO : List Value := (List.range 100).map fun i => Value.int (digOF i)
def digTF (i : Nat) : Int32 := 48 + i.toInt32 / 10
def digT : List Value := (List.range 100).map fun i => Value.int (digTF i)
theorem narB {c : Int32} : nar .byte (c.toInt8.toInt32) = c.toInt8.toInt32 := by simp [nar]
theorem oM1 (n : Nat) : Int32.ofNat (n + 1) + (-1) = Int32.ofNat n := by
  rw [Int32.ofNat_add]; show Int32.ofNat n + 1 + (-1) = _
  rw [Int32.add_assoc, show (1 : Int32) + (-1) = 0 from by decide, Int32.add_zero]
theorem oA1 (n : Nat) : Int32.ofNat n + 1 = Int32.ofNat (n + 1) := oAd n 1
theorem r3 (x : Int32) : (x &&& 3) % 3 = 0 ∨ (x &&& 3) % 3 = 1 ∨ (x &&& 3) % 3 = 2 := by rcases and3 x with q | q | q | q <;> rw [q] <;> decide
theorem strL {k ca cb : Int32} {L : List Int32} (h : (k = 0 ∧ L = []) ∨ (k = 1 ∧ L = [ca]) ∨ (k = 2 ∧ L = [ca, cb])) : k = Int32.ofNat L.length ∧ L.length ≤ 2 := by
  rcases h with ⟨rfl, rfl⟩ | ⟨rfl, rfl⟩ | ⟨rfl, rfl⟩ <;> exact ⟨rfl, by simp⟩
theorem nT0 {a b : Int32} {n m : Nat} (ha : a = Int32.ofNat n) (hb : b = Int32.ofNat m) : (33 : Int32) + a + b + 0 = Int32.ofNat (33 + n + m + 0) := by rw [ha, hb, Int32.ofNat_add, Int32.ofNat_add, Int32.ofNat_add]; rfl
theorem nT16 {a b : Int32} {n m : Nat} (ha : a = Int32.ofNat n) (hb : b = Int32.ofNat m) : (33 : Int32) + a + b + 16 = Int32.ofNat (33 + n + m + 16) := by rw [ha, hb, Int32.ofNat_add, Int32.ofNat_add, Int32.ofNat_add]; rfl
theorem nP {a : Int32} {n : Nat} (ha : a = Int32.ofNat n) : (22 : Int32) + a = Int32.ofNat (22 + n) := by rw [ha, Int32.ofNat_add]; rfl
theorem nQ {a : Int32} {q n : Nat} (ha : a = Int32.ofNat n) : Int32.ofNat q + a = Int32.ofNat (q + n) := by rw [ha, Int32.ofNat_add]
theorem ktr {h h1 h2 : Heap} {a : Addr} (K : Keep h h1 [a]) (L : Keep h1 h2 [a]) : Keep h h2 [a] := K.trans L (allS (Or.inl (List.mem_of_getElem? (i := 0) rfl)) all0)
theorem appR {P : Int32 → Prop} {A B : List Int32} (a : ∀ c ∈ A, P c) (b : ∀ c ∈ B, P c) : ∀ c ∈ A ++ B, P c := fun c hc => (List.mem_append.mp hc).elim (a c) (b c)
section Cts
abbrev D (b : ByteArray) (p : Nat) (i : Instr) (n : Nat) : Prop := decode b p = .ok (i, n)
abbrev J1 := method_2_code
abbrev J10 := jdk_22_method_1_code
abbrev J11 := jdk_67_method_1_code
abbrev J12 := jdk_68_method_2_code
abbrev J13 := prog_7_method_2_code
abbrev J14 := jdk_67_method_7_code
abbrev J15 := jdk_68_method_22_code
abbrev J17 := jdk_42_method_152_code
abbrev J18 := jdk_68_method_9_code
abbrev J19 := jdk_68_method_73_code
abbrev J2 := jdk_42_method_3_code
abbrev J20 := jdk_68_method_71_code
abbrev J21 := jdk_42_method_147_code
abbrev J22 := jdk_67_method_15_code
abbrev J23 := jdk_68_method_32_code
abbrev J24 := jdk_33_method_13_code
abbrev J25 := jdk_68_method_68_code
abbrev J26 := jdk_33_method_12_code
abbrev J27 := jdk_67_method_42_code
abbrev J28 := jdk_42_method_53_code
abbrev J29 := jdk_42_method_150_code
abbrev J3 := jdk_42_method_149_code
abbrev J30 := jdk_68_method_64_code
abbrev J31 := jdk_67_method_93_code
abbrev J32 := jdk_68_method_6_code
abbrev J33 := jdk_65_method_132_code
abbrev J34 := jdk_65_method_133_code
abbrev J35 := jdk_65_method_131_code
abbrev J36 := jdk_29_method_69_code
abbrev J37 := jdk_67_method_14_code
abbrev J38 := jdk_68_method_31_code
abbrev J39 := jdk_43_method_3_code
abbrev J40 := jdk_42_method_139_code
abbrev J41 := jdk_43_method_46_code
abbrev J42 := jdk_42_method_151_code
abbrev J43 := prog_6_method_11_code
abbrev J44 := jdk_68_method_10_code
abbrev J45 := jdk_48_method_27_code
abbrev J46 := jdk_29_method_65_code
abbrev J47 := jdk_65_method_121_code
abbrev J48 := prog_6_method_22_code
abbrev J49 := jdk_67_method_6_code
abbrev J5 := prog_6_method_1_code
abbrev J50 := jdk_42_method_133_code
abbrev J56 := prog_6_method_3_code
abbrev J6 := prog_7_method_1_code
abbrev J7 := prog_6_method_2_code
abbrev J8 := jdk_38_method_2_code
abbrev J9 := jdk_39_method_1_code
theorem mg {α : Type _} {L : List α} {a : α} (i : Nat) (h : L[i]? = some a) : a ∈ L := List.mem_of_getElem? h
theorem mc {α : Type _} {L : List α} {a b : α} (h : a ∈ L) : a ∈ b :: L := List.mem_cons_of_mem _ h
set_option maxRecDepth 65536
set_option maxHeartbeats 4000000
def Cx (a0 : Array Value) (Z : State) (gC : Int32) (gF : Value) (v_AL : Addr) (v_DO : Addr) (k_DO : ClassId) : Prop := (∀ d ∈ tables_1, d.before a0 Z = true) ∧ (Sta Z Z.heap "java/lang/String" "COMPACT_STRINGS" "Z" (.int gC)) ∧ (¬ gC = (0 : Int32)) ∧ (Sta Z Z.heap "jdk/internal/util/Preconditions" "SIOOBE_FORMATTER" "Ljava/util/function/BiFunction;" gF) ∧ (gF.isRef = true) ∧ (Sta Z Z.heap "java/util/ArrayList" "DEFAULTCAPACITY_EMPTY_ELEMENTDATA" "[Ljava/lang/Object;" (.ref v_AL)) ∧ (Exa Z Z.heap v_AL "[Ljava/lang/Object;") ∧ (Sta Z Z.heap "java/lang/Integer" "DigitOnes" "[B" (.ref v_DO)) ∧ (Exa Z Z.heap v_DO "[B") ∧ (Arv Z Z.heap v_DO k_DO .byte (100 : Int32) digO (.int 0))
def txt (i : Nat) : String := match tables_1[i]? with | some (Cond.stringLink _ _ t) => t | _ => ""
variable {l : Launch} {Z : State} {a0 : Array Value} {gC : Int32} {gF : Value} {v_AL : Addr} {v_DO : Addr} {k_DO : ClassId} {n0 : Nat}
theorem w0 (cx : Cx a0 Z gC gF v_AL v_DO k_DO) : (Cond.methodLink "com/example/estate4/estate4/jdbc/SelectTextExistsPinLaw" (12 : Nat) ⟨"com/example/estate4/estate4/jdbc/SelectTextExistsPinLaw", "str", "(ICC)Ljava/lang/String;"⟩).before a0 Z = true := cx.1 _ (mg 0 rfl)
theorem w1 (cx : Cx a0 Z gC gF v_AL v_DO k_DO) : (Cond.static ⟨"com/example/estate4/estate4/jdbc/SelectTextExistsPinLaw", "str", "(ICC)Ljava/lang/String;"⟩).before a0 Z = true := cx.1 _ (mg 1 rfl)
theorem w2 (cx : Cx a0 Z gC gF v_AL v_DO k_DO) : (Cond.initialized "com/example/estate4/estate4/jdbc/SelectTextExistsPinLaw").before a0 Z = true := cx.1 _ (mg 2 rfl)
theorem w3 (cx : Cx a0 Z gC gF v_AL v_DO k_DO) : (Cond.code ⟨"com/example/estate4/estate4/jdbc/SelectTextExistsPinLaw", "str", "(ICC)Ljava/lang/String;"⟩ method_2_code (3 : Nat) (Option.some (FieldType.object "java/lang/String"))).before a0 Z = true := cx.1 _ (mg 3 rfl)
theorem w4 (cx : Cx a0 Z gC gF v_AL v_DO k_DO) : (Cond.classLink "com/example/estate4/estate4/jdbc/SelectTextExistsPinLaw" (7 : Nat) "java/lang/String").before a0 Z = true := cx.1 _ (mg 4 rfl)
theorem w5 (cx : Cx a0 Z gC gF v_AL v_DO k_DO) : (Cond.instantiable "java/lang/String" (4 : Nat)).before a0 Z = true := cx.1 _ (mg 5 rfl)
theorem w6 (cx : Cx a0 Z gC gF v_AL v_DO k_DO) : (Cond.initialized "java/lang/String").before a0 Z = true := cx.1 _ (mg 6 rfl)
theorem w7 (cx : Cx a0 Z gC gF v_AL v_DO k_DO) : (Cond.arrayClass FieldType.char).before a0 Z = true := cx.1 _ (mg 7 rfl)
theorem w8 (cx : Cx a0 Z gC gF v_AL v_DO k_DO) : (Cond.methodLink "com/example/estate4/estate4/jdbc/SelectTextExistsPinLaw" (9 : Nat) ⟨"java/lang/String", "<init>", "([C)V"⟩).before a0 Z = true := cx.1 _ (mg 8 rfl)
theorem w9 (cx : Cx a0 Z gC gF v_AL v_DO k_DO) : (Cond.instanceMethod ⟨"java/lang/String", "<init>", "([C)V"⟩).before a0 Z = true := cx.1 _ (mg 9 rfl)
theorem w10 (cx : Cx a0 Z gC gF v_AL v_DO k_DO) : (Cond.code ⟨"java/lang/String", "<init>", "([C)V"⟩ jdk_42_method_3_code (2 : Nat) (Option.none : Option Jvm.ClassFile.FieldType)).before a0 Z = true := cx.1 _ (mg 10 rfl)
theorem w11 (cx : Cx a0 Z gC gF v_AL v_DO k_DO) : (Cond.methodLink "java/lang/String" (27 : Nat) ⟨"java/lang/String", "<init>", "([CIILjava/lang/Void;)V"⟩).before a0 Z = true := cx.1 _ (mg 11 rfl)
theorem w12 (cx : Cx a0 Z gC gF v_AL v_DO k_DO) : (Cond.instanceMethod ⟨"java/lang/String", "<init>", "([CIILjava/lang/Void;)V"⟩).before a0 Z = true := cx.1 _ (mg 12 rfl)
theorem w14 (cx : Cx a0 Z gC gF v_AL v_DO k_DO) : (Cond.code ⟨"java/lang/String", "<init>", "([CIILjava/lang/Void;)V"⟩ jdk_42_method_149_code (6 : Nat) (Option.none : Option Jvm.ClassFile.FieldType)).before a0 Z = true := cx.1 _ (mg 14 rfl)
theorem w15 (cx : Cx a0 Z gC gF v_AL v_DO k_DO) : (Cond.methodLink "java/lang/String" (1 : Nat) ⟨"java/lang/Object", "<init>", "()V"⟩).before a0 Z = true := cx.1 _ (mg 15 rfl)
theorem w16 (cx : Cx a0 Z gC gF v_AL v_DO k_DO) : (Cond.instanceMethod ⟨"java/lang/Object", "<init>", "()V"⟩).before a0 Z = true := cx.1 _ (mg 16 rfl)
theorem w17 (cx : Cx a0 Z gC gF v_AL v_DO k_DO) : (Cond.code ⟨"java/lang/Object", "<init>", "()V"⟩ object_method_1_code (1 : Nat) (Option.none : Option Jvm.ClassFile.FieldType)).before a0 Z = true := cx.1 _ (mg 17 rfl)
theorem w18 (cx : Cx a0 Z gC gF v_AL v_DO k_DO) : (Cond.stringLink "java/lang/String" (7 : Nat) (txt 18)).before a0 Z = true := cx.1 _ (mg 18 rfl)
theorem w19 (cx : Cx a0 Z gC gF v_AL v_DO k_DO) : (Cond.arrayClass FieldType.byte).before a0 Z = true := cx.1 _ (mg 19 rfl)
theorem w20 (cx : Cx a0 Z gC gF v_AL v_DO k_DO) : (Cond.laysFinal "java/lang/String" "java/lang/String" "value" "[B").before a0 Z = true := cx.1 _ (mg 20 rfl)
theorem w21 (cx : Cx a0 Z gC gF v_AL v_DO k_DO) : (Cond.laysFinal "java/lang/String" "java/lang/String" "coder" "B").before a0 Z = true := cx.1 _ (mg 21 rfl)
theorem w24 (cx : Cx a0 Z gC gF v_AL v_DO k_DO) : (Cond.fieldLink "java/lang/String" (9 : Nat) "java/lang/String" "value" "[B").before a0 Z = true := cx.1 _ (mg 24 rfl)
theorem w25 (cx : Cx a0 Z gC gF v_AL v_DO k_DO) : (Cond.fieldLink "java/lang/String" (15 : Nat) "java/lang/String" "coder" "B").before a0 Z = true := cx.1 _ (mg 25 rfl)
theorem w26 (cx : Cx a0 Z gC gF v_AL v_DO k_DO) : (Cond.classLink "com/example/estate4/estate4/jdbc/SelectTextExistsPinLaw" (18 : Nat) "com/example/estate4/estate4/jdbc/SelectText").before a0 Z = true := cx.1 _ (mg 26 rfl)
theorem w27 (cx : Cx a0 Z gC gF v_AL v_DO k_DO) : (Cond.instantiable "com/example/estate4/estate4/jdbc/SelectText" (8 : Nat)).before a0 Z = true := cx.1 _ (mg 27 rfl)
theorem w28 (cx : Cx a0 Z gC gF v_AL v_DO k_DO) : (Cond.initialized "com/example/estate4/estate4/jdbc/SelectText").before a0 Z = true := cx.1 _ (mg 28 rfl)
theorem w29 (cx : Cx a0 Z gC gF v_AL v_DO k_DO) : (Cond.methodLink "com/example/estate4/estate4/jdbc/SelectTextExistsPinLaw" (24 : Nat) ⟨"com/example/estate4/estate4/jdbc/SelectText", "<init>", "(Ljava/lang/String;)V"⟩).before a0 Z = true := cx.1 _ (mg 29 rfl)
theorem w30 (cx : Cx a0 Z gC gF v_AL v_DO k_DO) : (Cond.instanceMethod ⟨"com/example/estate4/estate4/jdbc/SelectText", "<init>", "(Ljava/lang/String;)V"⟩).before a0 Z = true := cx.1 _ (mg 30 rfl)
theorem w31 (cx : Cx a0 Z gC gF v_AL v_DO k_DO) : (Cond.code ⟨"com/example/estate4/estate4/jdbc/SelectText", "<init>", "(Ljava/lang/String;)V"⟩ prog_6_method_1_code (2 : Nat) (Option.none : Option Jvm.ClassFile.FieldType)).before a0 Z = true := cx.1 _ (mg 31 rfl)
theorem w32 (cx : Cx a0 Z gC gF v_AL v_DO k_DO) : (Cond.classLink "com/example/estate4/estate4/jdbc/SelectText" (1 : Nat) "com/example/estate4/estate4/jdbc/SelectText$Aliases").before a0 Z = true := cx.1 _ (mg 32 rfl)
theorem w33 (cx : Cx a0 Z gC gF v_AL v_DO k_DO) : (Cond.instantiable "com/example/estate4/estate4/jdbc/SelectText$Aliases" (1 : Nat)).before a0 Z = true := cx.1 _ (mg 33 rfl)
theorem w34 (cx : Cx a0 Z gC gF v_AL v_DO k_DO) : (Cond.initialized "com/example/estate4/estate4/jdbc/SelectText$Aliases").before a0 Z = true := cx.1 _ (mg 34 rfl)
theorem w35 (cx : Cx a0 Z gC gF v_AL v_DO k_DO) : (Cond.methodRef "com/example/estate4/estate4/jdbc/SelectText" (3 : Nat) ⟨"com/example/estate4/estate4/jdbc/SelectText$Aliases", "<init>", "()V"⟩).before a0 Z = true := cx.1 _ (mg 35 rfl)
theorem w36 (cx : Cx a0 Z gC gF v_AL v_DO k_DO) : (Cond.instanceMethod ⟨"com/example/estate4/estate4/jdbc/SelectText$Aliases", "<init>", "()V"⟩).before a0 Z = true := cx.1 _ (mg 36 rfl)
theorem w37 (cx : Cx a0 Z gC gF v_AL v_DO k_DO) : (Cond.code ⟨"com/example/estate4/estate4/jdbc/SelectText$Aliases", "<init>", "()V"⟩ prog_7_method_1_code (1 : Nat) (Option.none : Option Jvm.ClassFile.FieldType)).before a0 Z = true := cx.1 _ (mg 37 rfl)
theorem w38 (cx : Cx a0 Z gC gF v_AL v_DO k_DO) : (Cond.methodLink "com/example/estate4/estate4/jdbc/SelectText$Aliases" (1 : Nat) ⟨"java/lang/Object", "<init>", "()V"⟩).before a0 Z = true := cx.1 _ (mg 38 rfl)
theorem w39 (cx : Cx a0 Z gC gF v_AL v_DO k_DO) : (Cond.methodLink "com/example/estate4/estate4/jdbc/SelectText" (7 : Nat) ⟨"com/example/estate4/estate4/jdbc/SelectText", "<init>", "(Ljava/lang/String;Lcom/example/estate4/estate4/jdbc/SelectText$Aliases;)V"⟩).before a0 Z = true := cx.1 _ (mg 39 rfl)
theorem w40 (cx : Cx a0 Z gC gF v_AL v_DO k_DO) : (Cond.instanceMethod ⟨"com/example/estate4/estate4/jdbc/SelectText", "<init>", "(Ljava/lang/String;Lcom/example/estate4/estate4/jdbc/SelectText$Aliases;)V"⟩).before a0 Z = true := cx.1 _ (mg 40 rfl)
theorem w41 (cx : Cx a0 Z gC gF v_AL v_DO k_DO) : (Cond.code ⟨"com/example/estate4/estate4/jdbc/SelectText", "<init>", "(Ljava/lang/String;Lcom/example/estate4/estate4/jdbc/SelectText$Aliases;)V"⟩ prog_6_method_2_code (3 : Nat) (Option.none : Option Jvm.ClassFile.FieldType)).before a0 Z = true := cx.1 _ (mg 41 rfl)
theorem w42 (cx : Cx a0 Z gC gF v_AL v_DO k_DO) : (Cond.methodLink "com/example/estate4/estate4/jdbc/SelectText" (12 : Nat) ⟨"java/lang/Object", "<init>", "()V"⟩).before a0 Z = true := cx.1 _ (mg 42 rfl)
theorem w43 (cx : Cx a0 Z gC gF v_AL v_DO k_DO) : (Cond.classLink "com/example/estate4/estate4/jdbc/SelectText" (15 : Nat) "java/util/ArrayList").before a0 Z = true := cx.1 _ (mg 43 rfl)
theorem w44 (cx : Cx a0 Z gC gF v_AL v_DO k_DO) : (Cond.instantiable "java/util/ArrayList" (3 : Nat)).before a0 Z = true := cx.1 _ (mg 44 rfl)
theorem w45 (cx : Cx a0 Z gC gF v_AL v_DO k_DO) : (Cond.initialized "java/util/ArrayList").before a0 Z = true := cx.1 _ (mg 45 rfl)
theorem w46 (cx : Cx a0 Z gC gF v_AL v_DO k_DO) : (Cond.methodLink "com/example/estate4/estate4/jdbc/SelectText" (17 : Nat) ⟨"java/util/ArrayList", "<init>", "()V"⟩).before a0 Z = true := cx.1 _ (mg 46 rfl)
theorem w47 (cx : Cx a0 Z gC gF v_AL v_DO k_DO) : (Cond.instanceMethod ⟨"java/util/ArrayList", "<init>", "()V"⟩).before a0 Z = true := cx.1 _ (mg 47 rfl)
theorem w48 (cx : Cx a0 Z gC gF v_AL v_DO k_DO) : (Cond.code ⟨"java/util/ArrayList", "<init>", "()V"⟩ jdk_38_method_2_code (1 : Nat) (Option.none : Option Jvm.ClassFile.FieldType)).before a0 Z = true := cx.1 _ (mg 48 rfl)
theorem w49 (cx : Cx a0 Z gC gF v_AL v_DO k_DO) : (Cond.methodLink "java/util/ArrayList" (1 : Nat) ⟨"java/util/AbstractList", "<init>", "()V"⟩).before a0 Z = true := cx.1 _ (mg 49 rfl)
theorem w50 (cx : Cx a0 Z gC gF v_AL v_DO k_DO) : (Cond.instanceMethod ⟨"java/util/AbstractList", "<init>", "()V"⟩).before a0 Z = true := cx.1 _ (mg 50 rfl)
theorem w53 (cx : Cx a0 Z gC gF v_AL v_DO k_DO) : (Cond.initialized "java/util/AbstractList").before a0 Z = true := cx.1 _ (mg 53 rfl)
theorem w54 (cx : Cx a0 Z gC gF v_AL v_DO k_DO) : (Cond.code ⟨"java/util/AbstractList", "<init>", "()V"⟩ jdk_39_method_1_code (1 : Nat) (Option.none : Option Jvm.ClassFile.FieldType)).before a0 Z = true := cx.1 _ (mg 54 rfl)
theorem w55 (cx : Cx a0 Z gC gF v_AL v_DO k_DO) : (Cond.methodLink "java/util/AbstractList" (1 : Nat) ⟨"java/util/AbstractCollection", "<init>", "()V"⟩).before a0 Z = true := cx.1 _ (mg 55 rfl)
theorem w56 (cx : Cx a0 Z gC gF v_AL v_DO k_DO) : (Cond.instanceMethod ⟨"java/util/AbstractCollection", "<init>", "()V"⟩).before a0 Z = true := cx.1 _ (mg 56 rfl)
theorem w59 (cx : Cx a0 Z gC gF v_AL v_DO k_DO) : (Cond.initialized "java/util/AbstractCollection").before a0 Z = true := cx.1 _ (mg 59 rfl)
theorem w60 (cx : Cx a0 Z gC gF v_AL v_DO k_DO) : (Cond.code ⟨"java/util/AbstractCollection", "<init>", "()V"⟩ jdk_22_method_1_code (1 : Nat) (Option.none : Option Jvm.ClassFile.FieldType)).before a0 Z = true := cx.1 _ (mg 60 rfl)
theorem w61 (cx : Cx a0 Z gC gF v_AL v_DO k_DO) : (Cond.methodLink "java/util/AbstractCollection" (1 : Nat) ⟨"java/lang/Object", "<init>", "()V"⟩).before a0 Z = true := cx.1 _ (mg 61 rfl)
theorem w62 (cx : Cx a0 Z gC gF v_AL v_DO k_DO) : (Cond.fieldLink "java/util/AbstractList" (7 : Nat) "java/util/AbstractList" "modCount" "I").before a0 Z = true := cx.1 _ (mg 62 rfl)
theorem w63 (cx : Cx a0 Z gC gF v_AL v_DO k_DO) : (Cond.lays "java/util/ArrayList" "java/util/AbstractList" "modCount" "I").before a0 Z = true := cx.1 _ (mg 63 rfl)
theorem w64 (cx : Cx a0 Z gC gF v_AL v_DO k_DO) : (Cond.fieldLink "java/util/ArrayList" (39 : Nat) "java/util/ArrayList" "DEFAULTCAPACITY_EMPTY_ELEMENTDATA" "[Ljava/lang/Object;").before a0 Z = true := cx.1 _ (mg 64 rfl)
theorem w65 (cx : Cx a0 Z gC gF v_AL v_DO k_DO) : (Cond.fieldLink "java/util/ArrayList" (9 : Nat) "java/util/ArrayList" "elementData" "[Ljava/lang/Object;").before a0 Z = true := cx.1 _ (mg 65 rfl)
theorem w66 (cx : Cx a0 Z gC gF v_AL v_DO k_DO) : (Cond.lays "java/util/ArrayList" "java/util/ArrayList" "elementData" "[Ljava/lang/Object;").before a0 Z = true := cx.1 _ (mg 66 rfl)
theorem w67 (cx : Cx a0 Z gC gF v_AL v_DO k_DO) : (Cond.fieldLink "com/example/estate4/estate4/jdbc/SelectText" (18 : Nat) "com/example/estate4/estate4/jdbc/SelectText" "columns" "Ljava/util/List;").before a0 Z = true := cx.1 _ (mg 67 rfl)
theorem w68 (cx : Cx a0 Z gC gF v_AL v_DO k_DO) : (Cond.laysFinal "com/example/estate4/estate4/jdbc/SelectText" "com/example/estate4/estate4/jdbc/SelectText" "columns" "Ljava/util/List;").before a0 Z = true := cx.1 _ (mg 68 rfl)
theorem w69 (cx : Cx a0 Z gC gF v_AL v_DO k_DO) : (Cond.fieldLink "com/example/estate4/estate4/jdbc/SelectText" (22 : Nat) "com/example/estate4/estate4/jdbc/SelectText" "tableColumns" "Ljava/util/List;").before a0 Z = true := cx.1 _ (mg 69 rfl)
theorem w70 (cx : Cx a0 Z gC gF v_AL v_DO k_DO) : (Cond.laysFinal "com/example/estate4/estate4/jdbc/SelectText" "com/example/estate4/estate4/jdbc/SelectText" "tableColumns" "Ljava/util/List;").before a0 Z = true := cx.1 _ (mg 70 rfl)
theorem w71 (cx : Cx a0 Z gC gF v_AL v_DO k_DO) : (Cond.fieldLink "com/example/estate4/estate4/jdbc/SelectText" (25 : Nat) "com/example/estate4/estate4/jdbc/SelectText" "grouping" "Ljava/util/List;").before a0 Z = true := cx.1 _ (mg 71 rfl)
theorem w72 (cx : Cx a0 Z gC gF v_AL v_DO k_DO) : (Cond.laysFinal "com/example/estate4/estate4/jdbc/SelectText" "com/example/estate4/estate4/jdbc/SelectText" "grouping" "Ljava/util/List;").before a0 Z = true := cx.1 _ (mg 72 rfl)
theorem w73 (cx : Cx a0 Z gC gF v_AL v_DO k_DO) : (Cond.classLink "com/example/estate4/estate4/jdbc/SelectText" (28 : Nat) "java/lang/StringBuilder").before a0 Z = true := cx.1 _ (mg 73 rfl)
theorem w74 (cx : Cx a0 Z gC gF v_AL v_DO k_DO) : (Cond.instantiable "java/lang/StringBuilder" (4 : Nat)).before a0 Z = true := cx.1 _ (mg 74 rfl)
theorem w75 (cx : Cx a0 Z gC gF v_AL v_DO k_DO) : (Cond.initialized "java/lang/StringBuilder").before a0 Z = true := cx.1 _ (mg 75 rfl)
theorem w76 (cx : Cx a0 Z gC gF v_AL v_DO k_DO) : (Cond.methodLink "com/example/estate4/estate4/jdbc/SelectText" (30 : Nat) ⟨"java/lang/StringBuilder", "<init>", "()V"⟩).before a0 Z = true := cx.1 _ (mg 76 rfl)
theorem w77 (cx : Cx a0 Z gC gF v_AL v_DO k_DO) : (Cond.instanceMethod ⟨"java/lang/StringBuilder", "<init>", "()V"⟩).before a0 Z = true := cx.1 _ (mg 77 rfl)
theorem w78 (cx : Cx a0 Z gC gF v_AL v_DO k_DO) : (Cond.code ⟨"java/lang/StringBuilder", "<init>", "()V"⟩ jdk_67_method_1_code (1 : Nat) (Option.none : Option Jvm.ClassFile.FieldType)).before a0 Z = true := cx.1 _ (mg 78 rfl)
theorem w79 (cx : Cx a0 Z gC gF v_AL v_DO k_DO) : (Cond.methodLink "java/lang/StringBuilder" (1 : Nat) ⟨"java/lang/AbstractStringBuilder", "<init>", "(I)V"⟩).before a0 Z = true := cx.1 _ (mg 79 rfl)
theorem w80 (cx : Cx a0 Z gC gF v_AL v_DO k_DO) : (Cond.instanceMethod ⟨"java/lang/AbstractStringBuilder", "<init>", "(I)V"⟩).before a0 Z = true := cx.1 _ (mg 80 rfl)
theorem w83 (cx : Cx a0 Z gC gF v_AL v_DO k_DO) : (Cond.initialized "java/lang/AbstractStringBuilder").before a0 Z = true := cx.1 _ (mg 83 rfl)
theorem w84 (cx : Cx a0 Z gC gF v_AL v_DO k_DO) : (Cond.code ⟨"java/lang/AbstractStringBuilder", "<init>", "(I)V"⟩ jdk_68_method_2_code (2 : Nat) (Option.none : Option Jvm.ClassFile.FieldType)).before a0 Z = true := cx.1 _ (mg 84 rfl)
theorem w85 (cx : Cx a0 Z gC gF v_AL v_DO k_DO) : (Cond.methodLink "java/lang/AbstractStringBuilder" (3 : Nat) ⟨"java/lang/Object", "<init>", "()V"⟩).before a0 Z = true := cx.1 _ (mg 85 rfl)
theorem w86 (cx : Cx a0 Z gC gF v_AL v_DO k_DO) : (Cond.fieldLink "java/lang/AbstractStringBuilder" (18 : Nat) "java/lang/String" "COMPACT_STRINGS" "Z").before a0 Z = true := cx.1 _ (mg 86 rfl)
theorem w87 (cx : Cx a0 Z gC gF v_AL v_DO k_DO) : (Cond.fieldLink "java/lang/AbstractStringBuilder" (15 : Nat) "java/lang/AbstractStringBuilder" "value" "[B").before a0 Z = true := cx.1 _ (mg 87 rfl)
theorem w88 (cx : Cx a0 Z gC gF v_AL v_DO k_DO) : (Cond.lays "java/lang/StringBuilder" "java/lang/AbstractStringBuilder" "value" "[B").before a0 Z = true := cx.1 _ (mg 88 rfl)
theorem w89 (cx : Cx a0 Z gC gF v_AL v_DO k_DO) : (Cond.fieldLink "java/lang/AbstractStringBuilder" (22 : Nat) "java/lang/AbstractStringBuilder" "coder" "B").before a0 Z = true := cx.1 _ (mg 89 rfl)
theorem w90 (cx : Cx a0 Z gC gF v_AL v_DO k_DO) : (Cond.lays "java/lang/StringBuilder" "java/lang/AbstractStringBuilder" "coder" "B").before a0 Z = true := cx.1 _ (mg 90 rfl)
theorem w91 (cx : Cx a0 Z gC gF v_AL v_DO k_DO) : (Cond.fieldLink "com/example/estate4/estate4/jdbc/SelectText" (31 : Nat) "com/example/estate4/estate4/jdbc/SelectText" "from" "Ljava/lang/StringBuilder;").before a0 Z = true := cx.1 _ (mg 91 rfl)
theorem w92 (cx : Cx a0 Z gC gF v_AL v_DO k_DO) : (Cond.laysFinal "com/example/estate4/estate4/jdbc/SelectText" "com/example/estate4/estate4/jdbc/SelectText" "from" "Ljava/lang/StringBuilder;").before a0 Z = true := cx.1 _ (mg 92 rfl)
theorem w93 (cx : Cx a0 Z gC gF v_AL v_DO k_DO) : (Cond.fieldLink "com/example/estate4/estate4/jdbc/SelectText" (35 : Nat) "com/example/estate4/estate4/jdbc/SelectText" "aliases" "Lcom/example/estate4/estate4/jdbc/SelectText$Aliases;").before a0 Z = true := cx.1 _ (mg 93 rfl)
theorem w94 (cx : Cx a0 Z gC gF v_AL v_DO k_DO) : (Cond.laysFinal "com/example/estate4/estate4/jdbc/SelectText" "com/example/estate4/estate4/jdbc/SelectText" "aliases" "Lcom/example/estate4/estate4/jdbc/SelectText$Aliases;").before a0 Z = true := cx.1 _ (mg 94 rfl)
theorem w95 (cx : Cx a0 Z gC gF v_AL v_DO k_DO) : (Cond.fieldLink "com/example/estate4/estate4/jdbc/SelectText" (39 : Nat) "com/example/estate4/estate4/jdbc/SelectText" "table" "Ljava/lang/String;").before a0 Z = true := cx.1 _ (mg 95 rfl)
theorem w96 (cx : Cx a0 Z gC gF v_AL v_DO k_DO) : (Cond.laysFinal "com/example/estate4/estate4/jdbc/SelectText" "com/example/estate4/estate4/jdbc/SelectText" "table" "Ljava/lang/String;").before a0 Z = true := cx.1 _ (mg 96 rfl)
theorem w97 (cx : Cx a0 Z gC gF v_AL v_DO k_DO) : (Cond.methodLink "com/example/estate4/estate4/jdbc/SelectText" (43 : Nat) ⟨"com/example/estate4/estate4/jdbc/SelectText$Aliases", "next", "()Ljava/lang/String;"⟩).before a0 Z = true := cx.1 _ (mg 97 rfl)
theorem w98 (cx : Cx a0 Z gC gF v_AL v_DO k_DO) : (Cond.declares ⟨"com/example/estate4/estate4/jdbc/SelectText$Aliases", "next", "()Ljava/lang/String;"⟩).before a0 Z = true := cx.1 _ (mg 98 rfl)
theorem w99 (cx : Cx a0 Z gC gF v_AL v_DO k_DO) : (Cond.instanceMethod ⟨"com/example/estate4/estate4/jdbc/SelectText$Aliases", "next", "()Ljava/lang/String;"⟩).before a0 Z = true := cx.1 _ (mg 99 rfl)
theorem w100 (cx : Cx a0 Z gC gF v_AL v_DO k_DO) : (Cond.selects "com/example/estate4/estate4/jdbc/SelectText$Aliases" ⟨"com/example/estate4/estate4/jdbc/SelectText$Aliases", "next", "()Ljava/lang/String;"⟩ ⟨"com/example/estate4/estate4/jdbc/SelectText$Aliases", "next", "()Ljava/lang/String;"⟩).before a0 Z = true := cx.1 _ (mg 100 rfl)
theorem w101 (cx : Cx a0 Z gC gF v_AL v_DO k_DO) : (Cond.code ⟨"com/example/estate4/estate4/jdbc/SelectText$Aliases", "next", "()Ljava/lang/String;"⟩ prog_7_method_2_code (2 : Nat) (Option.some (FieldType.object "java/lang/String"))).before a0 Z = true := cx.1 _ (mg 101 rfl)
theorem w102 (cx : Cx a0 Z gC gF v_AL v_DO k_DO) : (Cond.classLink "com/example/estate4/estate4/jdbc/SelectText$Aliases" (7 : Nat) "java/lang/StringBuilder").before a0 Z = true := cx.1 _ (mg 102 rfl)
theorem w103 (cx : Cx a0 Z gC gF v_AL v_DO k_DO) : (Cond.methodLink "com/example/estate4/estate4/jdbc/SelectText$Aliases" (9 : Nat) ⟨"java/lang/StringBuilder", "<init>", "()V"⟩).before a0 Z = true := cx.1 _ (mg 103 rfl)
theorem w104 (cx : Cx a0 Z gC gF v_AL v_DO k_DO) : (Cond.stringLink "com/example/estate4/estate4/jdbc/SelectText$Aliases" (10 : Nat) (txt 104)).before a0 Z = true := cx.1 _ (mg 104 rfl)
theorem w105 (cx : Cx a0 Z gC gF v_AL v_DO k_DO) : (Cond.methodLink "com/example/estate4/estate4/jdbc/SelectText$Aliases" (12 : Nat) ⟨"java/lang/StringBuilder", "append", "(Ljava/lang/String;)Ljava/lang/StringBuilder;"⟩).before a0 Z = true := cx.1 _ (mg 105 rfl)
theorem w106 (cx : Cx a0 Z gC gF v_AL v_DO k_DO) : (Cond.declares ⟨"java/lang/StringBuilder", "append", "(Ljava/lang/String;)Ljava/lang/StringBuilder;"⟩).before a0 Z = true := cx.1 _ (mg 106 rfl)
theorem w107 (cx : Cx a0 Z gC gF v_AL v_DO k_DO) : (Cond.instanceMethod ⟨"java/lang/StringBuilder", "append", "(Ljava/lang/String;)Ljava/lang/StringBuilder;"⟩).before a0 Z = true := cx.1 _ (mg 107 rfl)
theorem w108 (cx : Cx a0 Z gC gF v_AL v_DO k_DO) : (Cond.selects "java/lang/StringBuilder" ⟨"java/lang/StringBuilder", "append", "(Ljava/lang/String;)Ljava/lang/StringBuilder;"⟩ ⟨"java/lang/StringBuilder", "append", "(Ljava/lang/String;)Ljava/lang/StringBuilder;"⟩).before a0 Z = true := cx.1 _ (mg 108 rfl)
theorem w109 (cx : Cx a0 Z gC gF v_AL v_DO k_DO) : (Cond.code ⟨"java/lang/StringBuilder", "append", "(Ljava/lang/String;)Ljava/lang/StringBuilder;"⟩ jdk_67_method_7_code (2 : Nat) (Option.some (FieldType.object "java/lang/StringBuilder"))).before a0 Z = true := cx.1 _ (mg 109 rfl)
theorem w110 (cx : Cx a0 Z gC gF v_AL v_DO k_DO) : (Cond.methodLink "java/lang/StringBuilder" (29 : Nat) ⟨"java/lang/AbstractStringBuilder", "append", "(Ljava/lang/String;)Ljava/lang/AbstractStringBuilder;"⟩).before a0 Z = true := cx.1 _ (mg 110 rfl)
theorem w111 (cx : Cx a0 Z gC gF v_AL v_DO k_DO) : (Cond.instanceMethod ⟨"java/lang/AbstractStringBuilder", "append", "(Ljava/lang/String;)Ljava/lang/AbstractStringBuilder;"⟩).before a0 Z = true := cx.1 _ (mg 111 rfl)
theorem w112 (cx : Cx a0 Z gC gF v_AL v_DO k_DO) : (Cond.superclass "java/lang/StringBuilder" "java/lang/AbstractStringBuilder").before a0 Z = true := cx.1 _ (mg 112 rfl)
theorem w114 (cx : Cx a0 Z gC gF v_AL v_DO k_DO) : (Cond.code ⟨"java/lang/AbstractStringBuilder", "append", "(Ljava/lang/String;)Ljava/lang/AbstractStringBuilder;"⟩ jdk_68_method_22_code (3 : Nat) (Option.some (FieldType.object "java/lang/AbstractStringBuilder"))).before a0 Z = true := cx.1 _ (mg 114 rfl)
theorem w115 (cx : Cx a0 Z gC gF v_AL v_DO k_DO) : (Cond.methodLink "java/lang/AbstractStringBuilder" (32 : Nat) ⟨"java/lang/String", "length", "()I"⟩).before a0 Z = true := cx.1 _ (mg 115 rfl)
theorem w116 (cx : Cx a0 Z gC gF v_AL v_DO k_DO) : (Cond.declares ⟨"java/lang/String", "length", "()I"⟩).before a0 Z = true := cx.1 _ (mg 116 rfl)
theorem w117 (cx : Cx a0 Z gC gF v_AL v_DO k_DO) : (Cond.instanceMethod ⟨"java/lang/String", "length", "()I"⟩).before a0 Z = true := cx.1 _ (mg 117 rfl)
theorem w118 (cx : Cx a0 Z gC gF v_AL v_DO k_DO) : (Cond.selects "java/lang/String" ⟨"java/lang/String", "length", "()I"⟩ ⟨"java/lang/String", "length", "()I"⟩).before a0 Z = true := cx.1 _ (mg 118 rfl)
theorem w120 (cx : Cx a0 Z gC gF v_AL v_DO k_DO) : (Cond.methodLink "java/lang/String" (335 : Nat) ⟨"java/lang/String", "coder", "()B"⟩).before a0 Z = true := cx.1 _ (mg 120 rfl)
theorem w121 (cx : Cx a0 Z gC gF v_AL v_DO k_DO) : (Cond.declares ⟨"java/lang/String", "coder", "()B"⟩).before a0 Z = true := cx.1 _ (mg 121 rfl)
theorem w122 (cx : Cx a0 Z gC gF v_AL v_DO k_DO) : (Cond.instanceMethod ⟨"java/lang/String", "coder", "()B"⟩).before a0 Z = true := cx.1 _ (mg 122 rfl)
theorem w123 (cx : Cx a0 Z gC gF v_AL v_DO k_DO) : (Cond.selects "java/lang/String" ⟨"java/lang/String", "coder", "()B"⟩ ⟨"java/lang/String", "coder", "()B"⟩).before a0 Z = true := cx.1 _ (mg 123 rfl)
theorem w124 (cx : Cx a0 Z gC gF v_AL v_DO k_DO) : (Cond.code ⟨"java/lang/String", "coder", "()B"⟩ jdk_42_method_152_code (1 : Nat) (Option.some FieldType.byte)).before a0 Z = true := cx.1 _ (mg 124 rfl)
theorem w125 (cx : Cx a0 Z gC gF v_AL v_DO k_DO) : (Cond.fieldLink "java/lang/String" (38 : Nat) "java/lang/String" "COMPACT_STRINGS" "Z").before a0 Z = true := cx.1 _ (mg 125 rfl)
theorem w126 (cx : Cx a0 Z gC gF v_AL v_DO k_DO) : (Cond.fieldLink "java/lang/AbstractStringBuilder" (79 : Nat) "java/lang/AbstractStringBuilder" "count" "I").before a0 Z = true := cx.1 _ (mg 126 rfl)
theorem w127 (cx : Cx a0 Z gC gF v_AL v_DO k_DO) : (Cond.lays "java/lang/StringBuilder" "java/lang/AbstractStringBuilder" "count" "I").before a0 Z = true := cx.1 _ (mg 127 rfl)
theorem w128 (cx : Cx a0 Z gC gF v_AL v_DO k_DO) : (Cond.methodLink "java/lang/AbstractStringBuilder" (100 : Nat) ⟨"java/lang/AbstractStringBuilder", "ensureCapacityInternal", "(I)V"⟩).before a0 Z = true := cx.1 _ (mg 128 rfl)
theorem w129 (cx : Cx a0 Z gC gF v_AL v_DO k_DO) : (Cond.instanceMethod ⟨"java/lang/AbstractStringBuilder", "ensureCapacityInternal", "(I)V"⟩).before a0 Z = true := cx.1 _ (mg 129 rfl)
theorem w131 (cx : Cx a0 Z gC gF v_AL v_DO k_DO) : (Cond.selects "java/lang/StringBuilder" ⟨"java/lang/AbstractStringBuilder", "ensureCapacityInternal", "(I)V"⟩ ⟨"java/lang/AbstractStringBuilder", "ensureCapacityInternal", "(I)V"⟩).before a0 Z = true := cx.1 _ (mg 131 rfl)
theorem w132 (cx : Cx a0 Z gC gF v_AL v_DO k_DO) : (Cond.code ⟨"java/lang/AbstractStringBuilder", "ensureCapacityInternal", "(I)V"⟩ jdk_68_method_9_code (3 : Nat) (Option.none : Option Jvm.ClassFile.FieldType)).before a0 Z = true := cx.1 _ (mg 132 rfl)
theorem w133 (cx : Cx a0 Z gC gF v_AL v_DO k_DO) : (Cond.methodLink "java/lang/AbstractStringBuilder" (208 : Nat) ⟨"java/lang/AbstractStringBuilder", "putStringAt", "(ILjava/lang/String;)V"⟩).before a0 Z = true := cx.1 _ (mg 133 rfl)
theorem w134 (cx : Cx a0 Z gC gF v_AL v_DO k_DO) : (Cond.instanceMethod ⟨"java/lang/AbstractStringBuilder", "putStringAt", "(ILjava/lang/String;)V"⟩).before a0 Z = true := cx.1 _ (mg 134 rfl)
theorem w136 (cx : Cx a0 Z gC gF v_AL v_DO k_DO) : (Cond.selects "java/lang/StringBuilder" ⟨"java/lang/AbstractStringBuilder", "putStringAt", "(ILjava/lang/String;)V"⟩ ⟨"java/lang/AbstractStringBuilder", "putStringAt", "(ILjava/lang/String;)V"⟩).before a0 Z = true := cx.1 _ (mg 136 rfl)
theorem w137 (cx : Cx a0 Z gC gF v_AL v_DO k_DO) : (Cond.code ⟨"java/lang/AbstractStringBuilder", "putStringAt", "(ILjava/lang/String;)V"⟩ jdk_68_method_73_code (3 : Nat) (Option.none : Option Jvm.ClassFile.FieldType)).before a0 Z = true := cx.1 _ (mg 137 rfl)
theorem w138 (cx : Cx a0 Z gC gF v_AL v_DO k_DO) : (Cond.methodLink "java/lang/AbstractStringBuilder" (397 : Nat) ⟨"java/lang/AbstractStringBuilder", "inflateIfNeededFor", "(Ljava/lang/String;)V"⟩).before a0 Z = true := cx.1 _ (mg 138 rfl)
theorem w139 (cx : Cx a0 Z gC gF v_AL v_DO k_DO) : (Cond.instanceMethod ⟨"java/lang/AbstractStringBuilder", "inflateIfNeededFor", "(Ljava/lang/String;)V"⟩).before a0 Z = true := cx.1 _ (mg 139 rfl)
theorem w141 (cx : Cx a0 Z gC gF v_AL v_DO k_DO) : (Cond.selects "java/lang/StringBuilder" ⟨"java/lang/AbstractStringBuilder", "inflateIfNeededFor", "(Ljava/lang/String;)V"⟩ ⟨"java/lang/AbstractStringBuilder", "inflateIfNeededFor", "(Ljava/lang/String;)V"⟩).before a0 Z = true := cx.1 _ (mg 141 rfl)
theorem w142 (cx : Cx a0 Z gC gF v_AL v_DO k_DO) : (Cond.code ⟨"java/lang/AbstractStringBuilder", "inflateIfNeededFor", "(Ljava/lang/String;)V"⟩ jdk_68_method_71_code (2 : Nat) (Option.none : Option Jvm.ClassFile.FieldType)).before a0 Z = true := cx.1 _ (mg 142 rfl)
theorem w143 (cx : Cx a0 Z gC gF v_AL v_DO k_DO) : (Cond.methodLink "java/lang/AbstractStringBuilder" (40 : Nat) ⟨"java/lang/String", "coder", "()B"⟩).before a0 Z = true := cx.1 _ (mg 143 rfl)
theorem w144 (cx : Cx a0 Z gC gF v_AL v_DO k_DO) : (Cond.methodLink "java/lang/AbstractStringBuilder" (399 : Nat) ⟨"java/lang/String", "getBytes", "([BIB)V"⟩).before a0 Z = true := cx.1 _ (mg 144 rfl)
theorem w145 (cx : Cx a0 Z gC gF v_AL v_DO k_DO) : (Cond.declares ⟨"java/lang/String", "getBytes", "([BIB)V"⟩).before a0 Z = true := cx.1 _ (mg 145 rfl)
theorem w146 (cx : Cx a0 Z gC gF v_AL v_DO k_DO) : (Cond.instanceMethod ⟨"java/lang/String", "getBytes", "([BIB)V"⟩).before a0 Z = true := cx.1 _ (mg 146 rfl)
theorem w147 (cx : Cx a0 Z gC gF v_AL v_DO k_DO) : (Cond.selects "java/lang/String" ⟨"java/lang/String", "getBytes", "([BIB)V"⟩ ⟨"java/lang/String", "getBytes", "([BIB)V"⟩).before a0 Z = true := cx.1 _ (mg 147 rfl)
theorem w148 (cx : Cx a0 Z gC gF v_AL v_DO k_DO) : (Cond.code ⟨"java/lang/String", "getBytes", "([BIB)V"⟩ jdk_42_method_147_code (4 : Nat) (Option.none : Option Jvm.ClassFile.FieldType)).before a0 Z = true := cx.1 _ (mg 148 rfl)
theorem w149 (cx : Cx a0 Z gC gF v_AL v_DO k_DO) : (Cond.methodLink "java/lang/String" (212 : Nat) ⟨"java/lang/System", "arraycopy", "(Ljava/lang/Object;ILjava/lang/Object;II)V"⟩).before a0 Z = true := cx.1 _ (mg 149 rfl)
theorem w150 (cx : Cx a0 Z gC gF v_AL v_DO k_DO) : (Cond.static ⟨"java/lang/System", "arraycopy", "(Ljava/lang/Object;ILjava/lang/Object;II)V"⟩).before a0 Z = true := cx.1 _ (mg 150 rfl)
theorem w151 (cx : Cx a0 Z gC gF v_AL v_DO k_DO) : (Cond.initialized "java/lang/System").before a0 Z = true := cx.1 _ (mg 151 rfl)
theorem w152 (cx : Cx a0 Z gC gF v_AL v_DO k_DO) : (Cond.native ⟨"java/lang/System", "arraycopy", "(Ljava/lang/Object;ILjava/lang/Object;II)V"⟩).before a0 Z = true := cx.1 _ (mg 152 rfl)
theorem w153 (cx : Cx a0 Z gC gF v_AL v_DO k_DO) : (Cond.fieldLink "com/example/estate4/estate4/jdbc/SelectText$Aliases" (16 : Nat) "com/example/estate4/estate4/jdbc/SelectText$Aliases" "handedOut" "I").before a0 Z = true := cx.1 _ (mg 153 rfl)
theorem w154 (cx : Cx a0 Z gC gF v_AL v_DO k_DO) : (Cond.lays "com/example/estate4/estate4/jdbc/SelectText$Aliases" "com/example/estate4/estate4/jdbc/SelectText$Aliases" "handedOut" "I").before a0 Z = true := cx.1 _ (mg 154 rfl)
theorem w155 (cx : Cx a0 Z gC gF v_AL v_DO k_DO) : (Cond.methodLink "com/example/estate4/estate4/jdbc/SelectText$Aliases" (22 : Nat) ⟨"java/lang/StringBuilder", "append", "(I)Ljava/lang/StringBuilder;"⟩).before a0 Z = true := cx.1 _ (mg 155 rfl)
theorem w156 (cx : Cx a0 Z gC gF v_AL v_DO k_DO) : (Cond.declares ⟨"java/lang/StringBuilder", "append", "(I)Ljava/lang/StringBuilder;"⟩).before a0 Z = true := cx.1 _ (mg 156 rfl)
theorem w157 (cx : Cx a0 Z gC gF v_AL v_DO k_DO) : (Cond.instanceMethod ⟨"java/lang/StringBuilder", "append", "(I)Ljava/lang/StringBuilder;"⟩).before a0 Z = true := cx.1 _ (mg 157 rfl)
theorem w158 (cx : Cx a0 Z gC gF v_AL v_DO k_DO) : (Cond.selects "java/lang/StringBuilder" ⟨"java/lang/StringBuilder", "append", "(I)Ljava/lang/StringBuilder;"⟩ ⟨"java/lang/StringBuilder", "append", "(I)Ljava/lang/StringBuilder;"⟩).before a0 Z = true := cx.1 _ (mg 158 rfl)
theorem w159 (cx : Cx a0 Z gC gF v_AL v_DO k_DO) : (Cond.code ⟨"java/lang/StringBuilder", "append", "(I)Ljava/lang/StringBuilder;"⟩ jdk_67_method_15_code (2 : Nat) (Option.some (FieldType.object "java/lang/StringBuilder"))).before a0 Z = true := cx.1 _ (mg 159 rfl)
theorem w160 (cx : Cx a0 Z gC gF v_AL v_DO k_DO) : (Cond.methodLink "java/lang/StringBuilder" (53 : Nat) ⟨"java/lang/AbstractStringBuilder", "append", "(I)Ljava/lang/AbstractStringBuilder;"⟩).before a0 Z = true := cx.1 _ (mg 160 rfl)
theorem w161 (cx : Cx a0 Z gC gF v_AL v_DO k_DO) : (Cond.instanceMethod ⟨"java/lang/AbstractStringBuilder", "append", "(I)Ljava/lang/AbstractStringBuilder;"⟩).before a0 Z = true := cx.1 _ (mg 161 rfl)
theorem w163 (cx : Cx a0 Z gC gF v_AL v_DO k_DO) : (Cond.code ⟨"java/lang/AbstractStringBuilder", "append", "(I)Ljava/lang/AbstractStringBuilder;"⟩ jdk_68_method_32_code (4 : Nat) (Option.some (FieldType.object "java/lang/AbstractStringBuilder"))).before a0 Z = true := cx.1 _ (mg 163 rfl)
theorem w164 (cx : Cx a0 Z gC gF v_AL v_DO k_DO) : (Cond.methodLink "java/lang/AbstractStringBuilder" (245 : Nat) ⟨"java/lang/Integer", "stringSize", "(I)I"⟩).before a0 Z = true := cx.1 _ (mg 164 rfl)
theorem w165 (cx : Cx a0 Z gC gF v_AL v_DO k_DO) : (Cond.static ⟨"java/lang/Integer", "stringSize", "(I)I"⟩).before a0 Z = true := cx.1 _ (mg 165 rfl)
theorem w166 (cx : Cx a0 Z gC gF v_AL v_DO k_DO) : (Cond.initialized "java/lang/Integer").before a0 Z = true := cx.1 _ (mg 166 rfl)
theorem w167 (cx : Cx a0 Z gC gF v_AL v_DO k_DO) : (Cond.code ⟨"java/lang/Integer", "stringSize", "(I)I"⟩ jdk_33_method_13_code (4 : Nat) (Option.some FieldType.int)).before a0 Z = true := cx.1 _ (mg 167 rfl)
theorem w168 (cx : Cx a0 Z gC gF v_AL v_DO k_DO) : (Cond.methodLink "java/lang/AbstractStringBuilder" (83 : Nat) ⟨"java/lang/AbstractStringBuilder", "isLatin1", "()Z"⟩).before a0 Z = true := cx.1 _ (mg 168 rfl)
theorem w169 (cx : Cx a0 Z gC gF v_AL v_DO k_DO) : (Cond.declares ⟨"java/lang/AbstractStringBuilder", "isLatin1", "()Z"⟩).before a0 Z = true := cx.1 _ (mg 169 rfl)
theorem w170 (cx : Cx a0 Z gC gF v_AL v_DO k_DO) : (Cond.instanceMethod ⟨"java/lang/AbstractStringBuilder", "isLatin1", "()Z"⟩).before a0 Z = true := cx.1 _ (mg 170 rfl)
theorem w171 (cx : Cx a0 Z gC gF v_AL v_DO k_DO) : (Cond.selects "java/lang/StringBuilder" ⟨"java/lang/AbstractStringBuilder", "isLatin1", "()Z"⟩ ⟨"java/lang/AbstractStringBuilder", "isLatin1", "()Z"⟩).before a0 Z = true := cx.1 _ (mg 171 rfl)
theorem w172 (cx : Cx a0 Z gC gF v_AL v_DO k_DO) : (Cond.code ⟨"java/lang/AbstractStringBuilder", "isLatin1", "()Z"⟩ jdk_68_method_68_code (1 : Nat) (Option.some FieldType.boolean)).before a0 Z = true := cx.1 _ (mg 172 rfl)
theorem w173 (cx : Cx a0 Z gC gF v_AL v_DO k_DO) : (Cond.methodLink "java/lang/AbstractStringBuilder" (248 : Nat) ⟨"java/lang/Integer", "getChars", "(II[B)I"⟩).before a0 Z = true := cx.1 _ (mg 173 rfl)
theorem w174 (cx : Cx a0 Z gC gF v_AL v_DO k_DO) : (Cond.static ⟨"java/lang/Integer", "getChars", "(II[B)I"⟩).before a0 Z = true := cx.1 _ (mg 174 rfl)
theorem w175 (cx : Cx a0 Z gC gF v_AL v_DO k_DO) : (Cond.code ⟨"java/lang/Integer", "getChars", "(II[B)I"⟩ jdk_33_method_12_code (7 : Nat) (Option.some FieldType.int)).before a0 Z = true := cx.1 _ (mg 175 rfl)
theorem w176 (cx : Cx a0 Z gC gF v_AL v_DO k_DO) : (Cond.fieldLink "java/lang/Integer" (83 : Nat) "java/lang/Integer" "DigitOnes" "[B").before a0 Z = true := cx.1 _ (mg 176 rfl)
theorem w177 (cx : Cx a0 Z gC gF v_AL v_DO k_DO) : (Cond.methodLink "com/example/estate4/estate4/jdbc/SelectText$Aliases" (25 : Nat) ⟨"java/lang/StringBuilder", "toString", "()Ljava/lang/String;"⟩).before a0 Z = true := cx.1 _ (mg 177 rfl)
theorem w178 (cx : Cx a0 Z gC gF v_AL v_DO k_DO) : (Cond.declares ⟨"java/lang/StringBuilder", "toString", "()Ljava/lang/String;"⟩).before a0 Z = true := cx.1 _ (mg 178 rfl)
theorem w179 (cx : Cx a0 Z gC gF v_AL v_DO k_DO) : (Cond.instanceMethod ⟨"java/lang/StringBuilder", "toString", "()Ljava/lang/String;"⟩).before a0 Z = true := cx.1 _ (mg 179 rfl)
theorem w180 (cx : Cx a0 Z gC gF v_AL v_DO k_DO) : (Cond.selects "java/lang/StringBuilder" ⟨"java/lang/StringBuilder", "toString", "()Ljava/lang/String;"⟩ ⟨"java/lang/StringBuilder", "toString", "()Ljava/lang/String;"⟩).before a0 Z = true := cx.1 _ (mg 180 rfl)
theorem w181 (cx : Cx a0 Z gC gF v_AL v_DO k_DO) : (Cond.code ⟨"java/lang/StringBuilder", "toString", "()Ljava/lang/String;"⟩ jdk_67_method_42_code (1 : Nat) (Option.some (FieldType.object "java/lang/String"))).before a0 Z = true := cx.1 _ (mg 181 rfl)
theorem w182 (cx : Cx a0 Z gC gF v_AL v_DO k_DO) : (Cond.classLink "java/lang/StringBuilder" (18 : Nat) "java/lang/String").before a0 Z = true := cx.1 _ (mg 182 rfl)
theorem w183 (cx : Cx a0 Z gC gF v_AL v_DO k_DO) : (Cond.methodLink "java/lang/StringBuilder" (137 : Nat) ⟨"java/lang/String", "<init>", "(Ljava/lang/StringBuilder;)V"⟩).before a0 Z = true := cx.1 _ (mg 183 rfl)
theorem w184 (cx : Cx a0 Z gC gF v_AL v_DO k_DO) : (Cond.instanceMethod ⟨"java/lang/String", "<init>", "(Ljava/lang/StringBuilder;)V"⟩).before a0 Z = true := cx.1 _ (mg 184 rfl)
theorem w185 (cx : Cx a0 Z gC gF v_AL v_DO k_DO) : (Cond.code ⟨"java/lang/String", "<init>", "(Ljava/lang/StringBuilder;)V"⟩ jdk_42_method_53_code (2 : Nat) (Option.none : Option Jvm.ClassFile.FieldType)).before a0 Z = true := cx.1 _ (mg 185 rfl)
theorem w186 (cx : Cx a0 Z gC gF v_AL v_DO k_DO) : (Cond.methodLink "java/lang/String" (489 : Nat) ⟨"java/lang/String", "<init>", "(Ljava/lang/AbstractStringBuilder;Ljava/lang/Void;)V"⟩).before a0 Z = true := cx.1 _ (mg 186 rfl)
theorem w187 (cx : Cx a0 Z gC gF v_AL v_DO k_DO) : (Cond.instanceMethod ⟨"java/lang/String", "<init>", "(Ljava/lang/AbstractStringBuilder;Ljava/lang/Void;)V"⟩).before a0 Z = true := cx.1 _ (mg 187 rfl)
theorem w188 (cx : Cx a0 Z gC gF v_AL v_DO k_DO) : (Cond.code ⟨"java/lang/String", "<init>", "(Ljava/lang/AbstractStringBuilder;Ljava/lang/Void;)V"⟩ jdk_42_method_150_code (5 : Nat) (Option.none : Option Jvm.ClassFile.FieldType)).before a0 Z = true := cx.1 _ (mg 188 rfl)
theorem w189 (cx : Cx a0 Z gC gF v_AL v_DO k_DO) : (Cond.methodLink "java/lang/String" (552 : Nat) ⟨"java/lang/AbstractStringBuilder", "getValue", "()[B"⟩).before a0 Z = true := cx.1 _ (mg 189 rfl)
theorem w190 (cx : Cx a0 Z gC gF v_AL v_DO k_DO) : (Cond.declares ⟨"java/lang/AbstractStringBuilder", "getValue", "()[B"⟩).before a0 Z = true := cx.1 _ (mg 190 rfl)
theorem w191 (cx : Cx a0 Z gC gF v_AL v_DO k_DO) : (Cond.instanceMethod ⟨"java/lang/AbstractStringBuilder", "getValue", "()[B"⟩).before a0 Z = true := cx.1 _ (mg 191 rfl)
theorem w192 (cx : Cx a0 Z gC gF v_AL v_DO k_DO) : (Cond.selects "java/lang/StringBuilder" ⟨"java/lang/AbstractStringBuilder", "getValue", "()[B"⟩ ⟨"java/lang/AbstractStringBuilder", "getValue", "()[B"⟩).before a0 Z = true := cx.1 _ (mg 192 rfl)
theorem w193 (cx : Cx a0 Z gC gF v_AL v_DO k_DO) : (Cond.code ⟨"java/lang/AbstractStringBuilder", "getValue", "()[B"⟩ jdk_68_method_64_code (1 : Nat) (Option.some (FieldType.array FieldType.byte))).before a0 Z = true := cx.1 _ (mg 193 rfl)
theorem w194 (cx : Cx a0 Z gC gF v_AL v_DO k_DO) : (Cond.methodLink "java/lang/String" (549 : Nat) ⟨"java/lang/AbstractStringBuilder", "length", "()I"⟩).before a0 Z = true := cx.1 _ (mg 194 rfl)
theorem w195 (cx : Cx a0 Z gC gF v_AL v_DO k_DO) : (Cond.declares ⟨"java/lang/AbstractStringBuilder", "length", "()I"⟩).before a0 Z = true := cx.1 _ (mg 195 rfl)
theorem w196 (cx : Cx a0 Z gC gF v_AL v_DO k_DO) : (Cond.instanceMethod ⟨"java/lang/AbstractStringBuilder", "length", "()I"⟩).before a0 Z = true := cx.1 _ (mg 196 rfl)
theorem w197 (cx : Cx a0 Z gC gF v_AL v_DO k_DO) : (Cond.selects "java/lang/StringBuilder" ⟨"java/lang/AbstractStringBuilder", "length", "()I"⟩ ⟨"java/lang/StringBuilder", "length", "()I"⟩).before a0 Z = true := cx.1 _ (mg 197 rfl)
theorem w198 (cx : Cx a0 Z gC gF v_AL v_DO k_DO) : (Cond.instanceMethod ⟨"java/lang/StringBuilder", "length", "()I"⟩).before a0 Z = true := cx.1 _ (mg 198 rfl)
theorem w199 (cx : Cx a0 Z gC gF v_AL v_DO k_DO) : (Cond.code ⟨"java/lang/StringBuilder", "length", "()I"⟩ jdk_67_method_93_code (1 : Nat) (Option.some FieldType.int)).before a0 Z = true := cx.1 _ (mg 199 rfl)
theorem w200 (cx : Cx a0 Z gC gF v_AL v_DO k_DO) : (Cond.methodLink "java/lang/StringBuilder" (343 : Nat) ⟨"java/lang/AbstractStringBuilder", "length", "()I"⟩).before a0 Z = true := cx.1 _ (mg 200 rfl)
theorem w201 (cx : Cx a0 Z gC gF v_AL v_DO k_DO) : (Cond.code ⟨"java/lang/AbstractStringBuilder", "length", "()I"⟩ jdk_68_method_6_code (1 : Nat) (Option.some FieldType.int)).before a0 Z = true := cx.1 _ (mg 201 rfl)
theorem w202 (cx : Cx a0 Z gC gF v_AL v_DO k_DO) : (Cond.methodLink "java/lang/String" (1047 : Nat) ⟨"java/lang/AbstractStringBuilder", "isLatin1", "()Z"⟩).before a0 Z = true := cx.1 _ (mg 202 rfl)
theorem w203 (cx : Cx a0 Z gC gF v_AL v_DO k_DO) : (Cond.methodLink "java/lang/String" (54 : Nat) ⟨"java/util/Arrays", "copyOfRange", "([BII)[B"⟩).before a0 Z = true := cx.1 _ (mg 203 rfl)
theorem w204 (cx : Cx a0 Z gC gF v_AL v_DO k_DO) : (Cond.static ⟨"java/util/Arrays", "copyOfRange", "([BII)[B"⟩).before a0 Z = true := cx.1 _ (mg 204 rfl)
theorem w205 (cx : Cx a0 Z gC gF v_AL v_DO k_DO) : (Cond.initialized "java/util/Arrays").before a0 Z = true := cx.1 _ (mg 205 rfl)
theorem w206 (cx : Cx a0 Z gC gF v_AL v_DO k_DO) : (Cond.code ⟨"java/util/Arrays", "copyOfRange", "([BII)[B"⟩ jdk_65_method_132_code (3 : Nat) (Option.some (FieldType.array FieldType.byte))).before a0 Z = true := cx.1 _ (mg 206 rfl)
theorem w207 (cx : Cx a0 Z gC gF v_AL v_DO k_DO) : (Cond.methodLink "java/util/Arrays" (339 : Nat) ⟨"java/util/Arrays", "copyOfRangeByte", "([BII)[B"⟩).before a0 Z = true := cx.1 _ (mg 207 rfl)
theorem w208 (cx : Cx a0 Z gC gF v_AL v_DO k_DO) : (Cond.static ⟨"java/util/Arrays", "copyOfRangeByte", "([BII)[B"⟩).before a0 Z = true := cx.1 _ (mg 208 rfl)
theorem w209 (cx : Cx a0 Z gC gF v_AL v_DO k_DO) : (Cond.code ⟨"java/util/Arrays", "copyOfRangeByte", "([BII)[B"⟩ jdk_65_method_133_code (5 : Nat) (Option.some (FieldType.array FieldType.byte))).before a0 Z = true := cx.1 _ (mg 209 rfl)
theorem w210 (cx : Cx a0 Z gC gF v_AL v_DO k_DO) : (Cond.methodLink "java/util/Arrays" (343 : Nat) ⟨"java/util/Arrays", "checkLength", "(II)V"⟩).before a0 Z = true := cx.1 _ (mg 210 rfl)
theorem w211 (cx : Cx a0 Z gC gF v_AL v_DO k_DO) : (Cond.static ⟨"java/util/Arrays", "checkLength", "(II)V"⟩).before a0 Z = true := cx.1 _ (mg 211 rfl)
theorem w212 (cx : Cx a0 Z gC gF v_AL v_DO k_DO) : (Cond.code ⟨"java/util/Arrays", "checkLength", "(II)V"⟩ jdk_65_method_131_code (2 : Nat) (Option.none : Option Jvm.ClassFile.FieldType)).before a0 Z = true := cx.1 _ (mg 212 rfl)
theorem w213 (cx : Cx a0 Z gC gF v_AL v_DO k_DO) : (Cond.methodLink "java/util/Arrays" (304 : Nat) ⟨"java/lang/Math", "min", "(II)I"⟩).before a0 Z = true := cx.1 _ (mg 213 rfl)
theorem w214 (cx : Cx a0 Z gC gF v_AL v_DO k_DO) : (Cond.static ⟨"java/lang/Math", "min", "(II)I"⟩).before a0 Z = true := cx.1 _ (mg 214 rfl)
theorem w215 (cx : Cx a0 Z gC gF v_AL v_DO k_DO) : (Cond.initialized "java/lang/Math").before a0 Z = true := cx.1 _ (mg 215 rfl)
theorem w216 (cx : Cx a0 Z gC gF v_AL v_DO k_DO) : (Cond.code ⟨"java/lang/Math", "min", "(II)I"⟩ jdk_29_method_69_code (2 : Nat) (Option.some FieldType.int)).before a0 Z = true := cx.1 _ (mg 216 rfl)
theorem w217 (cx : Cx a0 Z gC gF v_AL v_DO k_DO) : (Cond.methodLink "java/util/Arrays" (150 : Nat) ⟨"java/lang/System", "arraycopy", "(Ljava/lang/Object;ILjava/lang/Object;II)V"⟩).before a0 Z = true := cx.1 _ (mg 217 rfl)
theorem w218 (cx : Cx a0 Z gC gF v_AL v_DO k_DO) : (Cond.fieldLink "com/example/estate4/estate4/jdbc/SelectText" (47 : Nat) "com/example/estate4/estate4/jdbc/SelectText" "first" "Ljava/lang/String;").before a0 Z = true := cx.1 _ (mg 218 rfl)
theorem w219 (cx : Cx a0 Z gC gF v_AL v_DO k_DO) : (Cond.laysFinal "com/example/estate4/estate4/jdbc/SelectText" "com/example/estate4/estate4/jdbc/SelectText" "first" "Ljava/lang/String;").before a0 Z = true := cx.1 _ (mg 219 rfl)
theorem w220 (cx : Cx a0 Z gC gF v_AL v_DO k_DO) : (Cond.methodLink "com/example/estate4/estate4/jdbc/SelectText" (50 : Nat) ⟨"java/lang/StringBuilder", "append", "(Ljava/lang/String;)Ljava/lang/StringBuilder;"⟩).before a0 Z = true := cx.1 _ (mg 220 rfl)
theorem w221 (cx : Cx a0 Z gC gF v_AL v_DO k_DO) : (Cond.methodLink "com/example/estate4/estate4/jdbc/SelectText" (54 : Nat) ⟨"java/lang/StringBuilder", "append", "(C)Ljava/lang/StringBuilder;"⟩).before a0 Z = true := cx.1 _ (mg 221 rfl)
theorem w222 (cx : Cx a0 Z gC gF v_AL v_DO k_DO) : (Cond.declares ⟨"java/lang/StringBuilder", "append", "(C)Ljava/lang/StringBuilder;"⟩).before a0 Z = true := cx.1 _ (mg 222 rfl)
theorem w223 (cx : Cx a0 Z gC gF v_AL v_DO k_DO) : (Cond.instanceMethod ⟨"java/lang/StringBuilder", "append", "(C)Ljava/lang/StringBuilder;"⟩).before a0 Z = true := cx.1 _ (mg 223 rfl)
theorem w224 (cx : Cx a0 Z gC gF v_AL v_DO k_DO) : (Cond.selects "java/lang/StringBuilder" ⟨"java/lang/StringBuilder", "append", "(C)Ljava/lang/StringBuilder;"⟩ ⟨"java/lang/StringBuilder", "append", "(C)Ljava/lang/StringBuilder;"⟩).before a0 Z = true := cx.1 _ (mg 224 rfl)
theorem w225 (cx : Cx a0 Z gC gF v_AL v_DO k_DO) : (Cond.code ⟨"java/lang/StringBuilder", "append", "(C)Ljava/lang/StringBuilder;"⟩ jdk_67_method_14_code (2 : Nat) (Option.some (FieldType.object "java/lang/StringBuilder"))).before a0 Z = true := cx.1 _ (mg 225 rfl)
theorem w226 (cx : Cx a0 Z gC gF v_AL v_DO k_DO) : (Cond.methodLink "java/lang/StringBuilder" (50 : Nat) ⟨"java/lang/AbstractStringBuilder", "append", "(C)Ljava/lang/AbstractStringBuilder;"⟩).before a0 Z = true := cx.1 _ (mg 226 rfl)
theorem w227 (cx : Cx a0 Z gC gF v_AL v_DO k_DO) : (Cond.instanceMethod ⟨"java/lang/AbstractStringBuilder", "append", "(C)Ljava/lang/AbstractStringBuilder;"⟩).before a0 Z = true := cx.1 _ (mg 227 rfl)
theorem w229 (cx : Cx a0 Z gC gF v_AL v_DO k_DO) : (Cond.code ⟨"java/lang/AbstractStringBuilder", "append", "(C)Ljava/lang/AbstractStringBuilder;"⟩ jdk_68_method_31_code (2 : Nat) (Option.some (FieldType.object "java/lang/AbstractStringBuilder"))).before a0 Z = true := cx.1 _ (mg 229 rfl)
theorem w230 (cx : Cx a0 Z gC gF v_AL v_DO k_DO) : (Cond.methodLink "java/lang/AbstractStringBuilder" (191 : Nat) ⟨"java/lang/StringLatin1", "canEncode", "(C)Z"⟩).before a0 Z = true := cx.1 _ (mg 230 rfl)
theorem w231 (cx : Cx a0 Z gC gF v_AL v_DO k_DO) : (Cond.static ⟨"java/lang/StringLatin1", "canEncode", "(C)Z"⟩).before a0 Z = true := cx.1 _ (mg 231 rfl)
theorem w232 (cx : Cx a0 Z gC gF v_AL v_DO k_DO) : (Cond.initialized "java/lang/StringLatin1").before a0 Z = true := cx.1 _ (mg 232 rfl)
theorem w233 (cx : Cx a0 Z gC gF v_AL v_DO k_DO) : (Cond.code ⟨"java/lang/StringLatin1", "canEncode", "(C)Z"⟩ jdk_43_method_3_code (1 : Nat) (Option.some FieldType.boolean)).before a0 Z = true := cx.1 _ (mg 233 rfl)
theorem w234 (cx : Cx a0 Z gC gF v_AL v_DO k_DO) : (Cond.methodLink "com/example/estate4/estate4/jdbc/SelectTextExistsPinLaw" (20 : Nat) ⟨"java/lang/String", "valueOf", "(C)Ljava/lang/String;"⟩).before a0 Z = true := cx.1 _ (mg 234 rfl)
theorem w235 (cx : Cx a0 Z gC gF v_AL v_DO k_DO) : (Cond.static ⟨"java/lang/String", "valueOf", "(C)Ljava/lang/String;"⟩).before a0 Z = true := cx.1 _ (mg 235 rfl)
theorem w236 (cx : Cx a0 Z gC gF v_AL v_DO k_DO) : (Cond.code ⟨"java/lang/String", "valueOf", "(C)Ljava/lang/String;"⟩ jdk_42_method_139_code (1 : Nat) (Option.some (FieldType.object "java/lang/String"))).before a0 Z = true := cx.1 _ (mg 236 rfl)
theorem w237 (cx : Cx a0 Z gC gF v_AL v_DO k_DO) : (Cond.methodLink "java/lang/String" (1015 : Nat) ⟨"java/lang/StringLatin1", "canEncode", "(C)Z"⟩).before a0 Z = true := cx.1 _ (mg 237 rfl)
theorem w238 (cx : Cx a0 Z gC gF v_AL v_DO k_DO) : (Cond.classLink "java/lang/String" (10 : Nat) "java/lang/String").before a0 Z = true := cx.1 _ (mg 238 rfl)
theorem w239 (cx : Cx a0 Z gC gF v_AL v_DO k_DO) : (Cond.methodLink "java/lang/String" (1018 : Nat) ⟨"java/lang/StringLatin1", "toBytes", "(C)[B"⟩).before a0 Z = true := cx.1 _ (mg 239 rfl)
theorem w240 (cx : Cx a0 Z gC gF v_AL v_DO k_DO) : (Cond.static ⟨"java/lang/StringLatin1", "toBytes", "(C)[B"⟩).before a0 Z = true := cx.1 _ (mg 240 rfl)
theorem w241 (cx : Cx a0 Z gC gF v_AL v_DO k_DO) : (Cond.code ⟨"java/lang/StringLatin1", "toBytes", "(C)[B"⟩ jdk_43_method_46_code (1 : Nat) (Option.some (FieldType.array FieldType.byte))).before a0 Z = true := cx.1 _ (mg 241 rfl)
theorem w242 (cx : Cx a0 Z gC gF v_AL v_DO k_DO) : (Cond.methodLink "java/lang/String" (209 : Nat) ⟨"java/lang/String", "<init>", "([BB)V"⟩).before a0 Z = true := cx.1 _ (mg 242 rfl)
theorem w243 (cx : Cx a0 Z gC gF v_AL v_DO k_DO) : (Cond.instanceMethod ⟨"java/lang/String", "<init>", "([BB)V"⟩).before a0 Z = true := cx.1 _ (mg 243 rfl)
theorem w244 (cx : Cx a0 Z gC gF v_AL v_DO k_DO) : (Cond.code ⟨"java/lang/String", "<init>", "([BB)V"⟩ jdk_42_method_151_code (3 : Nat) (Option.none : Option Jvm.ClassFile.FieldType)).before a0 Z = true := cx.1 _ (mg 244 rfl)
theorem w245 (cx : Cx a0 Z gC gF v_AL v_DO k_DO) : (Cond.methodLink "com/example/estate4/estate4/jdbc/SelectTextExistsPinLaw" (31 : Nat) ⟨"com/example/estate4/estate4/jdbc/SelectText", "crossJoin", "(Ljava/lang/String;)Ljava/lang/String;"⟩).before a0 Z = true := cx.1 _ (mg 245 rfl)
theorem w246 (cx : Cx a0 Z gC gF v_AL v_DO k_DO) : (Cond.declares ⟨"com/example/estate4/estate4/jdbc/SelectText", "crossJoin", "(Ljava/lang/String;)Ljava/lang/String;"⟩).before a0 Z = true := cx.1 _ (mg 246 rfl)
theorem w247 (cx : Cx a0 Z gC gF v_AL v_DO k_DO) : (Cond.instanceMethod ⟨"com/example/estate4/estate4/jdbc/SelectText", "crossJoin", "(Ljava/lang/String;)Ljava/lang/String;"⟩).before a0 Z = true := cx.1 _ (mg 247 rfl)
theorem w248 (cx : Cx a0 Z gC gF v_AL v_DO k_DO) : (Cond.selects "com/example/estate4/estate4/jdbc/SelectText" ⟨"com/example/estate4/estate4/jdbc/SelectText", "crossJoin", "(Ljava/lang/String;)Ljava/lang/String;"⟩ ⟨"com/example/estate4/estate4/jdbc/SelectText", "crossJoin", "(Ljava/lang/String;)Ljava/lang/String;"⟩).before a0 Z = true := cx.1 _ (mg 248 rfl)
theorem w249 (cx : Cx a0 Z gC gF v_AL v_DO k_DO) : (Cond.code ⟨"com/example/estate4/estate4/jdbc/SelectText", "crossJoin", "(Ljava/lang/String;)Ljava/lang/String;"⟩ prog_6_method_11_code (3 : Nat) (Option.some (FieldType.object "java/lang/String"))).before a0 Z = true := cx.1 _ (mg 249 rfl)
theorem w250 (cx : Cx a0 Z gC gF v_AL v_DO k_DO) : (Cond.fieldLink "com/example/estate4/estate4/jdbc/SelectText" (80 : Nat) "com/example/estate4/estate4/jdbc/SelectText" "joins" "Z").before a0 Z = true := cx.1 _ (mg 250 rfl)
theorem w251 (cx : Cx a0 Z gC gF v_AL v_DO k_DO) : (Cond.lays "com/example/estate4/estate4/jdbc/SelectText" "com/example/estate4/estate4/jdbc/SelectText" "joins" "Z").before a0 Z = true := cx.1 _ (mg 251 rfl)
theorem w252 (cx : Cx a0 Z gC gF v_AL v_DO k_DO) : (Cond.stringLink "com/example/estate4/estate4/jdbc/SelectText" (100 : Nat) (txt 252)).before a0 Z = true := cx.1 _ (mg 252 rfl)
theorem w253 (cx : Cx a0 Z gC gF v_AL v_DO k_DO) : (Cond.methodLink "java/lang/AbstractStringBuilder" (104 : Nat) ⟨"java/lang/AbstractStringBuilder", "newCapacity", "(I)I"⟩).before a0 Z = true := cx.1 _ (mg 253 rfl)
theorem w254 (cx : Cx a0 Z gC gF v_AL v_DO k_DO) : (Cond.instanceMethod ⟨"java/lang/AbstractStringBuilder", "newCapacity", "(I)I"⟩).before a0 Z = true := cx.1 _ (mg 254 rfl)
theorem w256 (cx : Cx a0 Z gC gF v_AL v_DO k_DO) : (Cond.selects "java/lang/StringBuilder" ⟨"java/lang/AbstractStringBuilder", "newCapacity", "(I)I"⟩ ⟨"java/lang/AbstractStringBuilder", "newCapacity", "(I)I"⟩).before a0 Z = true := cx.1 _ (mg 256 rfl)
theorem w257 (cx : Cx a0 Z gC gF v_AL v_DO k_DO) : (Cond.code ⟨"java/lang/AbstractStringBuilder", "newCapacity", "(I)I"⟩ jdk_68_method_10_code (6 : Nat) (Option.some FieldType.int)).before a0 Z = true := cx.1 _ (mg 257 rfl)
theorem w258 (cx : Cx a0 Z gC gF v_AL v_DO k_DO) : (Cond.methodLink "java/lang/AbstractStringBuilder" (114 : Nat) ⟨"jdk/internal/util/ArraysSupport", "newLength", "(III)I"⟩).before a0 Z = true := cx.1 _ (mg 258 rfl)
theorem w259 (cx : Cx a0 Z gC gF v_AL v_DO k_DO) : (Cond.static ⟨"jdk/internal/util/ArraysSupport", "newLength", "(III)I"⟩).before a0 Z = true := cx.1 _ (mg 259 rfl)
theorem w260 (cx : Cx a0 Z gC gF v_AL v_DO k_DO) : (Cond.initialized "jdk/internal/util/ArraysSupport").before a0 Z = true := cx.1 _ (mg 260 rfl)
theorem w261 (cx : Cx a0 Z gC gF v_AL v_DO k_DO) : (Cond.code ⟨"jdk/internal/util/ArraysSupport", "newLength", "(III)I"⟩ jdk_48_method_27_code (4 : Nat) (Option.some FieldType.int)).before a0 Z = true := cx.1 _ (mg 261 rfl)
theorem w262 (cx : Cx a0 Z gC gF v_AL v_DO k_DO) : (Cond.methodLink "jdk/internal/util/ArraysSupport" (194 : Nat) ⟨"java/lang/Math", "max", "(II)I"⟩).before a0 Z = true := cx.1 _ (mg 262 rfl)
theorem w263 (cx : Cx a0 Z gC gF v_AL v_DO k_DO) : (Cond.static ⟨"java/lang/Math", "max", "(II)I"⟩).before a0 Z = true := cx.1 _ (mg 263 rfl)
theorem w264 (cx : Cx a0 Z gC gF v_AL v_DO k_DO) : (Cond.code ⟨"java/lang/Math", "max", "(II)I"⟩ jdk_29_method_65_code (2 : Nat) (Option.some FieldType.int)).before a0 Z = true := cx.1 _ (mg 264 rfl)
theorem w265 (cx : Cx a0 Z gC gF v_AL v_DO k_DO) : (Cond.constant "jdk/internal/util/ArraysSupport" (200 : Nat) (2147483639 : Int32)).before a0 Z = true := cx.1 _ (mg 265 rfl)
theorem w266 (cx : Cx a0 Z gC gF v_AL v_DO k_DO) : (Cond.constant "java/lang/AbstractStringBuilder" (39 : Nat) (2147483647 : Int32)).before a0 Z = true := cx.1 _ (mg 266 rfl)
theorem w267 (cx : Cx a0 Z gC gF v_AL v_DO k_DO) : (Cond.methodLink "java/lang/AbstractStringBuilder" (108 : Nat) ⟨"java/util/Arrays", "copyOf", "([BI)[B"⟩).before a0 Z = true := cx.1 _ (mg 267 rfl)
theorem w268 (cx : Cx a0 Z gC gF v_AL v_DO k_DO) : (Cond.static ⟨"java/util/Arrays", "copyOf", "([BI)[B"⟩).before a0 Z = true := cx.1 _ (mg 268 rfl)
theorem w269 (cx : Cx a0 Z gC gF v_AL v_DO k_DO) : (Cond.code ⟨"java/util/Arrays", "copyOf", "([BI)[B"⟩ jdk_65_method_121_code (3 : Nat) (Option.some (FieldType.array FieldType.byte))).before a0 Z = true := cx.1 _ (mg 269 rfl)
theorem w270 (cx : Cx a0 Z gC gF v_AL v_DO k_DO) : (Cond.methodLink "com/example/estate4/estate4/jdbc/SelectTextExistsPinLaw" (35 : Nat) ⟨"com/example/estate4/estate4/jdbc/SelectText", "exists", "(Ljava/lang/String;)Ljava/lang/String;"⟩).before a0 Z = true := cx.1 _ (mg 270 rfl)
theorem w271 (cx : Cx a0 Z gC gF v_AL v_DO k_DO) : (Cond.declares ⟨"com/example/estate4/estate4/jdbc/SelectText", "exists", "(Ljava/lang/String;)Ljava/lang/String;"⟩).before a0 Z = true := cx.1 _ (mg 271 rfl)
theorem w272 (cx : Cx a0 Z gC gF v_AL v_DO k_DO) : (Cond.instanceMethod ⟨"com/example/estate4/estate4/jdbc/SelectText", "exists", "(Ljava/lang/String;)Ljava/lang/String;"⟩).before a0 Z = true := cx.1 _ (mg 272 rfl)
theorem w273 (cx : Cx a0 Z gC gF v_AL v_DO k_DO) : (Cond.selects "com/example/estate4/estate4/jdbc/SelectText" ⟨"com/example/estate4/estate4/jdbc/SelectText", "exists", "(Ljava/lang/String;)Ljava/lang/String;"⟩ ⟨"com/example/estate4/estate4/jdbc/SelectText", "exists", "(Ljava/lang/String;)Ljava/lang/String;"⟩).before a0 Z = true := cx.1 _ (mg 273 rfl)
theorem w274 (cx : Cx a0 Z gC gF v_AL v_DO k_DO) : (Cond.code ⟨"com/example/estate4/estate4/jdbc/SelectText", "exists", "(Ljava/lang/String;)Ljava/lang/String;"⟩ prog_6_method_22_code (2 : Nat) (Option.some (FieldType.object "java/lang/String"))).before a0 Z = true := cx.1 _ (mg 274 rfl)
theorem w275 (cx : Cx a0 Z gC gF v_AL v_DO k_DO) : (Cond.stringLink "com/example/estate4/estate4/jdbc/SelectText" (194 : Nat) (txt 275)).before a0 Z = true := cx.1 _ (mg 275 rfl)
theorem w276 (cx : Cx a0 Z gC gF v_AL v_DO k_DO) : (Cond.methodLink "com/example/estate4/estate4/jdbc/SelectText" (185 : Nat) ⟨"java/lang/StringBuilder", "append", "(Ljava/lang/Object;)Ljava/lang/StringBuilder;"⟩).before a0 Z = true := cx.1 _ (mg 276 rfl)
theorem w277 (cx : Cx a0 Z gC gF v_AL v_DO k_DO) : (Cond.declares ⟨"java/lang/StringBuilder", "append", "(Ljava/lang/Object;)Ljava/lang/StringBuilder;"⟩).before a0 Z = true := cx.1 _ (mg 277 rfl)
theorem w278 (cx : Cx a0 Z gC gF v_AL v_DO k_DO) : (Cond.instanceMethod ⟨"java/lang/StringBuilder", "append", "(Ljava/lang/Object;)Ljava/lang/StringBuilder;"⟩).before a0 Z = true := cx.1 _ (mg 278 rfl)
theorem w279 (cx : Cx a0 Z gC gF v_AL v_DO k_DO) : (Cond.selects "java/lang/StringBuilder" ⟨"java/lang/StringBuilder", "append", "(Ljava/lang/Object;)Ljava/lang/StringBuilder;"⟩ ⟨"java/lang/StringBuilder", "append", "(Ljava/lang/Object;)Ljava/lang/StringBuilder;"⟩).before a0 Z = true := cx.1 _ (mg 279 rfl)
theorem w280 (cx : Cx a0 Z gC gF v_AL v_DO k_DO) : (Cond.code ⟨"java/lang/StringBuilder", "append", "(Ljava/lang/Object;)Ljava/lang/StringBuilder;"⟩ jdk_67_method_6_code (2 : Nat) (Option.some (FieldType.object "java/lang/StringBuilder"))).before a0 Z = true := cx.1 _ (mg 280 rfl)
theorem w281 (cx : Cx a0 Z gC gF v_AL v_DO k_DO) : (Cond.methodLink "java/lang/StringBuilder" (17 : Nat) ⟨"java/lang/String", "valueOf", "(Ljava/lang/Object;)Ljava/lang/String;"⟩).before a0 Z = true := cx.1 _ (mg 281 rfl)
theorem w282 (cx : Cx a0 Z gC gF v_AL v_DO k_DO) : (Cond.static ⟨"java/lang/String", "valueOf", "(Ljava/lang/Object;)Ljava/lang/String;"⟩).before a0 Z = true := cx.1 _ (mg 282 rfl)
theorem w283 (cx : Cx a0 Z gC gF v_AL v_DO k_DO) : (Cond.code ⟨"java/lang/String", "valueOf", "(Ljava/lang/Object;)Ljava/lang/String;"⟩ jdk_42_method_133_code (1 : Nat) (Option.some (FieldType.object "java/lang/String"))).before a0 Z = true := cx.1 _ (mg 283 rfl)
theorem w284 (cx : Cx a0 Z gC gF v_AL v_DO k_DO) : (Cond.methodLink "java/lang/String" (1007 : Nat) ⟨"java/lang/Object", "toString", "()Ljava/lang/String;"⟩).before a0 Z = true := cx.1 _ (mg 284 rfl)
theorem w285 (cx : Cx a0 Z gC gF v_AL v_DO k_DO) : (Cond.declares ⟨"java/lang/Object", "toString", "()Ljava/lang/String;"⟩).before a0 Z = true := cx.1 _ (mg 285 rfl)
theorem w287 (cx : Cx a0 Z gC gF v_AL v_DO k_DO) : (Cond.selects "java/lang/StringBuilder" ⟨"java/lang/Object", "toString", "()Ljava/lang/String;"⟩ ⟨"java/lang/StringBuilder", "toString", "()Ljava/lang/String;"⟩).before a0 Z = true := cx.1 _ (mg 287 rfl)
theorem w288 (cx : Cx a0 Z gC gF v_AL v_DO k_DO) : (Cond.methodLink "java/lang/StringBuilder" (23 : Nat) ⟨"java/lang/StringBuilder", "append", "(Ljava/lang/String;)Ljava/lang/StringBuilder;"⟩).before a0 Z = true := cx.1 _ (mg 288 rfl)
theorem w289 (cx : Cx a0 Z gC gF v_AL v_DO k_DO) : (Cond.stringLink "com/example/estate4/estate4/jdbc/SelectText" (142 : Nat) (txt 289)).before a0 Z = true := cx.1 _ (mg 289 rfl)
theorem w290 (cx : Cx a0 Z gC gF v_AL v_DO k_DO) : (Cond.stringLink "com/example/estate4/estate4/jdbc/SelectText" (192 : Nat) (txt 290)).before a0 Z = true := cx.1 _ (mg 290 rfl)
theorem w291 (cx : Cx a0 Z gC gF v_AL v_DO k_DO) : (Cond.methodLink "com/example/estate4/estate4/jdbc/SelectText" (97 : Nat) ⟨"java/lang/StringBuilder", "toString", "()Ljava/lang/String;"⟩).before a0 Z = true := cx.1 _ (mg 291 rfl)
theorem w302 (cx : Cx a0 Z gC gF v_AL v_DO k_DO) : (Cond.methodLink "com/example/estate4/estate4/jdbc/SelectTextExistsPinLaw" (38 : Nat) ⟨"java/lang/String", "equals", "(Ljava/lang/Object;)Z"⟩).before a0 Z = true := cx.1 _ (mg 302 rfl)
theorem w303 (cx : Cx a0 Z gC gF v_AL v_DO k_DO) : (Cond.declares ⟨"java/lang/String", "equals", "(Ljava/lang/Object;)Z"⟩).before a0 Z = true := cx.1 _ (mg 303 rfl)
theorem w304 (cx : Cx a0 Z gC gF v_AL v_DO k_DO) : (Cond.instanceMethod ⟨"java/lang/String", "equals", "(Ljava/lang/Object;)Z"⟩).before a0 Z = true := cx.1 _ (mg 304 rfl)
theorem w305 (cx : Cx a0 Z gC gF v_AL v_DO k_DO) : (Cond.selects "java/lang/String" ⟨"java/lang/String", "equals", "(Ljava/lang/Object;)Z"⟩ ⟨"java/lang/String", "equals", "(Ljava/lang/Object;)Z"⟩).before a0 Z = true := cx.1 _ (mg 305 rfl)
theorem w310 (cx : Cx a0 Z gC gF v_AL v_DO k_DO) : (Cond.methodLink "com/example/estate4/estate4/jdbc/SelectTextExistsPinLaw" (27 : Nat) ⟨"com/example/estate4/estate4/jdbc/SelectText", "subselect", "(Ljava/lang/String;)Lcom/example/estate4/estate4/jdbc/SelectText;"⟩).before a0 Z = true := cx.1 _ (mg 310 rfl)
theorem w311 (cx : Cx a0 Z gC gF v_AL v_DO k_DO) : (Cond.declares ⟨"com/example/estate4/estate4/jdbc/SelectText", "subselect", "(Ljava/lang/String;)Lcom/example/estate4/estate4/jdbc/SelectText;"⟩).before a0 Z = true := cx.1 _ (mg 311 rfl)
theorem w312 (cx : Cx a0 Z gC gF v_AL v_DO k_DO) : (Cond.instanceMethod ⟨"com/example/estate4/estate4/jdbc/SelectText", "subselect", "(Ljava/lang/String;)Lcom/example/estate4/estate4/jdbc/SelectText;"⟩).before a0 Z = true := cx.1 _ (mg 312 rfl)
theorem w313 (cx : Cx a0 Z gC gF v_AL v_DO k_DO) : (Cond.selects "com/example/estate4/estate4/jdbc/SelectText" ⟨"com/example/estate4/estate4/jdbc/SelectText", "subselect", "(Ljava/lang/String;)Lcom/example/estate4/estate4/jdbc/SelectText;"⟩ ⟨"com/example/estate4/estate4/jdbc/SelectText", "subselect", "(Ljava/lang/String;)Lcom/example/estate4/estate4/jdbc/SelectText;"⟩).before a0 Z = true := cx.1 _ (mg 313 rfl)
theorem w314 (cx : Cx a0 Z gC gF v_AL v_DO k_DO) : (Cond.code ⟨"com/example/estate4/estate4/jdbc/SelectText", "subselect", "(Ljava/lang/String;)Lcom/example/estate4/estate4/jdbc/SelectText;"⟩ prog_6_method_3_code (2 : Nat) (Option.some (FieldType.object "com/example/estate4/estate4/jdbc/SelectText"))).before a0 Z = true := cx.1 _ (mg 314 rfl)
theorem w315 (cx : Cx a0 Z gC gF v_AL v_DO k_DO) : (Cond.classLink "com/example/estate4/estate4/jdbc/SelectText" (8 : Nat) "com/example/estate4/estate4/jdbc/SelectText").before a0 Z = true := cx.1 _ (mg 315 rfl)
theorem w316 (cx : Cx a0 Z gC gF v_AL v_DO k_DO) : (Cond.methodLink "java/util/Arrays" (310 : Nat) ⟨"[B", "clone", "()Ljava/lang/Object;"⟩).before a0 Z = true := cx.1 _ (mg 316 rfl)
theorem w317 (cx : Cx a0 Z gC gF v_AL v_DO k_DO) : (Cond.sameMethod "[B" "java/lang/Object" "clone" "()Ljava/lang/Object;").before a0 Z = true := cx.1 _ (mg 317 rfl)
theorem w319 (cx : Cx a0 Z gC gF v_AL v_DO k_DO) : (Cond.instanceMethod ⟨"java/lang/Object", "clone", "()Ljava/lang/Object;"⟩).before a0 Z = true := cx.1 _ (mg 319 rfl)
theorem w320 (cx : Cx a0 Z gC gF v_AL v_DO k_DO) : (Cond.selects "[B" ⟨"[B", "clone", "()Ljava/lang/Object;"⟩ ⟨"java/lang/Object", "clone", "()Ljava/lang/Object;"⟩).before a0 Z = true := cx.1 _ (mg 320 rfl)
theorem w321 (cx : Cx a0 Z gC gF v_AL v_DO k_DO) : (Cond.native ⟨"java/lang/Object", "clone", "()Ljava/lang/Object;"⟩).before a0 Z = true := cx.1 _ (mg 321 rfl)
theorem w322 (cx : Cx a0 Z gC gF v_AL v_DO k_DO) : (Cond.castable "[B" "java/lang/Cloneable").before a0 Z = true := cx.1 _ (mg 322 rfl)
theorem w323 (cx : Cx a0 Z gC gF v_AL v_DO k_DO) : (Cond.classLink "java/util/Arrays" (311 : Nat) "[B").before a0 Z = true := cx.1 _ (mg 323 rfl)
theorem S_C {Z : State} {a0 : Array Value} {gC : Int32} {gF : Value} {v_AL : Addr} {v_DO : Addr} {k_DO : ClassId} (cx : Cx a0 Z gC gF v_AL v_DO k_DO) : Sta Z Z.heap "java/lang/String" "COMPACT_STRINGS" "Z" (.int gC) := cx.2.1
theorem N_C {Z : State} {a0 : Array Value} {gC : Int32} {gF : Value} {v_AL : Addr} {v_DO : Addr} {k_DO : ClassId} (cx : Cx a0 Z gC gF v_AL v_DO k_DO) : ¬ gC = (0 : Int32) := cx.2.2.1
theorem S_F {Z : State} {a0 : Array Value} {gC : Int32} {gF : Value} {v_AL : Addr} {v_DO : Addr} {k_DO : ClassId} (cx : Cx a0 Z gC gF v_AL v_DO k_DO) : Sta Z Z.heap "jdk/internal/util/Preconditions" "SIOOBE_FORMATTER" "Ljava/util/function/BiFunction;" gF := cx.2.2.2.1
theorem R_F {Z : State} {a0 : Array Value} {gC : Int32} {gF : Value} {v_AL : Addr} {v_DO : Addr} {k_DO : ClassId} (cx : Cx a0 Z gC gF v_AL v_DO k_DO) : gF.isRef = true := cx.2.2.2.2.1
theorem S_AL {Z : State} {a0 : Array Value} {gC : Int32} {gF : Value} {v_AL : Addr} {v_DO : Addr} {k_DO : ClassId} (cx : Cx a0 Z gC gF v_AL v_DO k_DO) : Sta Z Z.heap "java/util/ArrayList" "DEFAULTCAPACITY_EMPTY_ELEMENTDATA" "[Ljava/lang/Object;" (.ref v_AL) := cx.2.2.2.2.2.1
theorem E_AL {Z : State} {a0 : Array Value} {gC : Int32} {gF : Value} {v_AL : Addr} {v_DO : Addr} {k_DO : ClassId} (cx : Cx a0 Z gC gF v_AL v_DO k_DO) : Exa Z Z.heap v_AL "[Ljava/lang/Object;" := cx.2.2.2.2.2.2.1
theorem S_DO {Z : State} {a0 : Array Value} {gC : Int32} {gF : Value} {v_AL : Addr} {v_DO : Addr} {k_DO : ClassId} (cx : Cx a0 Z gC gF v_AL v_DO k_DO) : Sta Z Z.heap "java/lang/Integer" "DigitOnes" "[B" (.ref v_DO) := cx.2.2.2.2.2.2.2.1
theorem E_DO {Z : State} {a0 : Array Value} {gC : Int32} {gF : Value} {v_AL : Addr} {v_DO : Addr} {k_DO : ClassId} (cx : Cx a0 Z gC gF v_AL v_DO k_DO) : Exa Z Z.heap v_DO "[B" := cx.2.2.2.2.2.2.2.2.1
theorem A_DO {Z : State} {a0 : Array Value} {gC : Int32} {gF : Value} {v_AL : Addr} {v_DO : Addr} {k_DO : ClassId} (cx : Cx a0 Z gC gF v_AL v_DO k_DO) : Arv Z Z.heap v_DO k_DO .byte (100 : Int32) digO (.int 0) := cx.2.2.2.2.2.2.2.2.2
theorem hws {Z : State} {a0 : Array Value} {gC : Int32} {gF : Value} {v_AL : Addr} {v_DO : Addr} {k_DO : ClassId} (cx : Cx a0 Z gC gF v_AL v_DO k_DO) : ∀ d ∈ StrChars.Road.words, d.before a0 Z = true := fun d hd => cx.1 d ((by decide +kernel : ∀ d ∈ StrChars.Road.words, d ∈ tables_1) d hd)
theorem hln {Z : State} {a0 : Array Value} {gC : Int32} {gF : Value} {v_AL : Addr} {v_DO : Addr} {k_DO : ClassId} (cx : Cx a0 Z gC gF v_AL v_DO k_DO) : ∀ d ∈ StrChars.Road.wordsLen, d.before a0 Z = true := fun d hd => cx.1 d ((by decide +kernel : ∀ d ∈ StrChars.Road.wordsLen, d ∈ tables_1) d hd)
theorem heq {Z : State} {a0 : Array Value} {gC : Int32} {gF : Value} {v_AL : Addr} {v_DO : Addr} {k_DO : ClassId} (cx : Cx a0 Z gC gF v_AL v_DO k_DO) : ∀ d ∈ StrChars.Road.wordsEq, d.before a0 Z = true := fun d hd => cx.1 d ((by decide +kernel : ∀ d ∈ StrChars.Road.wordsEq, d ∈ tables_1) d hd)
theorem strAtoms {Z : State} {a0 : Array Value} {gC : Int32} {gF : Value} {v_AL : Addr} {v_DO : Addr} {k_DO : ClassId} (cx : Cx a0 Z gC gF v_AL v_DO k_DO) : ∀ d ∈ Bundle.stringAtoms, d.before a0 Z = true := fun d hd => cx.1 d ((by decide +kernel : ∀ d ∈ Bundle.stringAtoms, d ∈ tables_1) d hd)
theorem pn0 : plainName "java/lang/String" = true := by first | (simp [plainName, overriddenIn]; done) | decide +kernel
theorem pn1 : plainName "java/lang/AbstractStringBuilder" = true := by first | (simp [plainName, overriddenIn]; done) | decide +kernel
theorem pn2 : plainName "jdk/internal/util/ArraysSupport" = true := by first | (simp [plainName, overriddenIn]; done) | decide +kernel
theorem pn3 : plainName "java/util/Arrays" = true := by first | (simp [plainName, overriddenIn]; done) | decide +kernel
theorem pn4 : plainName "java/lang/StringBuilder" = true := by first | (simp [plainName, overriddenIn]; done) | decide +kernel
theorem pn5 : plainName "java/lang/StringLatin1" = true := by first | (simp [plainName, overriddenIn]; done) | decide +kernel
theorem pn6 : plainName "java/lang/Integer" = true := by first | (simp [plainName, overriddenIn]; done) | decide +kernel
theorem pn7 : plainName "java/util/AbstractCollection" = true := by first | (simp [plainName, overriddenIn]; done) | decide +kernel
theorem pn8 : plainName "java/util/AbstractList" = true := by first | (simp [plainName, overriddenIn]; done) | decide +kernel
theorem pn9 : plainName "java/util/ArrayList" = true := by first | (simp [plainName, overriddenIn]; done) | decide +kernel
theorem pn10 : plainName "com/example/estate4/estate4/jdbc/SelectText$Aliases" = true := by first | (simp [plainName, overriddenIn]; done) | decide +kernel
theorem pn11 : plainName "com/example/estate4/estate4/jdbc/SelectText" = true := by first | (simp [plainName, overriddenIn]; done) | decide +kernel
theorem pn12 : plainName "com/example/estate4/estate4/jdbc/SelectTextExistsPinLaw" = true := by first | (simp [plainName, overriddenIn]; done) | decide +kernel
theorem d1_0 : D J1 0 (.iload_n 0) 1 := by decide +kernel
theorem d1_1 : D J1 1 (.ifCond .ne 14) 3 := by decide +kernel
theorem d1_4 : D J1 4 (.new 7) 3 := by decide +kernel
theorem d1_7 : D J1 7 (.dup) 1 := by decide +kernel
theorem d1_8 : D J1 8 (.iconst 0) 1 := by decide +kernel
theorem d1_9 : D J1 9 (.newarray .char) 2 := by decide +kernel
theorem d1_11 : D J1 11 (.invokespecial 9) 3 := by decide +kernel
theorem d1_14 : D J1 14 (.areturn) 1 := by decide +kernel
theorem d1_15 : D J1 15 (.iload_n 0) 1 := by decide +kernel
theorem d1_16 : D J1 16 (.iconst 1) 1 := by decide +kernel
theorem d1_17 : D J1 17 (.if_icmp .ne 18) 3 := by decide +kernel
theorem d1_20 : D J1 20 (.new 7) 3 := by decide +kernel
theorem d1_23 : D J1 23 (.dup) 1 := by decide +kernel
theorem d1_24 : D J1 24 (.iconst 1) 1 := by decide +kernel
theorem d1_25 : D J1 25 (.newarray .char) 2 := by decide +kernel
theorem d1_27 : D J1 27 (.dup) 1 := by decide +kernel
theorem d1_28 : D J1 28 (.iconst 0) 1 := by decide +kernel
theorem d1_29 : D J1 29 (.iload_n 1) 1 := by decide +kernel
theorem d1_30 : D J1 30 (.castore) 1 := by decide +kernel
theorem d1_31 : D J1 31 (.invokespecial 9) 3 := by decide +kernel
theorem d1_34 : D J1 34 (.areturn) 1 := by decide +kernel
theorem d1_35 : D J1 35 (.new 7) 3 := by decide +kernel
theorem d1_38 : D J1 38 (.dup) 1 := by decide +kernel
theorem d1_39 : D J1 39 (.iconst 2) 1 := by decide +kernel
theorem d1_40 : D J1 40 (.newarray .char) 2 := by decide +kernel
theorem d1_42 : D J1 42 (.dup) 1 := by decide +kernel
theorem d1_43 : D J1 43 (.iconst 0) 1 := by decide +kernel
theorem d1_44 : D J1 44 (.iload_n 1) 1 := by decide +kernel
theorem d1_45 : D J1 45 (.castore) 1 := by decide +kernel
theorem d1_46 : D J1 46 (.dup) 1 := by decide +kernel
theorem d1_47 : D J1 47 (.iconst 1) 1 := by decide +kernel
theorem d1_48 : D J1 48 (.iload_n 2) 1 := by decide +kernel
theorem d1_49 : D J1 49 (.castore) 1 := by decide +kernel
theorem d1_50 : D J1 50 (.invokespecial 9) 3 := by decide +kernel
theorem d1_53 : D J1 53 (.areturn) 1 := by decide +kernel
theorem d2_0 : D J2 0 (.aload_n 0) 1 := by decide +kernel
theorem d2_1 : D J2 1 (.aload_n 1) 1 := by decide +kernel
theorem d2_2 : D J2 2 (.iconst 0) 1 := by decide +kernel
theorem d2_3 : D J2 3 (.aload_n 1) 1 := by decide +kernel
theorem d2_4 : D J2 4 (.arraylength) 1 := by decide +kernel
theorem d2_5 : D J2 5 (.aconst_null) 1 := by decide +kernel
theorem d2_6 : D J2 6 (.invokespecial 27) 3 := by decide +kernel
theorem d2_9 : D J2 9 (.return_) 1 := by decide +kernel
theorem d3_0 : D J3 0 (.aload_n 0) 1 := by decide +kernel
theorem d3_1 : D J3 1 (.invokespecial 1) 3 := by decide +kernel
theorem d3_4 : D J3 4 (.iload_n 3) 1 := by decide +kernel
theorem d3_5 : D J3 5 (.ifCond .ne 22) 3 := by decide +kernel
theorem d3_8 : D J3 8 (.aload_n 0) 1 := by decide +kernel
theorem d3_9 : D J3 9 (.ldc 7) 2 := by decide +kernel
theorem d3_11 : D J3 11 (.getfield 9) 3 := by decide +kernel
theorem d3_14 : D J3 14 (.putfield 9) 3 := by decide +kernel
theorem d3_17 : D J3 17 (.aload_n 0) 1 := by decide +kernel
theorem d3_18 : D J3 18 (.ldc 7) 2 := by decide +kernel
theorem d3_20 : D J3 20 (.getfield 15) 3 := by decide +kernel
theorem d3_23 : D J3 23 (.putfield 15) 3 := by decide +kernel
theorem d3_26 : D J3 26 (.return_) 1 := by decide +kernel
theorem d5_0 : D J5 0 (.aload_n 0) 1 := by decide +kernel
theorem d5_1 : D J5 1 (.aload_n 1) 1 := by decide +kernel
theorem d5_2 : D J5 2 (.new 1) 3 := by decide +kernel
theorem d5_5 : D J5 5 (.dup) 1 := by decide +kernel
theorem d5_6 : D J5 6 (.invokespecial 3) 3 := by decide +kernel
theorem d5_9 : D J5 9 (.invokespecial 7) 3 := by decide +kernel
theorem d5_12 : D J5 12 (.return_) 1 := by decide +kernel
theorem d6_0 : D J6 0 (.aload_n 0) 1 := by decide +kernel
theorem d6_1 : D J6 1 (.invokespecial 1) 3 := by decide +kernel
theorem d6_4 : D J6 4 (.return_) 1 := by decide +kernel
theorem d7_0 : D J7 0 (.aload_n 0) 1 := by decide +kernel
theorem d7_1 : D J7 1 (.invokespecial 12) 3 := by decide +kernel
theorem d7_4 : D J7 4 (.aload_n 0) 1 := by decide +kernel
theorem d7_5 : D J7 5 (.new 15) 3 := by decide +kernel
theorem d7_8 : D J7 8 (.dup) 1 := by decide +kernel
theorem d7_9 : D J7 9 (.invokespecial 17) 3 := by decide +kernel
theorem d7_12 : D J7 12 (.putfield 18) 3 := by decide +kernel
theorem d7_15 : D J7 15 (.aload_n 0) 1 := by decide +kernel
theorem d7_16 : D J7 16 (.new 15) 3 := by decide +kernel
theorem d7_19 : D J7 19 (.dup) 1 := by decide +kernel
theorem d7_20 : D J7 20 (.invokespecial 17) 3 := by decide +kernel
theorem d7_23 : D J7 23 (.putfield 22) 3 := by decide +kernel
theorem d7_26 : D J7 26 (.aload_n 0) 1 := by decide +kernel
theorem d7_27 : D J7 27 (.new 15) 3 := by decide +kernel
theorem d7_30 : D J7 30 (.dup) 1 := by decide +kernel
theorem d7_31 : D J7 31 (.invokespecial 17) 3 := by decide +kernel
theorem d7_34 : D J7 34 (.putfield 25) 3 := by decide +kernel
theorem d7_37 : D J7 37 (.aload_n 0) 1 := by decide +kernel
theorem d7_38 : D J7 38 (.new 28) 3 := by decide +kernel
theorem d7_41 : D J7 41 (.dup) 1 := by decide +kernel
theorem d7_42 : D J7 42 (.invokespecial 30) 3 := by decide +kernel
theorem d7_45 : D J7 45 (.putfield 31) 3 := by decide +kernel
theorem d7_48 : D J7 48 (.aload_n 0) 1 := by decide +kernel
theorem d7_49 : D J7 49 (.aload_n 2) 1 := by decide +kernel
theorem d7_50 : D J7 50 (.putfield 35) 3 := by decide +kernel
theorem d7_53 : D J7 53 (.aload_n 0) 1 := by decide +kernel
theorem d7_54 : D J7 54 (.aload_n 1) 1 := by decide +kernel
theorem d7_55 : D J7 55 (.putfield 39) 3 := by decide +kernel
theorem d7_58 : D J7 58 (.aload_n 0) 1 := by decide +kernel
theorem d7_59 : D J7 59 (.aload_n 2) 1 := by decide +kernel
theorem d7_60 : D J7 60 (.invokevirtual 43) 3 := by decide +kernel
theorem d7_63 : D J7 63 (.putfield 47) 3 := by decide +kernel
theorem d7_66 : D J7 66 (.aload_n 0) 1 := by decide +kernel
theorem d7_67 : D J7 67 (.getfield 31) 3 := by decide +kernel
theorem d7_70 : D J7 70 (.aload_n 1) 1 := by decide +kernel
theorem d7_71 : D J7 71 (.invokevirtual 50) 3 := by decide +kernel
theorem d7_74 : D J7 74 (.bipush 32) 2 := by decide +kernel
theorem d7_76 : D J7 76 (.invokevirtual 54) 3 := by decide +kernel
theorem d7_79 : D J7 79 (.aload_n 0) 1 := by decide +kernel
theorem d7_80 : D J7 80 (.getfield 47) 3 := by decide +kernel
theorem d7_83 : D J7 83 (.invokevirtual 50) 3 := by decide +kernel
theorem d7_86 : D J7 86 (.pop) 1 := by decide +kernel
theorem d7_87 : D J7 87 (.return_) 1 := by decide +kernel
theorem d8_0 : D J8 0 (.aload_n 0) 1 := by decide +kernel
theorem d8_1 : D J8 1 (.invokespecial 1) 3 := by decide +kernel
theorem d8_4 : D J8 4 (.aload_n 0) 1 := by decide +kernel
theorem d8_5 : D J8 5 (.getstatic 39) 3 := by decide +kernel
theorem d8_8 : D J8 8 (.putfield 9) 3 := by decide +kernel
theorem d8_11 : D J8 11 (.return_) 1 := by decide +kernel
theorem d9_0 : D J9 0 (.aload_n 0) 1 := by decide +kernel
theorem d9_1 : D J9 1 (.invokespecial 1) 3 := by decide +kernel
theorem d9_4 : D J9 4 (.aload_n 0) 1 := by decide +kernel
theorem d9_5 : D J9 5 (.iconst 0) 1 := by decide +kernel
theorem d9_6 : D J9 6 (.putfield 7) 3 := by decide +kernel
theorem d9_9 : D J9 9 (.return_) 1 := by decide +kernel
theorem d10_0 : D J10 0 (.aload_n 0) 1 := by decide +kernel
theorem d10_1 : D J10 1 (.invokespecial 1) 3 := by decide +kernel
theorem d10_4 : D J10 4 (.return_) 1 := by decide +kernel
theorem d11_0 : D J11 0 (.aload_n 0) 1 := by decide +kernel
theorem d11_1 : D J11 1 (.bipush 16) 2 := by decide +kernel
theorem d11_3 : D J11 3 (.invokespecial 1) 3 := by decide +kernel
theorem d11_6 : D J11 6 (.return_) 1 := by decide +kernel
theorem d12_0 : D J12 0 (.aload_n 0) 1 := by decide +kernel
theorem d12_1 : D J12 1 (.invokespecial 3) 3 := by decide +kernel
theorem d12_4 : D J12 4 (.getstatic 18) 3 := by decide +kernel
theorem d12_7 : D J12 7 (.ifCond .eq 18) 3 := by decide +kernel
theorem d12_10 : D J12 10 (.aload_n 0) 1 := by decide +kernel
theorem d12_11 : D J12 11 (.iload_n 1) 1 := by decide +kernel
theorem d12_12 : D J12 12 (.newarray .byte) 2 := by decide +kernel
theorem d12_14 : D J12 14 (.putfield 15) 3 := by decide +kernel
theorem d12_17 : D J12 17 (.aload_n 0) 1 := by decide +kernel
theorem d12_18 : D J12 18 (.iconst 0) 1 := by decide +kernel
theorem d12_19 : D J12 19 (.putfield 22) 3 := by decide +kernel
theorem d12_22 : D J12 22 (.goto 16) 3 := by decide +kernel
theorem d12_38 : D J12 38 (.return_) 1 := by decide +kernel
theorem d13_0 : D J13 0 (.new 7) 3 := by decide +kernel
theorem d13_3 : D J13 3 (.dup) 1 := by decide +kernel
theorem d13_4 : D J13 4 (.invokespecial 9) 3 := by decide +kernel
theorem d13_7 : D J13 7 (.ldc 10) 2 := by decide +kernel
theorem d13_9 : D J13 9 (.invokevirtual 12) 3 := by decide +kernel
theorem d13_12 : D J13 12 (.aload_n 0) 1 := by decide +kernel
theorem d13_13 : D J13 13 (.getfield 16) 3 := by decide +kernel
theorem d13_16 : D J13 16 (.invokevirtual 22) 3 := by decide +kernel
theorem d13_19 : D J13 19 (.invokevirtual 25) 3 := by decide +kernel
theorem d13_22 : D J13 22 (.astore_n 1) 1 := by decide +kernel
theorem d13_23 : D J13 23 (.aload_n 0) 1 := by decide +kernel
theorem d13_24 : D J13 24 (.dup) 1 := by decide +kernel
theorem d13_25 : D J13 25 (.getfield 16) 3 := by decide +kernel
theorem d13_28 : D J13 28 (.iconst 1) 1 := by decide +kernel
theorem d13_29 : D J13 29 (.iadd) 1 := by decide +kernel
theorem d13_30 : D J13 30 (.putfield 16) 3 := by decide +kernel
theorem d13_33 : D J13 33 (.aload_n 1) 1 := by decide +kernel
theorem d13_34 : D J13 34 (.areturn) 1 := by decide +kernel
theorem d14_0 : D J14 0 (.aload_n 0) 1 := by decide +kernel
theorem d14_1 : D J14 1 (.aload_n 1) 1 := by decide +kernel
theorem d14_2 : D J14 2 (.invokespecial 29) 3 := by decide +kernel
theorem d14_5 : D J14 5 (.pop) 1 := by decide +kernel
theorem d14_6 : D J14 6 (.aload_n 0) 1 := by decide +kernel
theorem d14_7 : D J14 7 (.areturn) 1 := by decide +kernel
theorem d15_0 : D J15 0 (.aload_n 1) 1 := by decide +kernel
theorem d15_1 : D J15 1 (.ifnonnull 8) 3 := by decide +kernel
theorem d15_9 : D J15 9 (.aload_n 1) 1 := by decide +kernel
theorem d15_10 : D J15 10 (.invokevirtual 32) 3 := by decide +kernel
theorem d15_13 : D J15 13 (.istore_n 2) 1 := by decide +kernel
theorem d15_14 : D J15 14 (.aload_n 0) 1 := by decide +kernel
theorem d15_15 : D J15 15 (.aload_n 0) 1 := by decide +kernel
theorem d15_16 : D J15 16 (.getfield 79) 3 := by decide +kernel
theorem d15_19 : D J15 19 (.iload_n 2) 1 := by decide +kernel
theorem d15_20 : D J15 20 (.iadd) 1 := by decide +kernel
theorem d15_21 : D J15 21 (.invokevirtual 100) 3 := by decide +kernel
theorem d15_24 : D J15 24 (.aload_n 0) 1 := by decide +kernel
theorem d15_25 : D J15 25 (.aload_n 0) 1 := by decide +kernel
theorem d15_26 : D J15 26 (.getfield 79) 3 := by decide +kernel
theorem d15_29 : D J15 29 (.aload_n 1) 1 := by decide +kernel
theorem d15_30 : D J15 30 (.invokevirtual 208) 3 := by decide +kernel
theorem d15_33 : D J15 33 (.aload_n 0) 1 := by decide +kernel
theorem d15_34 : D J15 34 (.dup) 1 := by decide +kernel
theorem d15_35 : D J15 35 (.getfield 79) 3 := by decide +kernel
theorem d15_38 : D J15 38 (.iload_n 2) 1 := by decide +kernel
theorem d15_39 : D J15 39 (.iadd) 1 := by decide +kernel
theorem d15_40 : D J15 40 (.putfield 79) 3 := by decide +kernel
theorem d15_43 : D J15 43 (.aload_n 0) 1 := by decide +kernel
theorem d15_44 : D J15 44 (.areturn) 1 := by decide +kernel
theorem d17_0 : D J17 0 (.getstatic 38) 3 := by decide +kernel
theorem d17_3 : D J17 3 (.ifCond .eq 10) 3 := by decide +kernel
theorem d17_6 : D J17 6 (.aload_n 0) 1 := by decide +kernel
theorem d17_7 : D J17 7 (.getfield 15) 3 := by decide +kernel
theorem d17_10 : D J17 10 (.goto 4) 3 := by decide +kernel
theorem d17_14 : D J17 14 (.ireturn) 1 := by decide +kernel
theorem d18_0 : D J18 0 (.aload_n 0) 1 := by decide +kernel
theorem d18_1 : D J18 1 (.getfield 15) 3 := by decide +kernel
theorem d18_4 : D J18 4 (.arraylength) 1 := by decide +kernel
theorem d18_5 : D J18 5 (.aload_n 0) 1 := by decide +kernel
theorem d18_6 : D J18 6 (.getfield 22) 3 := by decide +kernel
theorem d18_9 : D J18 9 (.ishr) 1 := by decide +kernel
theorem d18_10 : D J18 10 (.istore_n 2) 1 := by decide +kernel
theorem d18_11 : D J18 11 (.iload_n 1) 1 := by decide +kernel
theorem d18_12 : D J18 12 (.iload_n 2) 1 := by decide +kernel
theorem d18_13 : D J18 13 (.isub) 1 := by decide +kernel
theorem d18_14 : D J18 14 (.ifCond .le 24) 3 := by decide +kernel
theorem d18_17 : D J18 17 (.aload_n 0) 1 := by decide +kernel
theorem d18_18 : D J18 18 (.aload_n 0) 1 := by decide +kernel
theorem d18_19 : D J18 19 (.getfield 15) 3 := by decide +kernel
theorem d18_22 : D J18 22 (.aload_n 0) 1 := by decide +kernel
theorem d18_23 : D J18 23 (.iload_n 1) 1 := by decide +kernel
theorem d18_24 : D J18 24 (.invokevirtual 104) 3 := by decide +kernel
theorem d18_27 : D J18 27 (.aload_n 0) 1 := by decide +kernel
theorem d18_28 : D J18 28 (.getfield 22) 3 := by decide +kernel
theorem d18_31 : D J18 31 (.ishl) 1 := by decide +kernel
theorem d18_32 : D J18 32 (.invokestatic 108) 3 := by decide +kernel
theorem d18_35 : D J18 35 (.putfield 15) 3 := by decide +kernel
theorem d18_38 : D J18 38 (.return_) 1 := by decide +kernel
theorem d19_0 : D J19 0 (.aload_n 0) 1 := by decide +kernel
theorem d19_1 : D J19 1 (.aload_n 2) 1 := by decide +kernel
theorem d19_2 : D J19 2 (.invokevirtual 397) 3 := by decide +kernel
theorem d19_5 : D J19 5 (.aload_n 2) 1 := by decide +kernel
theorem d19_6 : D J19 6 (.aload_n 0) 1 := by decide +kernel
theorem d19_7 : D J19 7 (.getfield 15) 3 := by decide +kernel
theorem d19_10 : D J19 10 (.iload_n 1) 1 := by decide +kernel
theorem d19_11 : D J19 11 (.aload_n 0) 1 := by decide +kernel
theorem d19_12 : D J19 12 (.getfield 22) 3 := by decide +kernel
theorem d19_15 : D J19 15 (.invokevirtual 399) 3 := by decide +kernel
theorem d19_18 : D J19 18 (.return_) 1 := by decide +kernel
theorem d20_0 : D J20 0 (.getstatic 18) 3 := by decide +kernel
theorem d20_3 : D J20 3 (.ifCond .eq 18) 3 := by decide +kernel
theorem d20_6 : D J20 6 (.aload_n 0) 1 := by decide +kernel
theorem d20_7 : D J20 7 (.getfield 22) 3 := by decide +kernel
theorem d20_10 : D J20 10 (.aload_n 1) 1 := by decide +kernel
theorem d20_11 : D J20 11 (.invokevirtual 40) 3 := by decide +kernel
theorem d20_14 : D J20 14 (.if_icmp .eq 7) 3 := by decide +kernel
theorem d20_21 : D J20 21 (.return_) 1 := by decide +kernel
theorem d21_0 : D J21 0 (.aload_n 0) 1 := by decide +kernel
theorem d21_1 : D J21 1 (.invokevirtual 335) 3 := by decide +kernel
theorem d21_4 : D J21 4 (.iload_n 3) 1 := by decide +kernel
theorem d21_5 : D J21 5 (.if_icmp .ne 23) 3 := by decide +kernel
theorem d21_8 : D J21 8 (.aload_n 0) 1 := by decide +kernel
theorem d21_9 : D J21 9 (.getfield 9) 3 := by decide +kernel
theorem d21_12 : D J21 12 (.iconst 0) 1 := by decide +kernel
theorem d21_13 : D J21 13 (.aload_n 1) 1 := by decide +kernel
theorem d21_14 : D J21 14 (.iload_n 2) 1 := by decide +kernel
theorem d21_15 : D J21 15 (.iload_n 3) 1 := by decide +kernel
theorem d21_16 : D J21 16 (.ishl) 1 := by decide +kernel
theorem d21_17 : D J21 17 (.aload_n 0) 1 := by decide +kernel
theorem d21_18 : D J21 18 (.getfield 9) 3 := by decide +kernel
theorem d21_21 : D J21 21 (.arraylength) 1 := by decide +kernel
theorem d21_22 : D J21 22 (.invokestatic 212) 3 := by decide +kernel
theorem d21_25 : D J21 25 (.goto 18) 3 := by decide +kernel
theorem d21_43 : D J21 43 (.return_) 1 := by decide +kernel
theorem d22_0 : D J22 0 (.aload_n 0) 1 := by decide +kernel
theorem d22_1 : D J22 1 (.iload_n 1) 1 := by decide +kernel
theorem d22_2 : D J22 2 (.invokespecial 53) 3 := by decide +kernel
theorem d22_5 : D J22 5 (.pop) 1 := by decide +kernel
theorem d22_6 : D J22 6 (.aload_n 0) 1 := by decide +kernel
theorem d22_7 : D J22 7 (.areturn) 1 := by decide +kernel
theorem d23_0 : D J23 0 (.aload_n 0) 1 := by decide +kernel
theorem d23_1 : D J23 1 (.getfield 79) 3 := by decide +kernel
theorem d23_4 : D J23 4 (.istore_n 2) 1 := by decide +kernel
theorem d23_5 : D J23 5 (.iload_n 2) 1 := by decide +kernel
theorem d23_6 : D J23 6 (.iload_n 1) 1 := by decide +kernel
theorem d23_7 : D J23 7 (.invokestatic 245) 3 := by decide +kernel
theorem d23_10 : D J23 10 (.iadd) 1 := by decide +kernel
theorem d23_11 : D J23 11 (.istore_n 3) 1 := by decide +kernel
theorem d23_12 : D J23 12 (.aload_n 0) 1 := by decide +kernel
theorem d23_13 : D J23 13 (.iload_n 3) 1 := by decide +kernel
theorem d23_14 : D J23 14 (.invokevirtual 100) 3 := by decide +kernel
theorem d23_17 : D J23 17 (.aload_n 0) 1 := by decide +kernel
theorem d23_18 : D J23 18 (.invokevirtual 83) 3 := by decide +kernel
theorem d23_21 : D J23 21 (.ifCond .eq 16) 3 := by decide +kernel
theorem d23_24 : D J23 24 (.iload_n 1) 1 := by decide +kernel
theorem d23_25 : D J23 25 (.iload_n 3) 1 := by decide +kernel
theorem d23_26 : D J23 26 (.aload_n 0) 1 := by decide +kernel
theorem d23_27 : D J23 27 (.getfield 15) 3 := by decide +kernel
theorem d23_30 : D J23 30 (.invokestatic 248) 3 := by decide +kernel
theorem d23_33 : D J23 33 (.pop) 1 := by decide +kernel
theorem d23_34 : D J23 34 (.goto 14) 3 := by decide +kernel
theorem d23_48 : D J23 48 (.aload_n 0) 1 := by decide +kernel
theorem d23_49 : D J23 49 (.iload_n 3) 1 := by decide +kernel
theorem d23_50 : D J23 50 (.putfield 79) 3 := by decide +kernel
theorem d23_53 : D J23 53 (.aload_n 0) 1 := by decide +kernel
theorem d23_54 : D J23 54 (.areturn) 1 := by decide +kernel
theorem d24_0 : D J24 0 (.iconst 1) 1 := by decide +kernel
theorem d24_1 : D J24 1 (.istore_n 1) 1 := by decide +kernel
theorem d24_2 : D J24 2 (.iload_n 0) 1 := by decide +kernel
theorem d24_3 : D J24 3 (.ifCond .lt 8) 3 := by decide +kernel
theorem d24_6 : D J24 6 (.iconst 0) 1 := by decide +kernel
theorem d24_7 : D J24 7 (.istore_n 1) 1 := by decide +kernel
theorem d24_8 : D J24 8 (.iload_n 0) 1 := by decide +kernel
theorem d24_9 : D J24 9 (.ineg) 1 := by decide +kernel
theorem d24_10 : D J24 10 (.istore_n 0) 1 := by decide +kernel
theorem d24_11 : D J24 11 (.bipush (-10)) 2 := by decide +kernel
theorem d24_13 : D J24 13 (.istore_n 2) 1 := by decide +kernel
theorem d24_14 : D J24 14 (.iconst 1) 1 := by decide +kernel
theorem d24_15 : D J24 15 (.istore_n 3) 1 := by decide +kernel
theorem d24_16 : D J24 16 (.iload_n 3) 1 := by decide +kernel
theorem d24_17 : D J24 17 (.bipush 10) 2 := by decide +kernel
theorem d24_19 : D J24 19 (.if_icmp .ge 23) 3 := by decide +kernel
theorem d24_22 : D J24 22 (.iload_n 0) 1 := by decide +kernel
theorem d24_23 : D J24 23 (.iload_n 2) 1 := by decide +kernel
theorem d24_24 : D J24 24 (.if_icmp .le 7) 3 := by decide +kernel
theorem d24_27 : D J24 27 (.iload_n 3) 1 := by decide +kernel
theorem d24_28 : D J24 28 (.iload_n 1) 1 := by decide +kernel
theorem d24_29 : D J24 29 (.iadd) 1 := by decide +kernel
theorem d24_30 : D J24 30 (.ireturn) 1 := by decide +kernel
theorem d25_0 : D J25 0 (.getstatic 18) 3 := by decide +kernel
theorem d25_3 : D J25 3 (.ifCond .eq 14) 3 := by decide +kernel
theorem d25_6 : D J25 6 (.aload_n 0) 1 := by decide +kernel
theorem d25_7 : D J25 7 (.getfield 22) 3 := by decide +kernel
theorem d25_10 : D J25 10 (.ifCond .ne 7) 3 := by decide +kernel
theorem d25_13 : D J25 13 (.iconst 1) 1 := by decide +kernel
theorem d25_14 : D J25 14 (.goto 4) 3 := by decide +kernel
theorem d25_18 : D J25 18 (.ireturn) 1 := by decide +kernel
theorem d26_0 : D J26 0 (.iload_n 1) 1 := by decide +kernel
theorem d26_1 : D J26 1 (.istore 5) 2 := by decide +kernel
theorem d26_3 : D J26 3 (.iload_n 0) 1 := by decide +kernel
theorem d26_4 : D J26 4 (.ifCond .ge 7) 3 := by decide +kernel
theorem d26_11 : D J26 11 (.iconst 0) 1 := by decide +kernel
theorem d26_12 : D J26 12 (.istore 6) 2 := by decide +kernel
theorem d26_14 : D J26 14 (.iload 6) 2 := by decide +kernel
theorem d26_16 : D J26 16 (.ifCond .ne 6) 3 := by decide +kernel
theorem d26_19 : D J26 19 (.iload_n 0) 1 := by decide +kernel
theorem d26_20 : D J26 20 (.ineg) 1 := by decide +kernel
theorem d26_21 : D J26 21 (.istore_n 0) 1 := by decide +kernel
theorem d26_22 : D J26 22 (.iload_n 0) 1 := by decide +kernel
theorem d26_23 : D J26 23 (.bipush (-100)) 2 := by decide +kernel
theorem d26_25 : D J26 25 (.if_icmp .gt 47) 3 := by decide +kernel
theorem d26_72 : D J26 72 (.aload_n 2) 1 := by decide +kernel
theorem d26_73 : D J26 73 (.iinc 5 (-1)) 3 := by decide +kernel
theorem d26_76 : D J26 76 (.iload 5) 2 := by decide +kernel
theorem d26_78 : D J26 78 (.getstatic 83) 3 := by decide +kernel
theorem d26_81 : D J26 81 (.iload_n 0) 1 := by decide +kernel
theorem d26_82 : D J26 82 (.ineg) 1 := by decide +kernel
theorem d26_83 : D J26 83 (.baload) 1 := by decide +kernel
theorem d26_84 : D J26 84 (.bastore) 1 := by decide +kernel
theorem d26_85 : D J26 85 (.iload_n 0) 1 := by decide +kernel
theorem d26_86 : D J26 86 (.bipush (-9)) 2 := by decide +kernel
theorem d26_88 : D J26 88 (.if_icmp .ge 16) 3 := by decide +kernel
theorem d26_104 : D J26 104 (.iload 6) 2 := by decide +kernel
theorem d26_106 : D J26 106 (.ifCond .eq 12) 3 := by decide +kernel
theorem d26_118 : D J26 118 (.iload 5) 2 := by decide +kernel
theorem d26_120 : D J26 120 (.ireturn) 1 := by decide +kernel
theorem d27_0 : D J27 0 (.new 18) 3 := by decide +kernel
theorem d27_3 : D J27 3 (.dup) 1 := by decide +kernel
theorem d27_4 : D J27 4 (.aload_n 0) 1 := by decide +kernel
theorem d27_5 : D J27 5 (.invokespecial 137) 3 := by decide +kernel
theorem d27_8 : D J27 8 (.areturn) 1 := by decide +kernel
theorem d28_0 : D J28 0 (.aload_n 0) 1 := by decide +kernel
theorem d28_1 : D J28 1 (.aload_n 1) 1 := by decide +kernel
theorem d28_2 : D J28 2 (.aconst_null) 1 := by decide +kernel
theorem d28_3 : D J28 3 (.invokespecial 489) 3 := by decide +kernel
theorem d28_6 : D J28 6 (.return_) 1 := by decide +kernel
theorem d29_0 : D J29 0 (.aload_n 0) 1 := by decide +kernel
theorem d29_1 : D J29 1 (.invokespecial 1) 3 := by decide +kernel
theorem d29_4 : D J29 4 (.aload_n 1) 1 := by decide +kernel
theorem d29_5 : D J29 5 (.invokevirtual 552) 3 := by decide +kernel
theorem d29_8 : D J29 8 (.astore_n 3) 1 := by decide +kernel
theorem d29_9 : D J29 9 (.aload_n 1) 1 := by decide +kernel
theorem d29_10 : D J29 10 (.invokevirtual 549) 3 := by decide +kernel
theorem d29_13 : D J29 13 (.istore 4) 2 := by decide +kernel
theorem d29_15 : D J29 15 (.aload_n 1) 1 := by decide +kernel
theorem d29_16 : D J29 16 (.invokevirtual 1047) 3 := by decide +kernel
theorem d29_19 : D J29 19 (.ifCond .eq 22) 3 := by decide +kernel
theorem d29_22 : D J29 22 (.aload_n 0) 1 := by decide +kernel
theorem d29_23 : D J29 23 (.iconst 0) 1 := by decide +kernel
theorem d29_24 : D J29 24 (.putfield 15) 3 := by decide +kernel
theorem d29_27 : D J29 27 (.aload_n 0) 1 := by decide +kernel
theorem d29_28 : D J29 28 (.aload_n 3) 1 := by decide +kernel
theorem d29_29 : D J29 29 (.iconst 0) 1 := by decide +kernel
theorem d29_30 : D J29 30 (.iload 4) 2 := by decide +kernel
theorem d29_32 : D J29 32 (.invokestatic 54) 3 := by decide +kernel
theorem d29_35 : D J29 35 (.putfield 9) 3 := by decide +kernel
theorem d29_38 : D J29 38 (.goto 59) 3 := by decide +kernel
theorem d29_97 : D J29 97 (.return_) 1 := by decide +kernel
theorem d30_0 : D J30 0 (.aload_n 0) 1 := by decide +kernel
theorem d30_1 : D J30 1 (.getfield 15) 3 := by decide +kernel
theorem d30_4 : D J30 4 (.areturn) 1 := by decide +kernel
theorem d31_0 : D J31 0 (.aload_n 0) 1 := by decide +kernel
theorem d31_1 : D J31 1 (.invokespecial 343) 3 := by decide +kernel
theorem d31_4 : D J31 4 (.ireturn) 1 := by decide +kernel
theorem d32_0 : D J32 0 (.aload_n 0) 1 := by decide +kernel
theorem d32_1 : D J32 1 (.getfield 79) 3 := by decide +kernel
theorem d32_4 : D J32 4 (.ireturn) 1 := by decide +kernel
theorem d33_0 : D J33 0 (.iload_n 1) 1 := by decide +kernel
theorem d33_1 : D J33 1 (.ifCond .ne 9) 3 := by decide +kernel
theorem d33_4 : D J33 4 (.iload_n 2) 1 := by decide +kernel
theorem d33_5 : D J33 5 (.aload_n 0) 1 := by decide +kernel
theorem d33_6 : D J33 6 (.arraylength) 1 := by decide +kernel
theorem d33_7 : D J33 7 (.if_icmp .eq 10) 3 := by decide +kernel
theorem d33_10 : D J33 10 (.aload_n 0) 1 := by decide +kernel
theorem d33_11 : D J33 11 (.iload_n 1) 1 := by decide +kernel
theorem d33_12 : D J33 12 (.iload_n 2) 1 := by decide +kernel
theorem d33_13 : D J33 13 (.invokestatic 339) 3 := by decide +kernel
theorem d33_16 : D J33 16 (.areturn) 1 := by decide +kernel
theorem d33_17 : D J33 17 (.aload_n 0) 1 := by decide +kernel
theorem d33_18 : D J33 18 (.invokevirtual 310) 3 := by decide +kernel
theorem d33_21 : D J33 21 (.checkcast 311) 3 := by decide +kernel
theorem d33_24 : D J33 24 (.areturn) 1 := by decide +kernel
theorem d34_0 : D J34 0 (.iload_n 1) 1 := by decide +kernel
theorem d34_1 : D J34 1 (.iload_n 2) 1 := by decide +kernel
theorem d34_2 : D J34 2 (.invokestatic 343) 3 := by decide +kernel
theorem d34_5 : D J34 5 (.iload_n 2) 1 := by decide +kernel
theorem d34_6 : D J34 6 (.iload_n 1) 1 := by decide +kernel
theorem d34_7 : D J34 7 (.isub) 1 := by decide +kernel
theorem d34_8 : D J34 8 (.istore_n 3) 1 := by decide +kernel
theorem d34_9 : D J34 9 (.iload_n 3) 1 := by decide +kernel
theorem d34_10 : D J34 10 (.newarray .byte) 2 := by decide +kernel
theorem d34_12 : D J34 12 (.astore 4) 2 := by decide +kernel
theorem d34_14 : D J34 14 (.aload_n 0) 1 := by decide +kernel
theorem d34_15 : D J34 15 (.iload_n 1) 1 := by decide +kernel
theorem d34_16 : D J34 16 (.aload 4) 2 := by decide +kernel
theorem d34_18 : D J34 18 (.iconst 0) 1 := by decide +kernel
theorem d34_19 : D J34 19 (.aload_n 0) 1 := by decide +kernel
theorem d34_20 : D J34 20 (.arraylength) 1 := by decide +kernel
theorem d34_21 : D J34 21 (.iload_n 1) 1 := by decide +kernel
theorem d34_22 : D J34 22 (.isub) 1 := by decide +kernel
theorem d34_23 : D J34 23 (.iload_n 3) 1 := by decide +kernel
theorem d34_24 : D J34 24 (.invokestatic 304) 3 := by decide +kernel
theorem d34_27 : D J34 27 (.invokestatic 150) 3 := by decide +kernel
theorem d34_30 : D J34 30 (.aload 4) 2 := by decide +kernel
theorem d34_32 : D J34 32 (.areturn) 1 := by decide +kernel
theorem d35_0 : D J35 0 (.iload_n 1) 1 := by decide +kernel
theorem d35_1 : D J35 1 (.iload_n 0) 1 := by decide +kernel
theorem d35_2 : D J35 2 (.if_icmp .ge 35) 3 := by decide +kernel
theorem d35_37 : D J35 37 (.return_) 1 := by decide +kernel
theorem d36_0 : D J36 0 (.iload_n 0) 1 := by decide +kernel
theorem d36_1 : D J36 1 (.iload_n 1) 1 := by decide +kernel
theorem d36_2 : D J36 2 (.if_icmp .gt 7) 3 := by decide +kernel
theorem d36_5 : D J36 5 (.iload_n 0) 1 := by decide +kernel
theorem d36_6 : D J36 6 (.goto 4) 3 := by decide +kernel
theorem d36_9 : D J36 9 (.iload_n 1) 1 := by decide +kernel
theorem d36_10 : D J36 10 (.ireturn) 1 := by decide +kernel
theorem d37_0 : D J37 0 (.aload_n 0) 1 := by decide +kernel
theorem d37_1 : D J37 1 (.iload_n 1) 1 := by decide +kernel
theorem d37_2 : D J37 2 (.invokespecial 50) 3 := by decide +kernel
theorem d37_5 : D J37 5 (.pop) 1 := by decide +kernel
theorem d37_6 : D J37 6 (.aload_n 0) 1 := by decide +kernel
theorem d37_7 : D J37 7 (.areturn) 1 := by decide +kernel
theorem d38_0 : D J38 0 (.aload_n 0) 1 := by decide +kernel
theorem d38_1 : D J38 1 (.aload_n 0) 1 := by decide +kernel
theorem d38_2 : D J38 2 (.getfield 79) 3 := by decide +kernel
theorem d38_5 : D J38 5 (.iconst 1) 1 := by decide +kernel
theorem d38_6 : D J38 6 (.iadd) 1 := by decide +kernel
theorem d38_7 : D J38 7 (.invokevirtual 100) 3 := by decide +kernel
theorem d38_10 : D J38 10 (.aload_n 0) 1 := by decide +kernel
theorem d38_11 : D J38 11 (.invokevirtual 83) 3 := by decide +kernel
theorem d38_14 : D J38 14 (.ifCond .eq 31) 3 := by decide +kernel
theorem d38_17 : D J38 17 (.iload_n 1) 1 := by decide +kernel
theorem d38_18 : D J38 18 (.invokestatic 191) 3 := by decide +kernel
theorem d38_21 : D J38 21 (.ifCond .eq 24) 3 := by decide +kernel
theorem d38_24 : D J38 24 (.aload_n 0) 1 := by decide +kernel
theorem d38_25 : D J38 25 (.getfield 15) 3 := by decide +kernel
theorem d38_28 : D J38 28 (.aload_n 0) 1 := by decide +kernel
theorem d38_29 : D J38 29 (.dup) 1 := by decide +kernel
theorem d38_30 : D J38 30 (.getfield 79) 3 := by decide +kernel
theorem d38_33 : D J38 33 (.dup_x1) 1 := by decide +kernel
theorem d38_34 : D J38 34 (.iconst 1) 1 := by decide +kernel
theorem d38_35 : D J38 35 (.iadd) 1 := by decide +kernel
theorem d38_36 : D J38 36 (.putfield 79) 3 := by decide +kernel
theorem d38_39 : D J38 39 (.iload_n 1) 1 := by decide +kernel
theorem d38_40 : D J38 40 (.i2b) 1 := by decide +kernel
theorem d38_41 : D J38 41 (.bastore) 1 := by decide +kernel
theorem d38_42 : D J38 42 (.goto 33) 3 := by decide +kernel
theorem d38_75 : D J38 75 (.aload_n 0) 1 := by decide +kernel
theorem d38_76 : D J38 76 (.areturn) 1 := by decide +kernel
theorem d39_0 : D J39 0 (.iload_n 0) 1 := by decide +kernel
theorem d39_1 : D J39 1 (.sipush 255) 3 := by decide +kernel
theorem d39_4 : D J39 4 (.if_icmp .gt 7) 3 := by decide +kernel
theorem d39_7 : D J39 7 (.iconst 1) 1 := by decide +kernel
theorem d39_8 : D J39 8 (.goto 4) 3 := by decide +kernel
theorem d39_12 : D J39 12 (.ireturn) 1 := by decide +kernel
theorem d40_0 : D J40 0 (.getstatic 38) 3 := by decide +kernel
theorem d40_3 : D J40 3 (.ifCond .eq 23) 3 := by decide +kernel
theorem d40_6 : D J40 6 (.iload_n 0) 1 := by decide +kernel
theorem d40_7 : D J40 7 (.invokestatic 1015) 3 := by decide +kernel
theorem d40_10 : D J40 10 (.ifCond .eq 16) 3 := by decide +kernel
theorem d40_13 : D J40 13 (.new 10) 3 := by decide +kernel
theorem d40_16 : D J40 16 (.dup) 1 := by decide +kernel
theorem d40_17 : D J40 17 (.iload_n 0) 1 := by decide +kernel
theorem d40_18 : D J40 18 (.invokestatic 1018) 3 := by decide +kernel
theorem d40_21 : D J40 21 (.iconst 0) 1 := by decide +kernel
theorem d40_22 : D J40 22 (.invokespecial 209) 3 := by decide +kernel
theorem d40_25 : D J40 25 (.areturn) 1 := by decide +kernel
theorem d41_0 : D J41 0 (.iconst 1) 1 := by decide +kernel
theorem d41_1 : D J41 1 (.newarray .byte) 2 := by decide +kernel
theorem d41_3 : D J41 3 (.dup) 1 := by decide +kernel
theorem d41_4 : D J41 4 (.iconst 0) 1 := by decide +kernel
theorem d41_5 : D J41 5 (.iload_n 0) 1 := by decide +kernel
theorem d41_6 : D J41 6 (.i2b) 1 := by decide +kernel
theorem d41_7 : D J41 7 (.bastore) 1 := by decide +kernel
theorem d41_8 : D J41 8 (.areturn) 1 := by decide +kernel
theorem d42_0 : D J42 0 (.aload_n 0) 1 := by decide +kernel
theorem d42_1 : D J42 1 (.invokespecial 1) 3 := by decide +kernel
theorem d42_4 : D J42 4 (.aload_n 0) 1 := by decide +kernel
theorem d42_5 : D J42 5 (.aload_n 1) 1 := by decide +kernel
theorem d42_6 : D J42 6 (.putfield 9) 3 := by decide +kernel
theorem d42_9 : D J42 9 (.aload_n 0) 1 := by decide +kernel
theorem d42_10 : D J42 10 (.iload_n 2) 1 := by decide +kernel
theorem d42_11 : D J42 11 (.putfield 15) 3 := by decide +kernel
theorem d42_14 : D J42 14 (.return_) 1 := by decide +kernel
theorem d43_0 : D J43 0 (.aload_n 0) 1 := by decide +kernel
theorem d43_1 : D J43 1 (.iconst 1) 1 := by decide +kernel
theorem d43_2 : D J43 2 (.putfield 80) 3 := by decide +kernel
theorem d43_5 : D J43 5 (.aload_n 0) 1 := by decide +kernel
theorem d43_6 : D J43 6 (.getfield 35) 3 := by decide +kernel
theorem d43_9 : D J43 9 (.invokevirtual 43) 3 := by decide +kernel
theorem d43_12 : D J43 12 (.astore_n 2) 1 := by decide +kernel
theorem d43_13 : D J43 13 (.aload_n 0) 1 := by decide +kernel
theorem d43_14 : D J43 14 (.getfield 31) 3 := by decide +kernel
theorem d43_17 : D J43 17 (.ldc 100) 2 := by decide +kernel
theorem d43_19 : D J43 19 (.invokevirtual 50) 3 := by decide +kernel
theorem d43_22 : D J43 22 (.aload_n 1) 1 := by decide +kernel
theorem d43_23 : D J43 23 (.invokevirtual 50) 3 := by decide +kernel
theorem d43_26 : D J43 26 (.bipush 32) 2 := by decide +kernel
theorem d43_28 : D J43 28 (.invokevirtual 54) 3 := by decide +kernel
theorem d43_31 : D J43 31 (.aload_n 2) 1 := by decide +kernel
theorem d43_32 : D J43 32 (.invokevirtual 50) 3 := by decide +kernel
theorem d43_35 : D J43 35 (.pop) 1 := by decide +kernel
theorem d43_36 : D J43 36 (.aload_n 2) 1 := by decide +kernel
theorem d43_37 : D J43 37 (.areturn) 1 := by decide +kernel
theorem d44_0 : D J44 0 (.aload_n 0) 1 := by decide +kernel
theorem d44_1 : D J44 1 (.getfield 15) 3 := by decide +kernel
theorem d44_4 : D J44 4 (.arraylength) 1 := by decide +kernel
theorem d44_5 : D J44 5 (.istore_n 2) 1 := by decide +kernel
theorem d44_6 : D J44 6 (.iload_n 1) 1 := by decide +kernel
theorem d44_7 : D J44 7 (.aload_n 0) 1 := by decide +kernel
theorem d44_8 : D J44 8 (.getfield 22) 3 := by decide +kernel
theorem d44_11 : D J44 11 (.ishl) 1 := by decide +kernel
theorem d44_12 : D J44 12 (.istore_n 3) 1 := by decide +kernel
theorem d44_13 : D J44 13 (.iload_n 3) 1 := by decide +kernel
theorem d44_14 : D J44 14 (.iload_n 2) 1 := by decide +kernel
theorem d44_15 : D J44 15 (.isub) 1 := by decide +kernel
theorem d44_16 : D J44 16 (.istore 4) 2 := by decide +kernel
theorem d44_18 : D J44 18 (.iload_n 2) 1 := by decide +kernel
theorem d44_19 : D J44 19 (.iload 4) 2 := by decide +kernel
theorem d44_21 : D J44 21 (.iload_n 2) 1 := by decide +kernel
theorem d44_22 : D J44 22 (.iconst 2) 1 := by decide +kernel
theorem d44_23 : D J44 23 (.aload_n 0) 1 := by decide +kernel
theorem d44_24 : D J44 24 (.getfield 22) 3 := by decide +kernel
theorem d44_27 : D J44 27 (.ishl) 1 := by decide +kernel
theorem d44_28 : D J44 28 (.iadd) 1 := by decide +kernel
theorem d44_29 : D J44 29 (.invokestatic 114) 3 := by decide +kernel
theorem d44_32 : D J44 32 (.istore 5) 2 := by decide +kernel
theorem d44_34 : D J44 34 (.iload 5) 2 := by decide +kernel
theorem d44_36 : D J44 36 (.ldc 39) 2 := by decide +kernel
theorem d44_38 : D J44 38 (.if_icmp .ne 13) 3 := by decide +kernel
theorem d44_51 : D J44 51 (.iload 5) 2 := by decide +kernel
theorem d44_53 : D J44 53 (.aload_n 0) 1 := by decide +kernel
theorem d44_54 : D J44 54 (.getfield 22) 3 := by decide +kernel
theorem d44_57 : D J44 57 (.ishr) 1 := by decide +kernel
theorem d44_58 : D J44 58 (.ireturn) 1 := by decide +kernel
theorem d45_0 : D J45 0 (.iload_n 0) 1 := by decide +kernel
theorem d45_1 : D J45 1 (.iload_n 1) 1 := by decide +kernel
theorem d45_2 : D J45 2 (.iload_n 2) 1 := by decide +kernel
theorem d45_3 : D J45 3 (.invokestatic 194) 3 := by decide +kernel
theorem d45_6 : D J45 6 (.iadd) 1 := by decide +kernel
theorem d45_7 : D J45 7 (.istore_n 3) 1 := by decide +kernel
theorem d45_8 : D J45 8 (.iconst 0) 1 := by decide +kernel
theorem d45_9 : D J45 9 (.iload_n 3) 1 := by decide +kernel
theorem d45_10 : D J45 10 (.if_icmp .ge 11) 3 := by decide +kernel
theorem d45_13 : D J45 13 (.iload_n 3) 1 := by decide +kernel
theorem d45_14 : D J45 14 (.ldc 200) 2 := by decide +kernel
theorem d45_16 : D J45 16 (.if_icmp .gt 5) 3 := by decide +kernel
theorem d45_19 : D J45 19 (.iload_n 3) 1 := by decide +kernel
theorem d45_20 : D J45 20 (.ireturn) 1 := by decide +kernel
theorem d46_0 : D J46 0 (.iload_n 0) 1 := by decide +kernel
theorem d46_1 : D J46 1 (.iload_n 1) 1 := by decide +kernel
theorem d46_2 : D J46 2 (.if_icmp .lt 7) 3 := by decide +kernel
theorem d46_9 : D J46 9 (.iload_n 1) 1 := by decide +kernel
theorem d46_10 : D J46 10 (.ireturn) 1 := by decide +kernel
theorem d47_0 : D J47 0 (.iload_n 1) 1 := by decide +kernel
theorem d47_1 : D J47 1 (.aload_n 0) 1 := by decide +kernel
theorem d47_2 : D J47 2 (.arraylength) 1 := by decide +kernel
theorem d47_3 : D J47 3 (.if_icmp .ne 11) 3 := by decide +kernel
theorem d47_14 : D J47 14 (.iload_n 1) 1 := by decide +kernel
theorem d47_15 : D J47 15 (.newarray .byte) 2 := by decide +kernel
theorem d47_17 : D J47 17 (.astore_n 2) 1 := by decide +kernel
theorem d47_18 : D J47 18 (.aload_n 0) 1 := by decide +kernel
theorem d47_19 : D J47 19 (.iconst 0) 1 := by decide +kernel
theorem d47_20 : D J47 20 (.aload_n 2) 1 := by decide +kernel
theorem d47_21 : D J47 21 (.iconst 0) 1 := by decide +kernel
theorem d47_22 : D J47 22 (.aload_n 0) 1 := by decide +kernel
theorem d47_23 : D J47 23 (.arraylength) 1 := by decide +kernel
theorem d47_24 : D J47 24 (.iload_n 1) 1 := by decide +kernel
theorem d47_25 : D J47 25 (.invokestatic 304) 3 := by decide +kernel
theorem d47_28 : D J47 28 (.invokestatic 150) 3 := by decide +kernel
theorem d47_31 : D J47 31 (.aload_n 2) 1 := by decide +kernel
theorem d47_32 : D J47 32 (.areturn) 1 := by decide +kernel
theorem d48_0 : D J48 0 (.new 28) 3 := by decide +kernel
theorem d48_3 : D J48 3 (.dup) 1 := by decide +kernel
theorem d48_4 : D J48 4 (.invokespecial 30) 3 := by decide +kernel
theorem d48_7 : D J48 7 (.ldc 194) 2 := by decide +kernel
theorem d48_9 : D J48 9 (.invokevirtual 50) 3 := by decide +kernel
theorem d48_12 : D J48 12 (.aload_n 0) 1 := by decide +kernel
theorem d48_13 : D J48 13 (.getfield 31) 3 := by decide +kernel
theorem d48_16 : D J48 16 (.invokevirtual 185) 3 := by decide +kernel
theorem d48_19 : D J48 19 (.ldc 142) 2 := by decide +kernel
theorem d48_21 : D J48 21 (.invokevirtual 50) 3 := by decide +kernel
theorem d48_24 : D J48 24 (.aload_n 1) 1 := by decide +kernel
theorem d48_25 : D J48 25 (.invokevirtual 50) 3 := by decide +kernel
theorem d48_28 : D J48 28 (.ldc 192) 2 := by decide +kernel
theorem d48_30 : D J48 30 (.invokevirtual 50) 3 := by decide +kernel
theorem d48_33 : D J48 33 (.invokevirtual 97) 3 := by decide +kernel
theorem d48_36 : D J48 36 (.areturn) 1 := by decide +kernel
theorem d49_0 : D J49 0 (.aload_n 0) 1 := by decide +kernel
theorem d49_1 : D J49 1 (.aload_n 1) 1 := by decide +kernel
theorem d49_2 : D J49 2 (.invokestatic 17) 3 := by decide +kernel
theorem d49_5 : D J49 5 (.invokevirtual 23) 3 := by decide +kernel
theorem d49_8 : D J49 8 (.areturn) 1 := by decide +kernel
theorem d50_0 : D J50 0 (.aload_n 0) 1 := by decide +kernel
theorem d50_1 : D J50 1 (.ifnonnull 9) 3 := by decide +kernel
theorem d50_10 : D J50 10 (.aload_n 0) 1 := by decide +kernel
theorem d50_11 : D J50 11 (.invokevirtual 1007) 3 := by decide +kernel
theorem d50_14 : D J50 14 (.areturn) 1 := by decide +kernel
theorem d56_0 : D J56 0 (.new 8) 3 := by decide +kernel
theorem d56_3 : D J56 3 (.dup) 1 := by decide +kernel
theorem d56_4 : D J56 4 (.aload_n 1) 1 := by decide +kernel
theorem d56_5 : D J56 5 (.aload_n 0) 1 := by decide +kernel
theorem d56_6 : D J56 6 (.getfield 35) 3 := by decide +kernel
theorem d56_9 : D J56 9 (.invokespecial 7) 3 := by decide +kernel
theorem d56_12 : D J56 12 (.areturn) 1 := by decide +kernel
theorem pd0 : parseMethodDescriptor "([CIILjava/lang/Void;)V" = some ⟨[(.array .char), .int, .int, (.object "java/lang/Void")], none⟩ := by decide +kernel
theorem pd1 : parseMethodDescriptor "()B" = some ⟨[], some .byte⟩ := by decide +kernel
theorem pd2 : parseMethodDescriptor "(Ljava/lang/String;)V" = some ⟨[(.object "java/lang/String")], none⟩ := by decide +kernel
theorem pd3 : parseMethodDescriptor "([BIB)V" = some ⟨[(.array .byte), .int, .byte], none⟩ := by decide +kernel
theorem pd4 : parseMethodDescriptor "(II)I" = some ⟨[.int, .int], some .int⟩ := by decide +kernel
theorem pd5 : parseMethodDescriptor "(III)I" = some ⟨[.int, .int, .int], some .int⟩ := by decide +kernel
theorem pd6 : parseMethodDescriptor "(I)I" = some ⟨[.int], some .int⟩ := by decide +kernel
theorem pd7 : parseMethodDescriptor "([BI)[B" = some ⟨[(.array .byte), .int], some (.array .byte)⟩ := by decide +kernel
theorem pd8 : parseMethodDescriptor "()I" = some ⟨[], some .int⟩ := by decide +kernel
theorem pd9 : parseMethodDescriptor "(I)V" = some ⟨[.int], none⟩ := by decide +kernel
theorem pd10 : parseMethodDescriptor "(ILjava/lang/String;)V" = some ⟨[.int, (.object "java/lang/String")], none⟩ := by decide +kernel
theorem pd11 : parseMethodDescriptor "(Ljava/lang/String;)Ljava/lang/AbstractStringBuilder;" = some ⟨[(.object "java/lang/String")], some (.object "java/lang/AbstractStringBuilder")⟩ := by decide +kernel
theorem pd12 : parseMethodDescriptor "(II)V" = some ⟨[.int, .int], none⟩ := by decide +kernel
theorem pd13 : parseMethodDescriptor "([BII)[B" = some ⟨[(.array .byte), .int, .int], some (.array .byte)⟩ := by decide +kernel
theorem pd14 : parseMethodDescriptor "()[B" = some ⟨[], some (.array .byte)⟩ := by decide +kernel
theorem pd15 : parseMethodDescriptor "()Z" = some ⟨[], some .boolean⟩ := by decide +kernel
theorem pd16 : parseMethodDescriptor "(Ljava/lang/AbstractStringBuilder;Ljava/lang/Void;)V" = some ⟨[(.object "java/lang/AbstractStringBuilder"), (.object "java/lang/Void")], none⟩ := by decide +kernel
theorem pd17 : parseMethodDescriptor "(Ljava/lang/StringBuilder;)V" = some ⟨[(.object "java/lang/StringBuilder")], none⟩ := by decide +kernel
theorem pd18 : parseMethodDescriptor "(C)Z" = some ⟨[.char], some .boolean⟩ := by decide +kernel
theorem pd19 : parseMethodDescriptor "(C)[B" = some ⟨[.char], some (.array .byte)⟩ := by decide +kernel
theorem pd20 : parseMethodDescriptor "([BB)V" = some ⟨[(.array .byte), .byte], none⟩ := by decide +kernel
theorem pd21 : parseMethodDescriptor "(C)Ljava/lang/AbstractStringBuilder;" = some ⟨[.char], some (.object "java/lang/AbstractStringBuilder")⟩ := by decide +kernel
theorem pd22 : parseMethodDescriptor "(II[B)I" = some ⟨[.int, .int, (.array .byte)], some .int⟩ := by decide +kernel
theorem pd23 : parseMethodDescriptor "(I)Ljava/lang/AbstractStringBuilder;" = some ⟨[.int], some (.object "java/lang/AbstractStringBuilder")⟩ := by decide +kernel
theorem pd24 : parseMethodDescriptor "()Ljava/lang/String;" = some ⟨[], some (.object "java/lang/String")⟩ := by decide +kernel
theorem pd25 : parseMethodDescriptor "(Ljava/lang/Object;)Ljava/lang/String;" = some ⟨[(.object "java/lang/Object")], some (.object "java/lang/String")⟩ := by decide +kernel
theorem pd26 : parseMethodDescriptor "(Ljava/lang/String;)Ljava/lang/StringBuilder;" = some ⟨[(.object "java/lang/String")], some (.object "java/lang/StringBuilder")⟩ := by decide +kernel
theorem pd27 : parseMethodDescriptor "()V" = some ⟨[], none⟩ := by decide +kernel
theorem pd28 : parseMethodDescriptor "(I)Ljava/lang/StringBuilder;" = some ⟨[.int], some (.object "java/lang/StringBuilder")⟩ := by decide +kernel
theorem pd29 : parseMethodDescriptor "(C)Ljava/lang/StringBuilder;" = some ⟨[.char], some (.object "java/lang/StringBuilder")⟩ := by decide +kernel
theorem pd30 : parseMethodDescriptor "(Ljava/lang/String;Lcom/example/estate4/estate4/jdbc/SelectText$Aliases;)V" = some ⟨[(.object "java/lang/String"), (.object "com/example/estate4/estate4/jdbc/SelectText$Aliases")], none⟩ := by decide +kernel
theorem pd31 : parseMethodDescriptor "(Ljava/lang/Object;)Ljava/lang/StringBuilder;" = some ⟨[(.object "java/lang/Object")], some (.object "java/lang/StringBuilder")⟩ := by decide +kernel
theorem pd32 : parseMethodDescriptor "([C)V" = some ⟨[(.array .char)], none⟩ := by decide +kernel
theorem pd33 : parseMethodDescriptor "(Ljava/lang/Object;)Z" = some ⟨[(.object "java/lang/Object")], some .boolean⟩ := by decide +kernel
theorem pd34 : parseMethodDescriptor "(ICC)Ljava/lang/String;" = some ⟨[.int, .char, .char], some (.object "java/lang/String")⟩ := by decide +kernel
theorem pd35 : parseMethodDescriptor "(Ljava/lang/String;)Ljava/lang/String;" = some ⟨[(.object "java/lang/String")], some (.object "java/lang/String")⟩ := by decide +kernel
theorem pd36 : parseMethodDescriptor "(C)Ljava/lang/String;" = some ⟨[.char], some (.object "java/lang/String")⟩ := by decide +kernel
theorem pd37 : parseMethodDescriptor "(Ljava/lang/String;)Lcom/example/estate4/estate4/jdbc/SelectText;" = some ⟨[(.object "java/lang/String")], some (.object "com/example/estate4/estate4/jdbc/SelectText")⟩ := by decide +kernel
def Q_s4e (Z : State) (x : Addr) (b : Addr) (h : Heap) (v : Option Value) (h' : Heap) (WL' FL' : List Addr) : Prop := ∃ t : Addr, v = none ∧ WL' = [] ∧ FL' = [t] ∧ Keep h h' [x] ∧ StrL Z h' x t []
theorem ct_s4e (cx : Cx a0 Z gC gF v_AL v_DO k_DO) (x : Addr) (b : Addr) (h : Heap) (WL FL : List Addr) (P0 : Exa Z h x "java/lang/String") (P1 : Fld Z h x "java/lang/String" "value" "[B" .null) (P2 : Fld Z h x "java/lang/String" "coder" "B" (.int 0)) (P3 : x ∈ WL) :
   Ct l Z EL1 n0 (⟨"java/lang/String", "<init>", "([CIILjava/lang/Void;)V"⟩ : MethodName) jdk_42_method_149_code 6 (Option.none : Option Jvm.ClassFile.FieldType) ({ frames := 1, cells := 4, slots := 8, locals := 12 } : Room) #[(.ref x), (.ref b), (.int 0), (.int 0), .null] h WL FL (Q_s4e Z x b h) := by
 refine Ct.of (plainFor_of_name pn0) ?_
 intro p e s m below meth c s1 hx w hml hnm hret hlk X0
 refine Wo.cast (f' := (mkF m 0 #[.val (.ref x), .val (.ref b), .val (.int 0), .val (.int 0), .val .null, .unset] [])) (by rfl) ?_
 have K0 : Keep h h [x] := Keep.refl _ _
 show Wo _ _ _ _ _ _ _ _ _ _ _ s1 (mkF m 0 #[.val (.ref x), .val (.ref b), .val (.int 0), .val (.int 0), .val .null, .unset] [])
 refine P.aloadN X0 hx 1 (hb w d3_0) rfl rfl rfl ?_
 refine X0.initO hx (w15 cx) (w16 cx) (w17 cx) (by rw [hml]; rfl) (hb w d3_1) (nle rfl) (W := 0) (nle rfl) (nle rfl) ?_
 intro T1 X1
 refine P.iloadN X1 hx 5 (hb w d3_4) rfl rfl ?_
 refine P.ifNo X1 hx 8 (hb w d3_5) (by decide) rfl ?_
 refine P.aloadN X1 hx 9 (hb w d3_8) rfl rfl rfl ?_
 refine X1.ldc hx (w18 cx) (strAtoms cx) (by decide) (vs := []) (z := (0 : Int32)) ⟨by decide, by decide⟩ (by decide) rfl (hb w d3_9) (n := 0) (nle rfl) (nle rfl) (nle rfl) (nle rfl) ?_
 intro T2 h2 a2 b2 k2 X2 E2 A2 C2 V2 B2
 have K3 := K0.ext E2
 refine X2.getF hx (host := "") (Or.inl (w24 cx)) Via.refl V2 (hb w d3_11) ?_
 intro T4 X4
 have F5 := P1.ext E2
 have F6 := P0.ext E2
 refine X4.putF hx (host := "") (Or.inl (w24 cx)) Via.refl F5 F6 (Or.inr ⟨(w20 cx), rfl, hnm⟩) (w5 cx) (ty := (.array .byte)) (by decide) rfl rfl P3 (hb w d3_14) ?_
 intro T7 h7 X7 W7 G7
 have K8 := K3.wr W7 (Or.inl (mg 0 rfl))
 refine P.aloadN X7 hx 18 (hb w d3_17) rfl rfl rfl ?_
 refine X7.ldc hx (w18 cx) (strAtoms cx) (by decide) (vs := []) (z := (0 : Int32)) ⟨by decide, by decide⟩ (by decide) rfl (hb w d3_18) (n := 0) (nle rfl) (nle rfl) (nle rfl) (nle rfl) ?_
 intro T9 h9 a9 b9 k9 X9 E9 A9 C9 V9 B9
 have K10 := K8.ext E9
 refine X9.getF hx (host := "") (Or.inl (w25 cx)) Via.refl C9 (hb w d3_20) ?_
 intro T11 X11
 have F12 := ((P2.ext E2).other W7 (Or.inr (slot_ne (Or.inr (w21 cx)) (Or.inr (w20 cx)) (by decide) (t := .byte) (t' := (.array .byte)) (by decide) (by decide)))).ext E9
 have F13 := (F6.wr W7).ext E9
 refine X11.putF hx (host := "") (Or.inl (w25 cx)) Via.refl F12 F13 (Or.inr ⟨(w21 cx), rfl, hnm⟩) (w5 cx) (ty := .byte) (by decide) rfl rfl P3 (hb w d3_23) ?_
 intro T14 h14 X14 W14 G14
 have K15 := K10.wr W14 (Or.inl (mg 0 rfl))
 have F16 := (G7.ext E9).other W14 (Or.inr (slot_ne (Or.inr (w20 cx)) (Or.inr (w21 cx)) (by decide) (t := (.array .byte)) (t' := .byte) (by decide) (by decide)))
 have F17 := F13.wr W14
 have F18 := ((B2.other W7 (X14.neF (mg 3 rfl) P3)).ext E9).other W14 (X14.neF (mg 3 rfl) P3)
 have S19 : StrL Z h14 x b2 [] := ⟨F17, F16, G14, ⟨_, F18⟩, fc0, nle rfl⟩
 have X20 := WS.fl (FL2 := (b2 :: FL)) X14 (fun y hy => (List.mem_cons.mp hy).elim (fun q => q ▸ (mg 3 rfl)) (fun q0 => (List.mem_append_right [a9, b9, a2, b2] q0)))
 exact WS.retV X20 (WL' := []) (FL' := [b2]) hx hret hlk (hb w d3_26) (nle rfl) (nle rfl) ⟨b2, rfl, rfl, rfl, K15, S19⟩
def Q_s1e (Z : State) (x : Addr) (b : Addr) (kb : ClassId) (dv : Value) (h : Heap) (v : Option Value) (h' : Heap) (WL' FL' : List Addr) : Prop := ∃ t : Addr, v = none ∧ WL' = [] ∧ FL' = [t] ∧ Keep h h' [x] ∧ StrL Z h' x t []
theorem ct_s1e (cx : Cx a0 Z gC gF v_AL v_DO k_DO) (x : Addr) (b : Addr) (kb : ClassId) (dv : Value) (h : Heap) (WL FL : List Addr) (P0 : Exa Z h x "java/lang/String") (P1 : Fld Z h x "java/lang/String" "value" "[B" .null) (P2 : Fld Z h x "java/lang/String" "coder" "B" (.int 0)) (P3 : x ∈ WL) (P4 : Arv Z h b kb .char (0 : Int32) [] dv) :
   Ct l Z EL1 n0 (⟨"java/lang/String", "<init>", "([C)V"⟩ : MethodName) jdk_42_method_3_code 2 (Option.none : Option Jvm.ClassFile.FieldType) ({ frames := 2, cells := 4, slots := 8, locals := 29 } : Room) #[(.ref x), (.ref b)] h WL FL (Q_s1e Z x b kb dv h) := by
 refine Ct.of (plainFor_of_name pn0) ?_
 intro p e s m below meth c s1 hx w hml hnm hret hlk X0
 refine Wo.cast (f' := (mkF m 0 #[.val (.ref x), .val (.ref b)] [])) (by rfl) ?_
 have K0 : Keep h h [x] := Keep.refl _ _
 show Wo _ _ _ _ _ _ _ _ _ _ _ s1 (mkF m 0 #[.val (.ref x), .val (.ref b)] [])
 refine P.aloadN X0 hx 1 (hb w d2_0) rfl rfl rfl ?_
 refine P.aloadN X0 hx 2 (hb w d2_1) rfl rfl rfl ?_
 refine P.iconst X0 hx 3 0 (hb w d2_2) rfl rfl ?_
 refine P.aloadN X0 hx 4 (hb w d2_3) rfl rfl rfl ?_
 refine WS.alen X0 hx P4 (hb w d2_4) ?_
 refine P.aconstNull X0 hx 6 (hb w d2_5) rfl ?_
 refine X0.callC hx rfl (w11 cx) (w12 cx) (w14 cx) (by decide) (Ct.pay (W := 0) (ct_s4e cx x b h _ _ P0 P1 P2 P3) (w14 cx) (w6 cx) (nle rfl) (nle rfl)) (by rw [hml]; rfl) (argsL := [.ref b, .int 0, .int 0, .null]) (rest := []) (lenOf pd0 rfl) rfl rfl (nle rfl) (hb w d2_6) (nle rfl) (nle rfl) ?_
 rintro T1 h1 _ _ _ X1 ⟨a2, rfl, rfl, rfl, J1, G3⟩
 have K4 := K0.trans J1 (allS (Or.inl (mg 0 rfl)) all0)
 exact WS.retV X1 (WL' := []) (FL' := [a2]) hx hret hlk (hb w d2_9) (nle rfl) (nle rfl) ⟨a2, rfl, rfl, rfl, K4, G3⟩
def Q_scoder (Z : State) (x : Addr) (h : Heap) (v : Option Value) (h' : Heap) (WL' FL' : List Addr) : Prop := v = some (.int 0) ∧ WL' = [] ∧ FL' = [] ∧ h' = h
theorem ct_scoder (cx : Cx a0 Z gC gF v_AL v_DO k_DO) (x : Addr) (h : Heap) (WL FL : List Addr) (P0 : Fld Z h x "java/lang/String" "coder" "B" (.int 0)) :
   Ct l Z EL1 n0 (⟨"java/lang/String", "coder", "()B"⟩ : MethodName) jdk_42_method_152_code 1 (Option.some FieldType.byte) ({ frames := 0, cells := 0, slots := 0, locals := 0 } : Room) #[(.ref x)] h WL FL (Q_scoder Z x h) := by
 refine Ct.of (plainFor_of_name pn0) ?_
 intro p e s m below meth c s1 hx w hml hnm hret hlk X0
 refine Wo.cast (f' := (mkF m 0 #[.val (.ref x)] [])) (by rfl) ?_
 show Wo _ _ _ _ _ _ _ _ _ _ _ s1 (mkF m 0 #[.val (.ref x)] [])
 refine X0.getS hx (w125 cx) Via.refl (S_C cx) (hb w d17_0) ?_
 intro T1 X1
 refine P.ifNo X1 hx 6 (hb w d17_3) ((if0 _ _).trans (feq (N_C cx)).1) rfl ?_
 refine P.aloadN X1 hx 7 (hb w d17_6) rfl rfl rfl ?_
 refine X1.getF hx (host := "") (Or.inl (w25 cx)) Via.refl P0 (hb w d17_7) ?_
 intro T2 X2
 refine P.goto X2 hx 14 (hb w d17_10) (by decide) (by decide) ?_
 exact WS.retN X2 (WL' := []) (FL' := []) hx (t := .byte) hret (by simp) hlk (hb w d17_14) (nle rfl) (nle rfl) ⟨rfl, rfl, rfl, rfl⟩
def Q_getby (Z : State) (g : Addr) (u : Addr) (t : Addr) (kt : ClassId) (cap : Nat) (cs : List Int32) (ds : List Int32) (h : Heap) (v : Option Value) (h' : Heap) (WL' FL' : List Addr) : Prop := v = none ∧ WL' = [] ∧ FL' = [] ∧ Keep h h' [t] ∧ Arv Z h' t kt .byte (Int32.ofNat cap) (lat (cs ++ ds)) (.int 0)
theorem ct_getby (cx : Cx a0 Z gC gF v_AL v_DO k_DO) (g : Addr) (u : Addr) (t : Addr) (kt : ClassId) (cap : Nat) (cs : List Int32) (ds : List Int32) (h : Heap) (WL FL : List Addr) (P0 : StrL Z h g u ds) (P1 : Arv Z h t kt .byte (Int32.ofNat cap) (lat cs) (.int 0)) (P2 : t ∈ WL) (hBB : cs.length + ds.length ≤ cap) (hc : cap ≤ 4000) :
   Ct l Z EL1 n0 (⟨"java/lang/String", "getBytes", "([BIB)V"⟩ : MethodName) jdk_42_method_147_code 4 (Option.none : Option Jvm.ClassFile.FieldType) ({ frames := 1, cells := 0, slots := 0, locals := 18 } : Room) #[(.ref g), (.ref t), (.int (Int32.ofNat cs.length)), (.int 0)] h WL FL (Q_getby Z g u t kt cap cs ds h) := by
 refine Ct.of (plainFor_of_name pn0) ?_
 intro p e s m below meth c s1 hx w hml hnm hret hlk X0
 refine Wo.cast (f' := (mkF m 0 #[.val (.ref g), .val (.ref t), .val (.int (Int32.ofNat cs.length)), .val (.int 0)] [])) (by rfl) ?_
 have K0 : Keep h h [t] := Keep.refl _ _
 show Wo _ _ _ _ _ _ _ _ _ _ _ s1 (mkF m 0 #[.val (.ref g), .val (.ref t), .val (.int (Int32.ofNat cs.length)), .val (.int 0)] [])
 refine P.aloadN X0 hx 1 (hb w d21_0) rfl rfl rfl ?_
 obtain ⟨k1, A1⟩ := P0.2.2.2.1
 refine X0.callV hx (w120 cx) (w121 cx) (w123 cx) (w122 cx) (fun _ hZ => nf hZ (w123 cx)) (by decide) P0.1 (Ct.pay (W := 0) (ct_scoder cx g h _ _ P0.2.2.1) (w124 cx) (w6 cx) (nle rfl) (nle rfl)) (by rw [hml]; rfl) (argsL := []) (rest := []) (lenOf pd1 rfl) rfl rfl (nle rfl) (hb w d21_1) (nle rfl) (nle rfl) ?_
 rintro T2 h2 _ _ _ X2 ⟨rfl, rfl, rfl, J2⟩
 rw [J2] at X2
 refine P.iloadN X2 hx 5 (hb w d21_4) rfl rfl ?_
 refine P.icmpNo X2 hx 8 (hb w d21_5) (by decide) rfl ?_
 refine P.aloadN X2 hx 9 (hb w d21_8) rfl rfl rfl ?_
 refine X2.getF hx (host := "") (Or.inl (w24 cx)) Via.refl P0.2.1 (hb w d21_9) ?_
 intro T3 X3
 refine P.iconst X3 hx 13 0 (hb w d21_12) rfl rfl ?_
 refine P.aloadN X3 hx 14 (hb w d21_13) rfl rfl rfl ?_
 refine P.iloadN X3 hx 15 (hb w d21_14) rfl rfl ?_
 refine P.iloadN X3 hx 16 (hb w d21_15) rfl rfl ?_
 refine P.ishl X3 hx 17 (z := (Int32.ofNat cs.length)) (hb w d21_16) (by rw [shl0]) rfl ?_
 refine P.aloadN X3 hx 18 (hb w d21_17) rfl rfl rfl ?_
 refine X3.getF hx (host := "") (Or.inl (w24 cx)) Via.refl P0.2.1 (hb w d21_18) ?_
 intro T4 X4
 refine WS.alen X4 hx A1 (hb w d21_21) ?_
 refine WS.cpL (cs := cs) (ds := ds) X4 hx (w149 cx) (w152 cx) (w150 cx) (w151 cx) A1 P1 (Nat.le_refl _) hBB (show ds.length ≤ 4000 by omega) hc P2 (by rw [hml]; rfl) (hb w d21_22) (nle rfl) (W := 0) (nle rfl) (nle rfl) ?_
 intro T5 h5 X5 J5 G5
 have K6 := K0.trans J5 (allS (Or.inl (mg 0 rfl)) all0)
 refine P.goto X5 hx 43 (hb w d21_25) (by decide) (by decide) ?_
 exact WS.retV X5 (WL' := []) (FL' := []) hx hret hlk (hb w d21_43) (nle rfl) (nle rfl) ⟨rfl, rfl, rfl, K6, G5⟩
def Q_infl (Z : State) (x : Addr) (g : Addr) (u : Addr) (ds : List Int32) (h : Heap) (v : Option Value) (h' : Heap) (WL' FL' : List Addr) : Prop := v = none ∧ WL' = [] ∧ FL' = [] ∧ h' = h
theorem ct_infl (cx : Cx a0 Z gC gF v_AL v_DO k_DO) (x : Addr) (g : Addr) (u : Addr) (ds : List Int32) (h : Heap) (WL FL : List Addr) (P0 : Fld Z h x "java/lang/AbstractStringBuilder" "coder" "B" (.int 0)) (P1 : StrL Z h g u ds) :
   Ct l Z EL1 n0 (⟨"java/lang/AbstractStringBuilder", "inflateIfNeededFor", "(Ljava/lang/String;)V"⟩ : MethodName) jdk_68_method_71_code 2 (Option.none : Option Jvm.ClassFile.FieldType) ({ frames := 1, cells := 0, slots := 0, locals := 13 } : Room) #[(.ref x), (.ref g)] h WL FL (Q_infl Z x g u ds h) := by
 refine Ct.of (plainFor_of_name pn1) ?_
 intro p e s m below meth c s1 hx w hml hnm hret hlk X0
 refine Wo.cast (f' := (mkF m 0 #[.val (.ref x), .val (.ref g)] [])) (by rfl) ?_
 show Wo _ _ _ _ _ _ _ _ _ _ _ s1 (mkF m 0 #[.val (.ref x), .val (.ref g)] [])
 refine X0.getS hx (w86 cx) Via.refl (S_C cx) (hb w d20_0) ?_
 intro T1 X1
 refine P.ifNo X1 hx 6 (hb w d20_3) ((if0 _ _).trans (feq (N_C cx)).1) rfl ?_
 refine P.aloadN X1 hx 7 (hb w d20_6) rfl rfl rfl ?_
 refine X1.getF hx (host := "") (Or.inl (w89 cx)) Via.refl P0 (hb w d20_7) ?_
 intro T2 X2
 refine P.aloadN X2 hx 11 (hb w d20_10) rfl rfl rfl ?_
 obtain ⟨k3, A3⟩ := P1.2.2.2.1
 refine X2.callV hx (w143 cx) (w121 cx) (w123 cx) (w122 cx) (fun _ hZ => nf hZ (w123 cx)) (by decide) P1.1 (Ct.pay (W := 1) (ct_scoder cx g h _ _ P1.2.2.1) (w124 cx) (w6 cx) (nle rfl) (nle rfl)) (by rw [hml]; rfl) (argsL := []) (rest := [.int 0]) (lenOf pd1 rfl) rfl rfl (nle rfl) (hb w d20_11) (nle rfl) (nle rfl) ?_
 rintro T4 h4 _ _ _ X4 ⟨rfl, rfl, rfl, J4⟩
 rw [J4] at X4
 refine P.icmpYes X4 hx 21 (hb w d20_14) (by decide) (by decide) (by decide) ?_
 exact WS.retV X4 (WL' := []) (FL' := []) hx hret hlk (hb w d20_21) (nle rfl) (nle rfl) ⟨rfl, rfl, rfl, rfl⟩
def Q_putsa (Z : State) (x : Addr) (g : Addr) (u : Addr) (t : Addr) (kt : ClassId) (cap : Nat) (cs : List Int32) (ds : List Int32) (h : Heap) (v : Option Value) (h' : Heap) (WL' FL' : List Addr) : Prop := v = none ∧ WL' = [] ∧ FL' = [] ∧ Keep h h' [t] ∧ Arv Z h' t kt .byte (Int32.ofNat cap) (lat (cs ++ ds)) (.int 0)
theorem ct_putsa (cx : Cx a0 Z gC gF v_AL v_DO k_DO) (x : Addr) (g : Addr) (u : Addr) (t : Addr) (kt : ClassId) (cap : Nat) (cs : List Int32) (ds : List Int32) (h : Heap) (WL FL : List Addr) (P0 : Exa Z h x "java/lang/StringBuilder") (P1 : Fld Z h x "java/lang/AbstractStringBuilder" "value" "[B" (.ref t)) (P2 : Fld Z h x "java/lang/AbstractStringBuilder" "coder" "B" (.int 0)) (P3 : StrL Z h g u ds) (P4 : Arv Z h t kt .byte (Int32.ofNat cap) (lat cs) (.int 0)) (P5 : t ∈ WL) (hBB : cs.length + ds.length ≤ cap) (hc : cap ≤ 4000) :
   Ct l Z EL1 n0 (⟨"java/lang/AbstractStringBuilder", "putStringAt", "(ILjava/lang/String;)V"⟩ : MethodName) jdk_68_method_73_code 3 (Option.none : Option Jvm.ClassFile.FieldType) ({ frames := 2, cells := 0, slots := 0, locals := 33 } : Room) #[(.ref x), (.int (Int32.ofNat cs.length)), (.ref g)] h WL FL (Q_putsa Z x g u t kt cap cs ds h) := by
 refine Ct.of (plainFor_of_name pn1) ?_
 intro p e s m below meth c s1 hx w hml hnm hret hlk X0
 refine Wo.cast (f' := (mkF m 0 #[.val (.ref x), .val (.int (Int32.ofNat cs.length)), .val (.ref g)] [])) (by rfl) ?_
 have K0 : Keep h h [t] := Keep.refl _ _
 show Wo _ _ _ _ _ _ _ _ _ _ _ s1 (mkF m 0 #[.val (.ref x), .val (.int (Int32.ofNat cs.length)), .val (.ref g)] [])
 refine P.aloadN X0 hx 1 (hb w d19_0) rfl rfl rfl ?_
 refine P.aloadN X0 hx 2 (hb w d19_1) rfl rfl rfl ?_
 refine X0.callV hx (w138 cx) (declM (w139 cx) (w142 cx)) (w141 cx) (w139 cx) (fun _ hZ => nf hZ (w141 cx)) (by decide) P0 (Ct.pay (W := 0) (ct_infl cx x g u ds h _ _ P2 P3) (w142 cx) (w83 cx) (nle rfl) (nle rfl)) (by rw [hml]; rfl) (argsL := [.ref g]) (rest := []) (lenOf pd2 rfl) rfl rfl (nle rfl) (hb w d19_2) (nle rfl) (nle rfl) ?_
 rintro T1 h1 _ _ _ X1 ⟨rfl, rfl, rfl, J1⟩
 rw [J1] at X1
 refine P.aloadN X1 hx 6 (hb w d19_5) rfl rfl rfl ?_
 refine P.aloadN X1 hx 7 (hb w d19_6) rfl rfl rfl ?_
 refine X1.getF hx (host := "") (Or.inl (w87 cx)) Via.refl P1 (hb w d19_7) ?_
 intro T2 X2
 refine P.iloadN X2 hx 11 (hb w d19_10) rfl rfl ?_
 refine P.aloadN X2 hx 12 (hb w d19_11) rfl rfl rfl ?_
 refine X2.getF hx (host := "") (Or.inl (w89 cx)) Via.refl P2 (hb w d19_12) ?_
 intro T3 X3
 refine X3.callV hx (w144 cx) (w145 cx) (w147 cx) (w146 cx) (fun _ hZ => nf hZ (w147 cx)) (by decide) P3.1 (Ct.pay (W := 0) (ct_getby cx g u t kt cap cs ds h _ _ P3 P4 P5 hBB hc) (w148 cx) (w6 cx) (nle rfl) (nle rfl)) (by rw [hml]; rfl) (argsL := [.ref t, .int (Int32.ofNat cs.length), .int 0]) (rest := []) (lenOf pd3 rfl) rfl rfl (nle rfl) (hb w d19_15) (nle rfl) (nle rfl) ?_
 rintro T4 h4 _ _ _ X4 ⟨rfl, rfl, rfl, J4, G5⟩
 have K6 := K0.trans J4 (allS (Or.inl (mg 0 rfl)) all0)
 exact WS.retV X4 (WL' := []) (FL' := []) hx hret hlk (hb w d19_18) (nle rfl) (nle rfl) ⟨rfl, rfl, rfl, K6, G5⟩
def Q_enscap (Z : State) (x : Addr) (t : Addr) (kt : ClassId) (cap : Nat) (cs : List Int32) (z : Int32) (h : Heap) (v : Option Value) (h' : Heap) (WL' FL' : List Addr) : Prop := v = none ∧ WL' = [] ∧ FL' = [] ∧ h' = h
theorem ct_enscap (cx : Cx a0 Z gC gF v_AL v_DO k_DO) (x : Addr) (t : Addr) (kt : ClassId) (cap : Nat) (cs : List Int32) (z : Int32) (h : Heap) (WL FL : List Addr) (P0 : Fld Z h x "java/lang/AbstractStringBuilder" "value" "[B" (.ref t)) (P1 : Fld Z h x "java/lang/AbstractStringBuilder" "coder" "B" (.int 0)) (P2 : Arv Z h t kt .byte (Int32.ofNat cap) (lat cs) (.int 0)) (hz : ¬ ((0 : Int32) < (z - (Int32.ofNat cap)))) :
   Ct l Z EL1 n0 (⟨"java/lang/AbstractStringBuilder", "ensureCapacityInternal", "(I)V"⟩ : MethodName) jdk_68_method_9_code 3 (Option.none : Option Jvm.ClassFile.FieldType) ({ frames := 0, cells := 0, slots := 0, locals := 0 } : Room) #[(.ref x), (.int z)] h WL FL (Q_enscap Z x t kt cap cs z h) := by
 refine Ct.of (plainFor_of_name pn1) ?_
 intro p e s m below meth c s1 hx w hml hnm hret hlk X0
 refine Wo.cast (f' := (mkF m 0 #[.val (.ref x), .val (.int z), .unset] [])) (by rfl) ?_
 show Wo _ _ _ _ _ _ _ _ _ _ _ s1 (mkF m 0 #[.val (.ref x), .val (.int z), .unset] [])
 refine P.aloadN X0 hx 1 (hb w d18_0) rfl rfl rfl ?_
 refine X0.getF hx (host := "") (Or.inl (w87 cx)) Via.refl P0 (hb w d18_1) ?_
 intro T1 X1
 refine WS.alen X1 hx P2 (hb w d18_4) ?_
 refine P.aloadN X1 hx 6 (hb w d18_5) rfl rfl rfl ?_
 refine X1.getF hx (host := "") (Or.inl (w89 cx)) Via.refl P1 (hb w d18_6) ?_
 intro T2 X2
 refine P.ishr X2 hx 10 (z := (Int32.ofNat cap)) (hb w d18_9) (by rw [shr0]) rfl ?_
 refine P.istoreN X2 hx 11 #[.val (.ref x), .val (.int z), .val (.int (Int32.ofNat cap))] (hb w d18_10) rfl rfl ?_
 refine P.iloadN X2 hx 12 (hb w d18_11) rfl rfl ?_
 refine P.iloadN X2 hx 13 (hb w d18_12) rfl rfl ?_
 refine P.isub X2 hx 14 (z := (z - (Int32.ofNat cap))) (hb w d18_13) rfl rfl ?_
 refine P.ifYes X2 hx 38 (hb w d18_14) ((if0 _ _).trans (flt hz).2.2.2) (by decide) (by decide) ?_
 exact WS.retV X2 (WL' := []) (FL' := []) hx hret hlk (hb w d18_38) (nle rfl) (nle rfl) ⟨rfl, rfl, rfl, rfl⟩
def Q_maxqr (Z : State) (a : Int32) (b : Int32) (h : Heap) (v : Option Value) (h' : Heap) (WL' FL' : List Addr) : Prop := v = some (.int b) ∧ WL' = [] ∧ FL' = [] ∧ h' = h
theorem ct_maxqr (cx : Cx a0 Z gC gF v_AL v_DO k_DO) (a : Int32) (b : Int32) (h : Heap) (WL FL : List Addr) (hz : a < b) :
   Ct l Z EL1 n0 (⟨"java/lang/Math", "max", "(II)I"⟩ : MethodName) jdk_29_method_65_code 2 (Option.some FieldType.int) ({ frames := 0, cells := 0, slots := 0, locals := 0 } : Room) #[(.int a), (.int b)] h WL FL (Q_maxqr Z a b h) := by
 refine Ct.of (by decide +kernel) ?_
 intro p e s m below meth c s1 hx w hml hnm hret hlk X0
 refine Wo.cast (f' := (mkF m 0 #[.val (.int a), .val (.int b)] [])) (by rfl) ?_
 show Wo _ _ _ _ _ _ _ _ _ _ _ s1 (mkF m 0 #[.val (.int a), .val (.int b)] [])
 refine P.iloadN X0 hx 1 (hb w d46_0) rfl rfl ?_
 refine P.iloadN X0 hx 2 (hb w d46_1) rfl rfl ?_
 refine P.icmpYes X0 hx 9 (hb w d46_2) (tlt hz).1 (by decide) (by decide) ?_
 refine P.iloadN X0 hx 10 (hb w d46_9) rfl rfl ?_
 exact WS.retI X0 (WL' := []) (FL' := []) hx hret hlk (hb w d46_10) (nle rfl) (nle rfl) ⟨rfl, rfl, rfl, rfl⟩
def Q_nlenA (Z : State) (cap : Nat) (n : Nat) (h : Heap) (v : Option Value) (h' : Heap) (WL' FL' : List Addr) : Prop := v = some (.int (Int32.ofNat (2 * cap + 2))) ∧ WL' = [] ∧ FL' = [] ∧ h' = h
theorem ct_nlenA (cx : Cx a0 Z gC gF v_AL v_DO k_DO) (cap : Nat) (n : Nat) (h : Heap) (WL FL : List Addr) (hg : cap < n) (hk : n < 2 * cap + 2) (hc : (2 * cap + 2) ≤ 4000) :
   Ct l Z EL1 n0 (⟨"jdk/internal/util/ArraysSupport", "newLength", "(III)I"⟩ : MethodName) jdk_48_method_27_code 4 (Option.some FieldType.int) ({ frames := 1, cells := 0, slots := 0, locals := 14 } : Room) #[(.int (Int32.ofNat cap)), (.int (Int32.ofNat (n - cap))), (.int (Int32.ofNat (cap + 2)))] h WL FL (Q_nlenA Z cap n h) := by
 refine Ct.of (plainFor_of_name pn2) ?_
 intro p e s m below meth c s1 hx w hml hnm hret hlk X0
 refine Wo.cast (f' := (mkF m 0 #[.val (.int (Int32.ofNat cap)), .val (.int (Int32.ofNat (n - cap))), .val (.int (Int32.ofNat (cap + 2))), .unset] [])) (by rfl) ?_
 show Wo _ _ _ _ _ _ _ _ _ _ _ s1 (mkF m 0 #[.val (.int (Int32.ofNat cap)), .val (.int (Int32.ofNat (n - cap))), .val (.int (Int32.ofNat (cap + 2))), .unset] [])
 refine P.iloadN X0 hx 1 (hb w d45_0) rfl rfl ?_
 refine P.iloadN X0 hx 2 (hb w d45_1) rfl rfl ?_
 refine P.iloadN X0 hx 3 (hb w d45_2) rfl rfl ?_
 refine X0.callS hx (w262 cx) (w263 cx) (w215 cx) (w264 cx) (by decide) (Ct.pay (W := 1) (ct_maxqr cx (Int32.ofNat (n - cap)) (Int32.ofNat (cap + 2)) h _ _ ((oLt (by omega) (by omega)).mpr (by omega))) (w264 cx) (w215 cx) (nle rfl) (nle rfl)) (by rw [hml]; rfl) (argsL := [.int (Int32.ofNat (n - cap)), .int (Int32.ofNat (cap + 2))]) (rest := [.int (Int32.ofNat cap)]) (lenOf pd4 rfl) rfl rfl (nle rfl) (hb w d45_3) (nle rfl) (nle rfl) ?_
 rintro T1 h1 _ _ _ X1 ⟨rfl, rfl, rfl, J1⟩
 rw [J1] at X1
 refine P.iadd X1 hx 7 (z := (Int32.ofNat (2 * cap + 2))) (hb w d45_6) (by rw [oAd, show cap + (cap + 2) = 2 * cap + 2 by omega]) rfl ?_
 refine P.istoreN X1 hx 8 #[.val (.int (Int32.ofNat cap)), .val (.int (Int32.ofNat (n - cap))), .val (.int (Int32.ofNat (cap + 2))), .val (.int (Int32.ofNat (2 * cap + 2)))] (hb w d45_7) rfl rfl ?_
 refine P.iconst X1 hx 9 0 (hb w d45_8) rfl rfl ?_
 refine P.iloadN X1 hx 10 (hb w d45_9) rfl rfl ?_
 refine P.icmpNo X1 hx 13 (hb w d45_10) (tlt (oPos (by omega) (by omega))).2.1 rfl ?_
 refine P.iloadN X1 hx 14 (hb w d45_13) rfl rfl ?_
 refine WS.ldcI X1 hx (w265 cx) (hb w d45_14) ?_
 refine P.icmpNo X1 hx 19 (hb w d45_16) (flt (oBig hc)).2.2.1 rfl ?_
 refine P.iloadN X1 hx 20 (hb w d45_19) rfl rfl ?_
 exact WS.retI X1 (WL' := []) (FL' := []) hx hret hlk (hb w d45_20) (nle rfl) (nle rfl) ⟨rfl, rfl, rfl, rfl⟩
def Q_ncapA (Z : State) (x : Addr) (t : Addr) (kt : ClassId) (cs : List Int32) (cap : Nat) (n : Nat) (h : Heap) (v : Option Value) (h' : Heap) (WL' FL' : List Addr) : Prop := v = some (.int (Int32.ofNat (2 * cap + 2))) ∧ WL' = [] ∧ FL' = [] ∧ h' = h
theorem ct_ncapA (cx : Cx a0 Z gC gF v_AL v_DO k_DO) (x : Addr) (t : Addr) (kt : ClassId) (cs : List Int32) (cap : Nat) (n : Nat) (h : Heap) (WL FL : List Addr) (P0 : Exa Z h x "java/lang/StringBuilder") (P1 : Fld Z h x "java/lang/AbstractStringBuilder" "value" "[B" (.ref t)) (P2 : Fld Z h x "java/lang/AbstractStringBuilder" "coder" "B" (.int 0)) (P3 : Arv Z h t kt .byte (Int32.ofNat cap) (lat cs) (.int 0)) (hg : cap < n) (hk : n < 2 * cap + 2) (hc : (2 * cap + 2) ≤ 4000) :
   Ct l Z EL1 n0 (⟨"java/lang/AbstractStringBuilder", "newCapacity", "(I)I"⟩ : MethodName) jdk_68_method_10_code 6 (Option.some FieldType.int) ({ frames := 2, cells := 0, slots := 0, locals := 29 } : Room) #[(.ref x), (.int (Int32.ofNat n))] h WL FL (Q_ncapA Z x t kt cs cap n h) := by
 refine Ct.of (plainFor_of_name pn1) ?_
 intro p e s m below meth c s1 hx w hml hnm hret hlk X0
 refine Wo.cast (f' := (mkF m 0 #[.val (.ref x), .val (.int (Int32.ofNat n)), .unset, .unset, .unset, .unset] [])) (by rfl) ?_
 show Wo _ _ _ _ _ _ _ _ _ _ _ s1 (mkF m 0 #[.val (.ref x), .val (.int (Int32.ofNat n)), .unset, .unset, .unset, .unset] [])
 refine P.aloadN X0 hx 1 (hb w d44_0) rfl rfl rfl ?_
 refine X0.getF hx (host := "") (Or.inl (w87 cx)) Via.refl P1 (hb w d44_1) ?_
 intro T1 X1
 refine WS.alen X1 hx P3 (hb w d44_4) ?_
 refine P.istoreN X1 hx 6 #[.val (.ref x), .val (.int (Int32.ofNat n)), .val (.int (Int32.ofNat cap)), .unset, .unset, .unset] (hb w d44_5) rfl rfl ?_
 refine P.iloadN X1 hx 7 (hb w d44_6) rfl rfl ?_
 refine P.aloadN X1 hx 8 (hb w d44_7) rfl rfl rfl ?_
 refine X1.getF hx (host := "") (Or.inl (w89 cx)) Via.refl P2 (hb w d44_8) ?_
 intro T2 X2
 refine P.ishl X2 hx 12 (z := (Int32.ofNat n)) (hb w d44_11) (by rw [shl0]) rfl ?_
 refine P.istoreN X2 hx 13 #[.val (.ref x), .val (.int (Int32.ofNat n)), .val (.int (Int32.ofNat cap)), .val (.int (Int32.ofNat n)), .unset, .unset] (hb w d44_12) rfl rfl ?_
 refine P.iloadN X2 hx 14 (hb w d44_13) rfl rfl ?_
 refine P.iloadN X2 hx 15 (hb w d44_14) rfl rfl ?_
 refine P.isub X2 hx 16 (z := (Int32.ofNat (n - cap))) (hb w d44_15) (by rw [oSb (Nat.le_of_lt hg)]) rfl ?_
 refine P.istore X2 hx 18 #[.val (.ref x), .val (.int (Int32.ofNat n)), .val (.int (Int32.ofNat cap)), .val (.int (Int32.ofNat n)), .val (.int (Int32.ofNat (n - cap))), .unset] (hb w d44_16) rfl rfl ?_
 refine P.iloadN X2 hx 19 (hb w d44_18) rfl rfl ?_
 refine P.iload X2 hx 21 (hb w d44_19) rfl rfl ?_
 refine P.iloadN X2 hx 22 (hb w d44_21) rfl rfl ?_
 refine P.iconst X2 hx 23 2 (hb w d44_22) rfl rfl ?_
 refine P.aloadN X2 hx 24 (hb w d44_23) rfl rfl rfl ?_
 refine X2.getF hx (host := "") (Or.inl (w89 cx)) Via.refl P2 (hb w d44_24) ?_
 intro T3 X3
 refine P.ishl X3 hx 28 (z := (2 : Int32)) (hb w d44_27) rfl rfl ?_
 refine P.iadd X3 hx 29 (z := (Int32.ofNat (cap + 2))) (hb w d44_28) (by rw [oA2]) rfl ?_
 refine X3.callS hx (w258 cx) (w259 cx) (w260 cx) (w261 cx) (by decide) (Ct.pay (W := 0) (ct_nlenA cx cap n h _ _ hg hk hc) (w261 cx) (w260 cx) (nle rfl) (nle rfl)) (by rw [hml]; rfl) (argsL := [.int (Int32.ofNat cap), .int (Int32.ofNat (n - cap)), .int (Int32.ofNat (cap + 2))]) (rest := []) (lenOf pd5 rfl) rfl rfl (nle rfl) (hb w d44_29) (nle rfl) (nle rfl) ?_
 rintro T4 h4 _ _ _ X4 ⟨rfl, rfl, rfl, J4⟩
 rw [J4] at X4
 refine P.istore X4 hx 34 #[.val (.ref x), .val (.int (Int32.ofNat n)), .val (.int (Int32.ofNat cap)), .val (.int (Int32.ofNat n)), .val (.int (Int32.ofNat (n - cap))), .val (.int (Int32.ofNat (2 * cap + 2)))] (hb w d44_32) rfl rfl ?_
 refine P.iload X4 hx 36 (hb w d44_34) rfl rfl ?_
 refine WS.ldcI X4 hx (w266 cx) (hb w d44_36) ?_
 refine P.icmpYes X4 hx 51 (hb w d44_38) (feq (oMax hc)).2 (by decide) (by decide) ?_
 refine P.iload X4 hx 53 (hb w d44_51) rfl rfl ?_
 refine P.aloadN X4 hx 54 (hb w d44_53) rfl rfl rfl ?_
 refine X4.getF hx (host := "") (Or.inl (w89 cx)) Via.refl P2 (hb w d44_54) ?_
 intro T5 X5
 refine P.ishr X5 hx 58 (z := (Int32.ofNat (2 * cap + 2))) (hb w d44_57) (by rw [shr0]) rfl ?_
 exact WS.retI X5 (WL' := []) (FL' := []) hx hret hlk (hb w d44_58) (nle rfl) (nle rfl) ⟨rfl, rfl, rfl, rfl⟩
def Q_minql (Z : State) (a : Int32) (b : Int32) (h : Heap) (v : Option Value) (h' : Heap) (WL' FL' : List Addr) : Prop := v = some (.int a) ∧ WL' = [] ∧ FL' = [] ∧ h' = h
theorem ct_minql (cx : Cx a0 Z gC gF v_AL v_DO k_DO) (a : Int32) (b : Int32) (h : Heap) (WL FL : List Addr) (hz : ¬ (b < a)) :
   Ct l Z EL1 n0 (⟨"java/lang/Math", "min", "(II)I"⟩ : MethodName) jdk_29_method_69_code 2 (Option.some FieldType.int) ({ frames := 0, cells := 0, slots := 0, locals := 0 } : Room) #[(.int a), (.int b)] h WL FL (Q_minql Z a b h) := by
 refine Ct.of (by decide +kernel) ?_
 intro p e s m below meth c s1 hx w hml hnm hret hlk X0
 refine Wo.cast (f' := (mkF m 0 #[.val (.int a), .val (.int b)] [])) (by rfl) ?_
 show Wo _ _ _ _ _ _ _ _ _ _ _ s1 (mkF m 0 #[.val (.int a), .val (.int b)] [])
 refine P.iloadN X0 hx 1 (hb w d36_0) rfl rfl ?_
 refine P.iloadN X0 hx 2 (hb w d36_1) rfl rfl ?_
 refine P.icmpNo X0 hx 5 (hb w d36_2) (flt hz).2.2.1 rfl ?_
 refine P.iloadN X0 hx 6 (hb w d36_5) rfl rfl ?_
 refine P.goto X0 hx 10 (hb w d36_6) (by decide) (by decide) ?_
 exact WS.retI X0 (WL' := []) (FL' := []) hx hret hlk (hb w d36_10) (nle rfl) (nle rfl) ⟨rfl, rfl, rfl, rfl⟩
def Q_cpof (Z : State) (t : Addr) (kt : ClassId) (cap : Nat) (cs : List Int32) (w2 : Nat) (h : Heap) (v : Option Value) (h' : Heap) (WL' FL' : List Addr) : Prop := ∃ u : Addr, ∃ ku : ClassId, v = some (.ref u) ∧ WL' = [u] ∧ FL' = [] ∧ Keep h h' [] ∧ h.size ≤ u ∧ Arv Z h' u ku .byte (Int32.ofNat w2) (lat cs) (.int 0) ∧ Exa Z h' u "[B"
theorem ct_cpof (cx : Cx a0 Z gC gF v_AL v_DO k_DO) (t : Addr) (kt : ClassId) (cap : Nat) (cs : List Int32) (w2 : Nat) (h : Heap) (WL FL : List Addr) (P0 : Arv Z h t kt .byte (Int32.ofNat cap) (lat cs) (.int 0)) (hA : cs.length ≤ cap) (hlt : cap < w2) (hc : w2 ≤ 4000) (hG : w2 ≤ 70) :
   Ct l Z EL1 n0 (⟨"java/util/Arrays", "copyOf", "([BI)[B"⟩ : MethodName) jdk_65_method_121_code 3 (Option.some (FieldType.array FieldType.byte)) ({ frames := 1, cells := 1, slots := 70, locals := 18 } : Room) #[(.ref t), (.int (Int32.ofNat w2))] h WL FL (Q_cpof Z t kt cap cs w2 h) := by
 refine Ct.of (plainFor_of_name pn3) ?_
 intro p e s m below meth c s1 hx w hml hnm hret hlk X0
 refine Wo.cast (f' := (mkF m 0 #[.val (.ref t), .val (.int (Int32.ofNat w2)), .unset] [])) (by rfl) ?_
 have K0 : Keep h h [] := Keep.refl _ _
 show Wo _ _ _ _ _ _ _ _ _ _ _ s1 (mkF m 0 #[.val (.ref t), .val (.int (Int32.ofNat w2)), .unset] [])
 refine P.iloadN X0 hx 1 (hb w d47_0) rfl rfl ?_
 refine P.aloadN X0 hx 2 (hb w d47_1) rfl rfl rfl ?_
 refine WS.alen X0 hx P0 (hb w d47_2) ?_
 refine P.icmpYes X0 hx 14 (hb w d47_3) (feq (fun q => Nat.ne_of_gt hlt ((oEq (by omega) (by omega)).mp q))).2 (by decide) (by decide) ?_
 refine P.iloadN X0 hx 15 (hb w d47_14) rfl rfl ?_
 refine X0.newPE (aty := .byte) hx (w19 cx) (hb w d47_15) (oNn (by omega)) (cap := 70) (by rw [oC (by omega)]; exact hG) (nle rfl) (nle rfl) (nle rfl) (ad := "[B") (by decide) ?_
 intro T1 h1 a1 k1 X1 E1 g1 A1 Ex1
 have ge2 := Nat.le_trans K0.1 g1
 have K3 := K0.ext E1
 have V4 : Arv Z h1 a1 k1 .byte (Int32.ofNat w2) [] (.int 0) := A1
 refine P.astoreN X1 hx 18 #[.val (.ref t), .val (.int (Int32.ofNat w2)), .val (.ref a1)] (hb w d47_17) rfl rfl rfl ?_
 refine P.aloadN X1 hx 19 (hb w d47_18) rfl rfl rfl ?_
 refine P.iconst X1 hx 20 0 (hb w d47_19) rfl rfl ?_
 refine P.aloadN X1 hx 21 (hb w d47_20) rfl rfl rfl ?_
 refine P.iconst X1 hx 22 0 (hb w d47_21) rfl rfl ?_
 refine P.aloadN X1 hx 23 (hb w d47_22) rfl rfl rfl ?_
 have F5 := P0.ext E1
 refine WS.alen X1 hx F5 (hb w d47_23) ?_
 refine P.iloadN X1 hx 25 (hb w d47_24) rfl rfl ?_
 refine X1.callS hx (w213 cx) (w214 cx) (w215 cx) (w216 cx) (by decide) (Ct.pay (W := 4) (ct_minql cx (Int32.ofNat cap) (Int32.ofNat w2) h1 _ _ ((not_congr (oLt (by omega) (by omega))).mpr (by omega))) (w216 cx) (w215 cx) (nle rfl) (nle rfl)) (by rw [hml]; rfl) (argsL := [.int (Int32.ofNat cap), .int (Int32.ofNat w2)]) (rest := [.int 0, .ref a1, .int 0, .ref t]) (lenOf pd4 rfl) rfl rfl (nle rfl) (hb w d47_25) (nle rfl) (nle rfl) ?_
 rintro T6 h6 _ _ _ X6 ⟨rfl, rfl, rfl, J6⟩
 rw [J6] at X6
 refine WS.cpG (cs := cs) X6 hx (w217 cx) (w152 cx) (w150 cx) (w151 cx) F5 V4 hA (Nat.le_of_lt hlt) hc (mg 0 rfl) (by rw [hml]; rfl) (hb w d47_28) (nle rfl) (W := 0) (nle rfl) (nle rfl) ?_
 intro T7 h7 X7 J7 G7
 have K8 := K3.trans J7 (allS (Or.inr ge2) all0)
 refine P.aloadN X7 hx 32 (hb w d47_31) rfl rfl rfl ?_
 have F9 := Ex1.keep J7
 exact WS.retA X7 (WL' := [a1]) (FL' := []) hx hret rfl rfl hlk (hb w d47_32) (nle rfl) (nle rfl) ⟨a1, k1, rfl, rfl, rfl, K8, ge2, G7, F9⟩
def Q_ensgA (Z : State) (x : Addr) (t : Addr) (kt : ClassId) (cs : List Int32) (cz : Int32) (cap : Nat) (n : Nat) (h : Heap) (v : Option Value) (h' : Heap) (WL' FL' : List Addr) : Prop := ∃ u : Addr, ∃ ku : ClassId, v = none ∧ WL' = [u] ∧ FL' = [] ∧ Keep h h' [x] ∧ h.size ≤ u ∧ Fld Z h' x "java/lang/AbstractStringBuilder" "value" "[B" (.ref u) ∧ Fld Z h' x "java/lang/AbstractStringBuilder" "coder" "B" (.int 0) ∧ Fld Z h' x "java/lang/AbstractStringBuilder" "count" "I" (.int cz) ∧ Arv Z h' u ku .byte (Int32.ofNat (2 * cap + 2)) (lat cs) (.int 0) ∧ Exa Z h' u "[B"
theorem ct_ensgA (cx : Cx a0 Z gC gF v_AL v_DO k_DO) (x : Addr) (t : Addr) (kt : ClassId) (cs : List Int32) (cz : Int32) (cap : Nat) (n : Nat) (h : Heap) (WL FL : List Addr) (P0 : Exa Z h x "java/lang/StringBuilder") (P1 : Fld Z h x "java/lang/AbstractStringBuilder" "value" "[B" (.ref t)) (P2 : Fld Z h x "java/lang/AbstractStringBuilder" "coder" "B" (.int 0)) (P3 : Fld Z h x "java/lang/AbstractStringBuilder" "count" "I" (.int cz)) (P4 : Arv Z h t kt .byte (Int32.ofNat cap) (lat cs) (.int 0)) (P5 : x ∈ WL) (P6 : t ∈ WL) (hxt : x ≠ t) (hA : cs.length ≤ cap) (hg : cap < n) (hk : n < 2 * cap + 2) (hc : (2 * cap + 2) ≤ 4000) (hG : (2 * cap + 2) ≤ 70) :
   Ct l Z EL1 n0 (⟨"java/lang/AbstractStringBuilder", "ensureCapacityInternal", "(I)V"⟩ : MethodName) jdk_68_method_9_code 3 (Option.none : Option Jvm.ClassFile.FieldType) ({ frames := 3, cells := 1, slots := 70, locals := 48 } : Room) #[(.ref x), (.int (Int32.ofNat n))] h WL FL (Q_ensgA Z x t kt cs cz cap n h) := by
 refine Ct.of (plainFor_of_name pn1) ?_
 intro p e s m below meth c s1 hx w hml hnm hret hlk X0
 refine Wo.cast (f' := (mkF m 0 #[.val (.ref x), .val (.int (Int32.ofNat n)), .unset] [])) (by rfl) ?_
 have K0 : Keep h h [x] := Keep.refl _ _
 show Wo _ _ _ _ _ _ _ _ _ _ _ s1 (mkF m 0 #[.val (.ref x), .val (.int (Int32.ofNat n)), .unset] [])
 refine P.aloadN X0 hx 1 (hb w d18_0) rfl rfl rfl ?_
 refine X0.getF hx (host := "") (Or.inl (w87 cx)) Via.refl P1 (hb w d18_1) ?_
 intro T1 X1
 refine WS.alen X1 hx P4 (hb w d18_4) ?_
 refine P.aloadN X1 hx 6 (hb w d18_5) rfl rfl rfl ?_
 refine X1.getF hx (host := "") (Or.inl (w89 cx)) Via.refl P2 (hb w d18_6) ?_
 intro T2 X2
 refine P.ishr X2 hx 10 (z := (Int32.ofNat cap)) (hb w d18_9) (by rw [shr0]) rfl ?_
 refine P.istoreN X2 hx 11 #[.val (.ref x), .val (.int (Int32.ofNat n)), .val (.int (Int32.ofNat cap))] (hb w d18_10) rfl rfl ?_
 refine P.iloadN X2 hx 12 (hb w d18_11) rfl rfl ?_
 refine P.iloadN X2 hx 13 (hb w d18_12) rfl rfl ?_
 refine P.isub X2 hx 14 (z := ((Int32.ofNat n) - (Int32.ofNat cap))) (hb w d18_13) rfl rfl ?_
 refine P.ifNo X2 hx 17 (hb w d18_14) ((if0 _ _).trans (tlt (oYes hg (by omega))).2.2.2) rfl ?_
 refine P.aloadN X2 hx 18 (hb w d18_17) rfl rfl rfl ?_
 refine P.aloadN X2 hx 19 (hb w d18_18) rfl rfl rfl ?_
 refine X2.getF hx (host := "") (Or.inl (w87 cx)) Via.refl P1 (hb w d18_19) ?_
 intro T3 X3
 refine P.aloadN X3 hx 23 (hb w d18_22) rfl rfl rfl ?_
 refine P.iloadN X3 hx 24 (hb w d18_23) rfl rfl ?_
 refine X3.callV hx (w253 cx) (declM (w254 cx) (w257 cx)) (w256 cx) (w254 cx) (fun _ hZ => nf hZ (w256 cx)) (by decide) P0 (Ct.pay (W := 2) (ct_ncapA cx x t kt cs cap n h _ _ P0 P1 P2 P4 hg hk hc) (w257 cx) (w83 cx) (nle rfl) (nle rfl)) (by rw [hml]; rfl) (argsL := [.int (Int32.ofNat n)]) (rest := [.ref t, .ref x]) (lenOf pd6 rfl) rfl rfl (nle rfl) (hb w d18_24) (nle rfl) (nle rfl) ?_
 rintro T4 h4 _ _ _ X4 ⟨rfl, rfl, rfl, J4⟩
 rw [J4] at X4
 refine P.aloadN X4 hx 28 (hb w d18_27) rfl rfl rfl ?_
 refine X4.getF hx (host := "") (Or.inl (w89 cx)) Via.refl P2 (hb w d18_28) ?_
 intro T5 X5
 refine P.ishl X5 hx 32 (z := (Int32.ofNat (2 * cap + 2))) (hb w d18_31) (by rw [shl0]) rfl ?_
 refine X5.callS hx (w267 cx) (w268 cx) (w205 cx) (w269 cx) (by decide) (Ct.pay (W := 1) (ct_cpof cx t kt cap cs (2 * cap + 2) h _ _ P4 hA (by omega) hc hG) (w269 cx) (w205 cx) (nle rfl) (nle rfl)) (by rw [hml]; rfl) (argsL := [.ref t, .int (Int32.ofNat (2 * cap + 2))]) (rest := [.ref x]) (lenOf pd7 rfl) rfl rfl (nle rfl) (hb w d18_32) (nle rfl) (nle rfl) ?_
 rintro T6 h6 _ _ _ X6 ⟨a7, k8, rfl, rfl, rfl, J6, g11, G9, G10⟩
 have ge12 := Nat.le_trans K0.1 g11
 have K13 := K0.trans J6 all0
 have F14 := P1.keep J6 nin0
 have F15 := P0.keep J6
 refine X6.putF hx (host := "") (Or.inl (w87 cx)) Via.refl F14 F15 (Or.inl (w88 cx)) (w74 cx) (ty := (.array .byte)) (by decide) rfl rfl (mc P5) (hb w d18_35) ?_
 intro T16 h16 X16 W16 G16
 have K17 := K13.wr W16 (Or.inl (mg 0 rfl))
 have F18 := G9.other W16 (X16.neT (A := [a7]) (B := WL) (mg 0 rfl) P5)
 have F19 := (P2.keep J6 nin0).other W16 (Or.inr (slot_ne (Or.inl (w90 cx)) (Or.inl (w88 cx)) (by decide) (t := .byte) (t' := (.array .byte)) (by decide) (by decide)))
 have F20 := (P3.keep J6 nin0).other W16 (Or.inr (slot_ne (Or.inl (w127 cx)) (Or.inl (w88 cx)) (by decide) (t := .int) (t' := (.array .byte)) (by decide) (by decide)))
 have F21 := G10.wr W16
 exact WS.retV X16 (WL' := [a7]) (FL' := []) hx hret hlk (hb w d18_38) (nle rfl) (nle rfl) ⟨a7, k8, rfl, rfl, rfl, K17, ge12, G16, F19, F20, F18, F21⟩
def Q_asbappN (Z : State) (x : Addr) (g : Addr) (u : Addr) (t : Addr) (cap : Nat) (cs : List Int32) (ds : List Int32) (h : Heap) (v : Option Value) (h' : Heap) (WL' FL' : List Addr) : Prop := v = some (.ref x) ∧ WL' = [] ∧ FL' = [] ∧ Keep h h' [x, t] ∧ SB Z h' x t cap (cs ++ ds)
theorem ct_asbappN (cx : Cx a0 Z gC gF v_AL v_DO k_DO) (x : Addr) (g : Addr) (u : Addr) (t : Addr) (cap : Nat) (cs : List Int32) (ds : List Int32) (h : Heap) (WL FL : List Addr) (P0 : SB Z h x t cap cs) (P1 : StrL Z h g u ds) (P2 : x ∈ WL) (P3 : t ∈ WL) (hxt : x ≠ t) (hBB : cs.length + ds.length ≤ cap) :
   Ct l Z EL1 n0 (⟨"java/lang/AbstractStringBuilder", "append", "(Ljava/lang/String;)Ljava/lang/AbstractStringBuilder;"⟩ : MethodName) jdk_68_method_22_code 3 (Option.some (FieldType.object "java/lang/AbstractStringBuilder")) ({ frames := 3, cells := 0, slots := 0, locals := 47 } : Room) #[(.ref x), (.ref g)] h WL FL (Q_asbappN Z x g u t cap cs ds h) := by
 refine Ct.of (plainFor_of_name pn1) ?_
 intro p e s m below meth c s1 hx w hml hnm hret hlk X0
 refine Wo.cast (f' := (mkF m 0 #[.val (.ref x), .val (.ref g), .unset] [])) (by rfl) ?_
 have K0 : Keep h h [x, t] := Keep.refl _ _
 show Wo _ _ _ _ _ _ _ _ _ _ _ s1 (mkF m 0 #[.val (.ref x), .val (.ref g), .unset] [])
 refine P.aloadN X0 hx 1 (hb w d15_0) rfl rfl rfl ?_
 refine P.ifnonnullYes X0 hx 9 (hb w d15_1) (by decide) (by decide) ?_
 refine P.aloadN X0 hx 10 (hb w d15_9) rfl rfl rfl ?_
 refine X0.callV hx (w115 cx) (w116 cx) (w118 cx) (w117 cx) (fun _ hZ => nf hZ (w118 cx)) (by decide) P1.1 (pay_len (W := 0) (hln cx) (w5 cx) P1 (X0.sta (S_C cx)) (N_C cx) (nle rfl) (nle rfl)) (by rw [hml]; rfl) (argsL := []) (rest := []) (lenOf pd8 rfl) rfl rfl (nle rfl) (hb w d15_10) (nle rfl) (nle rfl) ?_
 rintro T1 h1 _ _ _ X1 ⟨rfl, rfl, rfl, J1⟩
 rw [J1] at X1
 show Wo _ _ _ _ _ _ _ _ _ _ _ T1 (mkF m 13 #[.val (.ref x), .val (.ref g), .unset] [.int (Int32.ofNat ds.length)])
 refine P.istoreN X1 hx 14 #[.val (.ref x), .val (.ref g), .val (.int (Int32.ofNat ds.length))] (hb w d15_13) rfl rfl ?_
 refine P.aloadN X1 hx 15 (hb w d15_14) rfl rfl rfl ?_
 refine P.aloadN X1 hx 16 (hb w d15_15) rfl rfl rfl ?_
 obtain ⟨k2, A2⟩ := P0.2.2.2.2.1
 refine X1.getF hx (host := "") (Or.inl (w126 cx)) Via.refl P0.2.2.2.1 (hb w d15_16) ?_
 intro T3 X3
 refine P.iloadN X3 hx 20 (hb w d15_19) rfl rfl ?_
 refine P.iadd X3 hx 21 (z := (Int32.ofNat (cs ++ ds).length)) (hb w d15_20) (by rw [oapp]) rfl ?_
 refine X3.callV hx (w128 cx) (declM (w129 cx) (w132 cx)) (w131 cx) (w129 cx) (fun _ hZ => nf hZ (w131 cx)) (by decide) P0.1 (Ct.pay (W := 0) (ct_enscap cx x t k2 cap cs (Int32.ofNat (cs ++ ds).length) h _ _ P0.2.1 P0.2.2.1 A2 (oNo (by rw [List.length_append]; exact hBB) (Nat.lt_of_le_of_lt P0.2.2.2.2.2.2.2.1 (by decide)))) (w132 cx) (w83 cx) (nle rfl) (nle rfl)) (by rw [hml]; rfl) (argsL := [.int (Int32.ofNat (cs ++ ds).length)]) (rest := []) (lenOf pd9 rfl) rfl rfl (nle rfl) (hb w d15_21) (nle rfl) (nle rfl) ?_
 rintro T4 h4 _ _ _ X4 ⟨rfl, rfl, rfl, J4⟩
 rw [J4] at X4
 refine P.aloadN X4 hx 25 (hb w d15_24) rfl rfl rfl ?_
 refine P.aloadN X4 hx 26 (hb w d15_25) rfl rfl rfl ?_
 refine X4.getF hx (host := "") (Or.inl (w126 cx)) Via.refl P0.2.2.2.1 (hb w d15_26) ?_
 intro T5 X5
 refine P.aloadN X5 hx 30 (hb w d15_29) rfl rfl rfl ?_
 refine X5.callV hx (w133 cx) (declM (w134 cx) (w137 cx)) (w136 cx) (w134 cx) (fun _ hZ => nf hZ (w136 cx)) (by decide) P0.1 (Ct.pay (W := 0) (ct_putsa cx x g u t k2 cap cs ds h _ _ P0.1 P0.2.1 P0.2.2.1 P1 A2 P3 hBB P0.2.2.2.2.2.2.2.1) (w137 cx) (w83 cx) (nle rfl) (nle rfl)) (by rw [hml]; rfl) (argsL := [.int (Int32.ofNat cs.length), .ref g]) (rest := []) (lenOf pd10 rfl) rfl rfl (nle rfl) (hb w d15_30) (nle rfl) (nle rfl) ?_
 rintro T6 h6 _ _ _ X6 ⟨rfl, rfl, rfl, J6, G7⟩
 have K8 := K0.trans J6 (allS (Or.inl (mg 1 rfl)) all0)
 refine P.aloadN X6 hx 34 (hb w d15_33) rfl rfl rfl ?_
 refine P.dup X6 hx 35 (hb w d15_34) rfl rfl ?_
 have F9 := P0.2.2.2.1.keep J6 (ninS hxt nin0)
 refine X6.getF hx (host := "") (Or.inl (w126 cx)) Via.refl F9 (hb w d15_35) ?_
 intro T10 X10
 refine P.iloadN X10 hx 39 (hb w d15_38) rfl rfl ?_
 refine P.iadd X10 hx 40 (z := (Int32.ofNat (cs ++ ds).length)) (hb w d15_39) (by rw [oapp]) rfl ?_
 have F11 := P0.1.keep J6
 refine X10.putF hx (host := "") (Or.inl (w126 cx)) Via.refl F9 F11 (Or.inl (w127 cx)) (w74 cx) (ty := .int) (by decide) rfl rfl P2 (hb w d15_40) ?_
 intro T12 h12 X12 W12 G12
 have K13 := K8.wr W12 (Or.inl (mg 0 rfl))
 refine P.aloadN X12 hx 44 (hb w d15_43) rfl rfl rfl ?_
 have F14 := (P0.2.1.keep J6 (ninS hxt nin0)).other W12 (Or.inr (slot_ne (Or.inl (w88 cx)) (Or.inl (w127 cx)) (by decide) (t := (.array .byte)) (t' := .int) (by decide) (by decide)))
 have F15 := F11.wr W12
 have F16 := (P0.2.2.1.keep J6 (ninS hxt nin0)).other W12 (Or.inr (slot_ne (Or.inl (w90 cx)) (Or.inl (w127 cx)) (by decide) (t := .byte) (t' := .int) (by decide) (by decide)))
 have F17 := G7.other W12 (Ne.symm hxt)
 have F18 := (P0.2.2.2.2.2.2.2.2.keep J6).wr W12
 have S19 : SB Z h12 x t cap (cs ++ ds) := ⟨F15, F14, F16, G12, ⟨_, F17⟩, fun c hc => (List.mem_append.mp hc).elim (P0.2.2.2.2.2.1 c) (P1.2.2.2.2.1 c), by rw [List.length_append]; exact hBB, P0.2.2.2.2.2.2.2.1, F18⟩
 exact WS.retA X12 (WL' := []) (FL' := []) hx hret rfl rfl hlk (hb w d15_44) (nle rfl) (nle rfl) ⟨rfl, rfl, rfl, K13, S19⟩
def Q_sbappN (Z : State) (x : Addr) (g : Addr) (u : Addr) (t : Addr) (cap : Nat) (cs : List Int32) (ds : List Int32) (h : Heap) (v : Option Value) (h' : Heap) (WL' FL' : List Addr) : Prop := v = some (.ref x) ∧ WL' = [] ∧ FL' = [] ∧ Keep h h' [x, t] ∧ SB Z h' x t cap (cs ++ ds)
theorem ct_sbappN (cx : Cx a0 Z gC gF v_AL v_DO k_DO) (x : Addr) (g : Addr) (u : Addr) (t : Addr) (cap : Nat) (cs : List Int32) (ds : List Int32) (h : Heap) (WL FL : List Addr) (P0 : SB Z h x t cap cs) (P1 : StrL Z h g u ds) (P2 : x ∈ WL) (P3 : t ∈ WL) (hxt : x ≠ t) (hBB : cs.length + ds.length ≤ cap) :
   Ct l Z EL1 n0 (⟨"java/lang/StringBuilder", "append", "(Ljava/lang/String;)Ljava/lang/StringBuilder;"⟩ : MethodName) jdk_67_method_7_code 2 (Option.some (FieldType.object "java/lang/StringBuilder")) ({ frames := 4, cells := 0, slots := 0, locals := 61 } : Room) #[(.ref x), (.ref g)] h WL FL (Q_sbappN Z x g u t cap cs ds h) := by
 refine Ct.of (plainFor_of_name pn4) ?_
 intro p e s m below meth c s1 hx w hml hnm hret hlk X0
 refine Wo.cast (f' := (mkF m 0 #[.val (.ref x), .val (.ref g)] [])) (by rfl) ?_
 have K0 : Keep h h [x, t] := Keep.refl _ _
 show Wo _ _ _ _ _ _ _ _ _ _ _ s1 (mkF m 0 #[.val (.ref x), .val (.ref g)] [])
 refine P.aloadN X0 hx 1 (hb w d14_0) rfl rfl rfl ?_
 refine P.aloadN X0 hx 2 (hb w d14_1) rfl rfl rfl ?_
 refine X0.callU hx (w110 cx) (w111 cx) (w112 cx) (w114 cx) (w131 cx) rfl (by decide) (by decide) (Ins.self P0.1) (Ct.pay (W := 0) (ct_asbappN cx x g u t cap cs ds h _ _ P0 P1 P2 P3 hxt hBB) (w114 cx) (w83 cx) (nle rfl) (nle rfl)) (by rw [hml]; rfl) (argsL := [.ref g]) (rest := []) (lenOf pd11 rfl) rfl rfl (nle rfl) (hb w d14_2) (nle rfl) (nle rfl) ?_
 rintro T1 h1 _ _ _ X1 ⟨rfl, rfl, rfl, J1, G2⟩
 have K3 := K0.trans J1 (allS (Or.inl (mg 0 rfl)) (allS (Or.inl (mg 1 rfl)) all0))
 refine P.pop X1 hx 6 (hb w d14_5) rfl rfl ?_
 refine P.aloadN X1 hx 7 (hb w d14_6) rfl rfl rfl ?_
 exact WS.retA X1 (WL' := []) (FL' := []) hx hret rfl rfl hlk (hb w d14_7) (nle rfl) (nle rfl) ⟨rfl, rfl, rfl, K3, G2⟩
def Q_asbappA (Z : State) (x : Addr) (g : Addr) (u : Addr) (t : Addr) (cap : Nat) (cs : List Int32) (ds : List Int32) (h : Heap) (v : Option Value) (h' : Heap) (WL' FL' : List Addr) : Prop := ∃ b : Addr, v = some (.ref x) ∧ WL' = [b] ∧ FL' = [] ∧ Keep h h' [x] ∧ h.size ≤ b ∧ SB Z h' x b (2 * cap + 2) (cs ++ ds)
theorem ct_asbappA (cx : Cx a0 Z gC gF v_AL v_DO k_DO) (x : Addr) (g : Addr) (u : Addr) (t : Addr) (cap : Nat) (cs : List Int32) (ds : List Int32) (h : Heap) (WL FL : List Addr) (P0 : SB Z h x t cap cs) (P1 : StrL Z h g u ds) (P2 : x ∈ WL) (P3 : t ∈ WL) (hxt : x ≠ t) (P5 : g ∈ FL) (P6 : u ∈ FL) (hg : cap < (cs ++ ds).length) (hk : (cs ++ ds).length < 2 * cap + 2) (hc : (2 * cap + 2) ≤ 4000) (hG : (2 * cap + 2) ≤ 70) :
   Ct l Z EL1 n0 (⟨"java/lang/AbstractStringBuilder", "append", "(Ljava/lang/String;)Ljava/lang/AbstractStringBuilder;"⟩ : MethodName) jdk_68_method_22_code 3 (Option.some (FieldType.object "java/lang/AbstractStringBuilder")) ({ frames := 4, cells := 1, slots := 70, locals := 62 } : Room) #[(.ref x), (.ref g)] h WL FL (Q_asbappA Z x g u t cap cs ds h) := by
 refine Ct.of (plainFor_of_name pn1) ?_
 intro p e s m below meth c s1 hx w hml hnm hret hlk X0
 refine Wo.cast (f' := (mkF m 0 #[.val (.ref x), .val (.ref g), .unset] [])) (by rfl) ?_
 have K0 : Keep h h [x] := Keep.refl _ _
 show Wo _ _ _ _ _ _ _ _ _ _ _ s1 (mkF m 0 #[.val (.ref x), .val (.ref g), .unset] [])
 refine P.aloadN X0 hx 1 (hb w d15_0) rfl rfl rfl ?_
 refine P.ifnonnullYes X0 hx 9 (hb w d15_1) (by decide) (by decide) ?_
 refine P.aloadN X0 hx 10 (hb w d15_9) rfl rfl rfl ?_
 refine X0.callV hx (w115 cx) (w116 cx) (w118 cx) (w117 cx) (fun _ hZ => nf hZ (w118 cx)) (by decide) P1.1 (pay_len (W := 0) (hln cx) (w5 cx) P1 (X0.sta (S_C cx)) (N_C cx) (nle rfl) (nle rfl)) (by rw [hml]; rfl) (argsL := []) (rest := []) (lenOf pd8 rfl) rfl rfl (nle rfl) (hb w d15_10) (nle rfl) (nle rfl) ?_
 rintro T1 h1 _ _ _ X1 ⟨rfl, rfl, rfl, J1⟩
 rw [J1] at X1
 show Wo _ _ _ _ _ _ _ _ _ _ _ T1 (mkF m 13 #[.val (.ref x), .val (.ref g), .unset] [.int (Int32.ofNat ds.length)])
 refine P.istoreN X1 hx 14 #[.val (.ref x), .val (.ref g), .val (.int (Int32.ofNat ds.length))] (hb w d15_13) rfl rfl ?_
 refine P.aloadN X1 hx 15 (hb w d15_14) rfl rfl rfl ?_
 refine P.aloadN X1 hx 16 (hb w d15_15) rfl rfl rfl ?_
 obtain ⟨k2, A2⟩ := P0.2.2.2.2.1
 refine X1.getF hx (host := "") (Or.inl (w126 cx)) Via.refl P0.2.2.2.1 (hb w d15_16) ?_
 intro T3 X3
 refine P.iloadN X3 hx 20 (hb w d15_19) rfl rfl ?_
 refine P.iadd X3 hx 21 (z := (Int32.ofNat (cs ++ ds).length)) (hb w d15_20) (by rw [oapp]) rfl ?_
 refine X3.callV hx (w128 cx) (declM (w129 cx) (w132 cx)) (w131 cx) (w129 cx) (fun _ hZ => nf hZ (w131 cx)) (by decide) P0.1 (Ct.pay (W := 0) (ct_ensgA cx x t k2 cs (Int32.ofNat cs.length) cap ((cs ++ ds).length) h _ _ P0.1 P0.2.1 P0.2.2.1 P0.2.2.2.1 A2 P2 P3 hxt P0.2.2.2.2.2.2.1 hg hk hc hG) (w132 cx) (w83 cx) (nle rfl) (nle rfl)) (by rw [hml]; rfl) (argsL := [.int (Int32.ofNat (cs ++ ds).length)]) (rest := []) (lenOf pd9 rfl) rfl rfl (nle rfl) (hb w d15_21) (nle rfl) (nle rfl) ?_
 rintro T4 h4 _ _ _ X4 ⟨a5, k6, rfl, rfl, rfl, J4, g12, G7, G8, G9, G10, G11⟩
 have ge13 := Nat.le_trans K0.1 g12
 have K14 := K0.trans J4 (allS (Or.inl (mg 0 rfl)) all0)
 refine P.aloadN X4 hx 25 (hb w d15_24) rfl rfl rfl ?_
 refine P.aloadN X4 hx 26 (hb w d15_25) rfl rfl rfl ?_
 refine X4.getF hx (host := "") (Or.inl (w126 cx)) Via.refl G9 (hb w d15_26) ?_
 intro T15 X15
 refine P.aloadN X15 hx 30 (hb w d15_29) rfl rfl rfl ?_
 have F16 := P0.1.keep J4
 have F17 := P1.keep J4 (ninS (X15.neF P5 (mc P2)) nin0) (ninS (X15.neF P6 (mc P2)) nin0)
 refine X15.callV hx (w133 cx) (declM (w134 cx) (w137 cx)) (w136 cx) (w134 cx) (fun _ hZ => nf hZ (w136 cx)) (by decide) F16 (Ct.pay (W := 0) (ct_putsa cx x g u a5 k6 (2 * cap + 2) cs ds h4 _ _ F16 G7 G8 F17 G10 (mg 0 rfl) (by rw [List.length_append] at hk hg; omega) hc) (w137 cx) (w83 cx) (nle rfl) (nle rfl)) (by rw [hml]; rfl) (argsL := [.int (Int32.ofNat cs.length), .ref g]) (rest := []) (lenOf pd10 rfl) rfl rfl (nle rfl) (hb w d15_30) (nle rfl) (nle rfl) ?_
 rintro T18 h18 _ _ _ X18 ⟨rfl, rfl, rfl, J18, G19⟩
 have K20 := K14.trans J18 (allS (Or.inr ge13) all0)
 refine P.aloadN X18 hx 34 (hb w d15_33) rfl rfl rfl ?_
 refine P.dup X18 hx 35 (hb w d15_34) rfl rfl ?_
 have F21 := G9.keep J18 (ninS (Ne.symm (X18.neT (A := [a5]) (B := WL) (mg 0 rfl) P2)) nin0)
 refine X18.getF hx (host := "") (Or.inl (w126 cx)) Via.refl F21 (hb w d15_35) ?_
 intro T22 X22
 refine P.iloadN X22 hx 39 (hb w d15_38) rfl rfl ?_
 refine P.iadd X22 hx 40 (z := (Int32.ofNat (cs ++ ds).length)) (hb w d15_39) (by rw [oapp]) rfl ?_
 have F23 := F16.keep J18
 refine X22.putF hx (host := "") (Or.inl (w126 cx)) Via.refl F21 F23 (Or.inl (w127 cx)) (w74 cx) (ty := .int) (by decide) rfl rfl (mc P2) (hb w d15_40) ?_
 intro T24 h24 X24 W24 G24
 have K25 := K20.wr W24 (Or.inl (mg 0 rfl))
 refine P.aloadN X24 hx 44 (hb w d15_43) rfl rfl rfl ?_
 have F26 := (G7.keep J18 (ninS (Ne.symm (X24.neT (A := [a5]) (B := WL) (mg 0 rfl) P2)) nin0)).other W24 (Or.inr (slot_ne (Or.inl (w88 cx)) (Or.inl (w127 cx)) (by decide) (t := (.array .byte)) (t' := .int) (by decide) (by decide)))
 have F27 := F23.wr W24
 have F28 := (G8.keep J18 (ninS (Ne.symm (X24.neT (A := [a5]) (B := WL) (mg 0 rfl) P2)) nin0)).other W24 (Or.inr (slot_ne (Or.inl (w90 cx)) (Or.inl (w127 cx)) (by decide) (t := .byte) (t' := .int) (by decide) (by decide)))
 have F29 := G19.other W24 (X24.neT (A := [a5]) (B := WL) (mg 0 rfl) P2)
 have F30 := (G11.keep J18).wr W24
 have S31 : SB Z h24 x a5 (2 * cap + 2) (cs ++ ds) := ⟨F27, F26, F28, G24, ⟨_, F29⟩, fun c hc => (List.mem_append.mp hc).elim (P0.2.2.2.2.2.1 c) (P1.2.2.2.2.1 c), by omega, hc, F30⟩
 exact WS.retA X24 (WL' := [a5]) (FL' := []) hx hret rfl rfl hlk (hb w d15_44) (nle rfl) (nle rfl) ⟨a5, rfl, rfl, rfl, K25, ge13, S31⟩
def Q_sbappA (Z : State) (x : Addr) (g : Addr) (u : Addr) (t : Addr) (cap : Nat) (cs : List Int32) (ds : List Int32) (h : Heap) (v : Option Value) (h' : Heap) (WL' FL' : List Addr) : Prop := ∃ b : Addr, v = some (.ref x) ∧ WL' = [b] ∧ FL' = [] ∧ Keep h h' [x] ∧ h.size ≤ b ∧ SB Z h' x b (2 * cap + 2) (cs ++ ds)
theorem ct_sbappA (cx : Cx a0 Z gC gF v_AL v_DO k_DO) (x : Addr) (g : Addr) (u : Addr) (t : Addr) (cap : Nat) (cs : List Int32) (ds : List Int32) (h : Heap) (WL FL : List Addr) (P0 : SB Z h x t cap cs) (P1 : StrL Z h g u ds) (P2 : x ∈ WL) (P3 : t ∈ WL) (hxt : x ≠ t) (P5 : g ∈ FL) (P6 : u ∈ FL) (hg : cap < (cs ++ ds).length) (hk : (cs ++ ds).length < 2 * cap + 2) (hc : (2 * cap + 2) ≤ 4000) (hG : (2 * cap + 2) ≤ 70) :
   Ct l Z EL1 n0 (⟨"java/lang/StringBuilder", "append", "(Ljava/lang/String;)Ljava/lang/StringBuilder;"⟩ : MethodName) jdk_67_method_7_code 2 (Option.some (FieldType.object "java/lang/StringBuilder")) ({ frames := 5, cells := 1, slots := 70, locals := 76 } : Room) #[(.ref x), (.ref g)] h WL FL (Q_sbappA Z x g u t cap cs ds h) := by
 refine Ct.of (plainFor_of_name pn4) ?_
 intro p e s m below meth c s1 hx w hml hnm hret hlk X0
 refine Wo.cast (f' := (mkF m 0 #[.val (.ref x), .val (.ref g)] [])) (by rfl) ?_
 have K0 : Keep h h [x] := Keep.refl _ _
 show Wo _ _ _ _ _ _ _ _ _ _ _ s1 (mkF m 0 #[.val (.ref x), .val (.ref g)] [])
 refine P.aloadN X0 hx 1 (hb w d14_0) rfl rfl rfl ?_
 refine P.aloadN X0 hx 2 (hb w d14_1) rfl rfl rfl ?_
 refine X0.callU hx (w110 cx) (w111 cx) (w112 cx) (w114 cx) (w131 cx) rfl (by decide) (by decide) (Ins.self P0.1) (Ct.pay (W := 0) (ct_asbappA cx x g u t cap cs ds h _ _ P0 P1 P2 P3 hxt P5 P6 hg hk hc hG) (w114 cx) (w83 cx) (nle rfl) (nle rfl)) (by rw [hml]; rfl) (argsL := [.ref g]) (rest := []) (lenOf pd11 rfl) rfl rfl (nle rfl) (hb w d14_2) (nle rfl) (nle rfl) ?_
 rintro T1 h1 _ _ _ X1 ⟨a2, rfl, rfl, rfl, J1, g4, G3⟩
 have ge5 := Nat.le_trans K0.1 g4
 have K6 := K0.trans J1 (allS (Or.inl (mg 0 rfl)) all0)
 refine P.pop X1 hx 6 (hb w d14_5) rfl rfl ?_
 refine P.aloadN X1 hx 7 (hb w d14_6) rfl rfl rfl ?_
 exact WS.retA X1 (WL' := [a2]) (FL' := []) hx hret rfl rfl hlk (hb w d14_7) (nle rfl) (nle rfl) ⟨a2, rfl, rfl, rfl, K6, ge5, G3⟩
def Q_asbini (Z : State) (x : Addr) (h : Heap) (v : Option Value) (h' : Heap) (WL' FL' : List Addr) : Prop := ∃ t : Addr, v = none ∧ WL' = [t] ∧ FL' = [] ∧ Keep h h' [x] ∧ h.size ≤ t ∧ SB Z h' x t 16 []
theorem ct_asbini (cx : Cx a0 Z gC gF v_AL v_DO k_DO) (x : Addr) (h : Heap) (WL FL : List Addr) (P0 : Exa Z h x "java/lang/StringBuilder") (P1 : Fld Z h x "java/lang/AbstractStringBuilder" "value" "[B" .null) (P2 : Fld Z h x "java/lang/AbstractStringBuilder" "coder" "B" (.int 0)) (P3 : Fld Z h x "java/lang/AbstractStringBuilder" "count" "I" (.int 0)) (P4 : x ∈ WL) :
   Ct l Z EL1 n0 (⟨"java/lang/AbstractStringBuilder", "<init>", "(I)V"⟩ : MethodName) jdk_68_method_2_code 2 (Option.none : Option Jvm.ClassFile.FieldType) ({ frames := 1, cells := 1, slots := 16, locals := 12 } : Room) #[(.ref x), (.int 16)] h WL FL (Q_asbini Z x h) := by
 refine Ct.of (plainFor_of_name pn1) ?_
 intro p e s m below meth c s1 hx w hml hnm hret hlk X0
 refine Wo.cast (f' := (mkF m 0 #[.val (.ref x), .val (.int 16)] [])) (by rfl) ?_
 have K0 : Keep h h [x] := Keep.refl _ _
 show Wo _ _ _ _ _ _ _ _ _ _ _ s1 (mkF m 0 #[.val (.ref x), .val (.int 16)] [])
 refine P.aloadN X0 hx 1 (hb w d12_0) rfl rfl rfl ?_
 refine X0.initO hx (w85 cx) (w16 cx) (w17 cx) (by rw [hml]; rfl) (hb w d12_1) (nle rfl) (W := 0) (nle rfl) (nle rfl) ?_
 intro T1 X1
 refine X1.getS hx (w86 cx) Via.refl (S_C cx) (hb w d12_4) ?_
 intro T2 X2
 refine P.ifNo X2 hx 10 (hb w d12_7) ((if0 _ _).trans (feq (N_C cx)).1) rfl ?_
 refine P.aloadN X2 hx 11 (hb w d12_10) rfl rfl rfl ?_
 refine P.iloadN X2 hx 12 (hb w d12_11) rfl rfl ?_
 refine X2.newPE (aty := .byte) hx (w19 cx) (hb w d12_12) (by decide) (cap := 16) (nle rfl) (nle rfl) (nle rfl) (nle rfl) (ad := "[B") (by decide) ?_
 intro T3 h3 a3 k3 X3 E3 g3 A3 Ex3
 have ge4 := Nat.le_trans K0.1 g3
 have K5 := K0.ext E3
 have V6 : Arv Z h3 a3 k3 .byte (16 : Int32) [] (.int 0) := A3
 have F7 := P1.ext E3
 have F8 := P0.ext E3
 refine X3.putF hx (host := "") (Or.inl (w87 cx)) Via.refl F7 F8 (Or.inl (w88 cx)) (w74 cx) (ty := (.array .byte)) (by decide) rfl rfl (mc P4) (hb w d12_14) ?_
 intro T9 h9 X9 W9 G9
 have K10 := K5.wr W9 (Or.inl (mg 0 rfl))
 refine P.aloadN X9 hx 18 (hb w d12_17) rfl rfl rfl ?_
 refine P.iconst X9 hx 19 0 (hb w d12_18) rfl rfl ?_
 have F11 := (P2.ext E3).other W9 (Or.inr (slot_ne (Or.inl (w90 cx)) (Or.inl (w88 cx)) (by decide) (t := .byte) (t' := (.array .byte)) (by decide) (by decide)))
 have F12 := F8.wr W9
 refine X9.putF hx (host := "") (Or.inl (w89 cx)) Via.refl F11 F12 (Or.inl (w90 cx)) (w74 cx) (ty := .byte) (by decide) rfl rfl (mc P4) (hb w d12_19) ?_
 intro T13 h13 X13 W13 G13
 have K14 := K10.wr W13 (Or.inl (mg 0 rfl))
 refine P.goto X13 hx 38 (hb w d12_22) (by decide) (by decide) ?_
 have F15 := G9.other W13 (Or.inr (slot_ne (Or.inl (w88 cx)) (Or.inl (w90 cx)) (by decide) (t := (.array .byte)) (t' := .byte) (by decide) (by decide)))
 have F16 := F12.wr W13
 have F17 := ((P3.ext E3).other W9 (Or.inr (slot_ne (Or.inl (w127 cx)) (Or.inl (w88 cx)) (by decide) (t := .int) (t' := (.array .byte)) (by decide) (by decide)))).other W13 (Or.inr (slot_ne (Or.inl (w127 cx)) (Or.inl (w90 cx)) (by decide) (t := .int) (t' := .byte) (by decide) (by decide)))
 have F18 := (V6.other W9 (X13.neT (A := [a3]) (B := WL) (mg 0 rfl) P4)).other W13 (X13.neT (A := [a3]) (B := WL) (mg 0 rfl) P4)
 have F19 := (Ex3.wr W9).wr W13
 have S20 : SB Z h13 x a3 16 [] := ⟨F16, F15, G13, F17, ⟨_, F18⟩, fc0, Nat.zero_le _, nle rfl, F19⟩
 exact WS.retV X13 (WL' := [a3]) (FL' := []) hx hret hlk (hb w d12_38) (nle rfl) (nle rfl) ⟨a3, rfl, rfl, rfl, K14, ge4, S20⟩
def Q_sbini (Z : State) (x : Addr) (h : Heap) (v : Option Value) (h' : Heap) (WL' FL' : List Addr) : Prop := ∃ t : Addr, v = none ∧ WL' = [t] ∧ FL' = [] ∧ Keep h h' [x] ∧ h.size ≤ t ∧ SB Z h' x t 16 []
theorem ct_sbini (cx : Cx a0 Z gC gF v_AL v_DO k_DO) (x : Addr) (h : Heap) (WL FL : List Addr) (P0 : Exa Z h x "java/lang/StringBuilder") (P1 : Fld Z h x "java/lang/AbstractStringBuilder" "value" "[B" .null) (P2 : Fld Z h x "java/lang/AbstractStringBuilder" "coder" "B" (.int 0)) (P3 : Fld Z h x "java/lang/AbstractStringBuilder" "count" "I" (.int 0)) (P4 : x ∈ WL) :
   Ct l Z EL1 n0 (⟨"java/lang/StringBuilder", "<init>", "()V"⟩ : MethodName) jdk_67_method_1_code 1 (Option.none : Option Jvm.ClassFile.FieldType) ({ frames := 2, cells := 1, slots := 16, locals := 25 } : Room) #[(.ref x)] h WL FL (Q_sbini Z x h) := by
 refine Ct.of (plainFor_of_name pn4) ?_
 intro p e s m below meth c s1 hx w hml hnm hret hlk X0
 refine Wo.cast (f' := (mkF m 0 #[.val (.ref x)] [])) (by rfl) ?_
 have K0 : Keep h h [x] := Keep.refl _ _
 show Wo _ _ _ _ _ _ _ _ _ _ _ s1 (mkF m 0 #[.val (.ref x)] [])
 refine P.aloadN X0 hx 1 (hb w d11_0) rfl rfl rfl ?_
 refine P.bipush X0 hx 3 16 (hb w d11_1) rfl rfl ?_
 refine X0.callC hx rfl (w79 cx) (w80 cx) (w84 cx) (by decide) (Ct.pay (W := 0) (ct_asbini cx x h _ _ P0 P1 P2 P3 P4) (w84 cx) (w83 cx) (nle rfl) (nle rfl)) (by rw [hml]; rfl) (argsL := [.int 16]) (rest := []) (lenOf pd9 rfl) rfl rfl (nle rfl) (hb w d11_3) (nle rfl) (nle rfl) ?_
 rintro T1 h1 _ _ _ X1 ⟨a2, rfl, rfl, rfl, J1, g4, G3⟩
 have ge5 := Nat.le_trans K0.1 g4
 have K6 := K0.trans J1 (allS (Or.inl (mg 0 rfl)) all0)
 exact WS.retV X1 (WL' := [a2]) (FL' := []) hx hret hlk (hb w d11_6) (nle rfl) (nle rfl) ⟨a2, rfl, rfl, rfl, K6, ge5, G3⟩
def Q_getval (Z : State) (x : Addr) (t : Addr) (h : Heap) (v : Option Value) (h' : Heap) (WL' FL' : List Addr) : Prop := v = some (.ref t) ∧ WL' = [] ∧ FL' = [] ∧ h' = h
theorem ct_getval (cx : Cx a0 Z gC gF v_AL v_DO k_DO) (x : Addr) (t : Addr) (h : Heap) (WL FL : List Addr) (P0 : Fld Z h x "java/lang/AbstractStringBuilder" "value" "[B" (.ref t)) :
   Ct l Z EL1 n0 (⟨"java/lang/AbstractStringBuilder", "getValue", "()[B"⟩ : MethodName) jdk_68_method_64_code 1 (Option.some (FieldType.array FieldType.byte)) ({ frames := 0, cells := 0, slots := 0, locals := 0 } : Room) #[(.ref x)] h WL FL (Q_getval Z x t h) := by
 refine Ct.of (plainFor_of_name pn1) ?_
 intro p e s m below meth c s1 hx w hml hnm hret hlk X0
 refine Wo.cast (f' := (mkF m 0 #[.val (.ref x)] [])) (by rfl) ?_
 show Wo _ _ _ _ _ _ _ _ _ _ _ s1 (mkF m 0 #[.val (.ref x)] [])
 refine P.aloadN X0 hx 1 (hb w d30_0) rfl rfl rfl ?_
 refine X0.getF hx (host := "") (Or.inl (w87 cx)) Via.refl P0 (hb w d30_1) ?_
 intro T1 X1
 exact WS.retA X1 (WL' := []) (FL' := []) hx hret rfl rfl hlk (hb w d30_4) (nle rfl) (nle rfl) ⟨rfl, rfl, rfl, rfl⟩
def Q_asblen (Z : State) (x : Addr) (z : Int32) (h : Heap) (v : Option Value) (h' : Heap) (WL' FL' : List Addr) : Prop := v = some (.int z) ∧ WL' = [] ∧ FL' = [] ∧ h' = h
theorem ct_asblen (cx : Cx a0 Z gC gF v_AL v_DO k_DO) (x : Addr) (z : Int32) (h : Heap) (WL FL : List Addr) (P0 : Fld Z h x "java/lang/AbstractStringBuilder" "count" "I" (.int z)) :
   Ct l Z EL1 n0 (⟨"java/lang/AbstractStringBuilder", "length", "()I"⟩ : MethodName) jdk_68_method_6_code 1 (Option.some FieldType.int) ({ frames := 0, cells := 0, slots := 0, locals := 0 } : Room) #[(.ref x)] h WL FL (Q_asblen Z x z h) := by
 refine Ct.of (plainFor_of_name pn1) ?_
 intro p e s m below meth c s1 hx w hml hnm hret hlk X0
 refine Wo.cast (f' := (mkF m 0 #[.val (.ref x)] [])) (by rfl) ?_
 show Wo _ _ _ _ _ _ _ _ _ _ _ s1 (mkF m 0 #[.val (.ref x)] [])
 refine P.aloadN X0 hx 1 (hb w d32_0) rfl rfl rfl ?_
 refine X0.getF hx (host := "") (Or.inl (w126 cx)) Via.refl P0 (hb w d32_1) ?_
 intro T1 X1
 exact WS.retI X1 (WL' := []) (FL' := []) hx hret hlk (hb w d32_4) (nle rfl) (nle rfl) ⟨rfl, rfl, rfl, rfl⟩
def Q_sblen (Z : State) (x : Addr) (z : Int32) (h : Heap) (v : Option Value) (h' : Heap) (WL' FL' : List Addr) : Prop := v = some (.int z) ∧ WL' = [] ∧ FL' = [] ∧ h' = h
theorem ct_sblen (cx : Cx a0 Z gC gF v_AL v_DO k_DO) (x : Addr) (z : Int32) (h : Heap) (WL FL : List Addr) (P0 : Exa Z h x "java/lang/StringBuilder") (P1 : Fld Z h x "java/lang/AbstractStringBuilder" "count" "I" (.int z)) :
   Ct l Z EL1 n0 (⟨"java/lang/StringBuilder", "length", "()I"⟩ : MethodName) jdk_67_method_93_code 1 (Option.some FieldType.int) ({ frames := 1, cells := 0, slots := 0, locals := 12 } : Room) #[(.ref x)] h WL FL (Q_sblen Z x z h) := by
 refine Ct.of (plainFor_of_name pn4) ?_
 intro p e s m below meth c s1 hx w hml hnm hret hlk X0
 refine Wo.cast (f' := (mkF m 0 #[.val (.ref x)] [])) (by rfl) ?_
 show Wo _ _ _ _ _ _ _ _ _ _ _ s1 (mkF m 0 #[.val (.ref x)] [])
 refine P.aloadN X0 hx 1 (hb w d31_0) rfl rfl rfl ?_
 refine X0.callU hx (w200 cx) (w196 cx) (w112 cx) (w201 cx) (w131 cx) rfl (by decide) (by decide) (Ins.self P0) (Ct.pay (W := 0) (ct_asblen cx x z h _ _ P1) (w201 cx) (w83 cx) (nle rfl) (nle rfl)) (by rw [hml]; rfl) (argsL := []) (rest := []) (lenOf pd8 rfl) rfl rfl (nle rfl) (hb w d31_1) (nle rfl) (nle rfl) ?_
 rintro T1 h1 _ _ _ X1 ⟨rfl, rfl, rfl, J1⟩
 rw [J1] at X1
 exact WS.retI X1 (WL' := []) (FL' := []) hx hret hlk (hb w d31_4) (nle rfl) (nle rfl) ⟨rfl, rfl, rfl, rfl⟩
def Q_asblat (Z : State) (x : Addr) (h : Heap) (v : Option Value) (h' : Heap) (WL' FL' : List Addr) : Prop := v = some (.int 1) ∧ WL' = [] ∧ FL' = [] ∧ h' = h
theorem ct_asblat (cx : Cx a0 Z gC gF v_AL v_DO k_DO) (x : Addr) (h : Heap) (WL FL : List Addr) (P0 : Fld Z h x "java/lang/AbstractStringBuilder" "coder" "B" (.int 0)) :
   Ct l Z EL1 n0 (⟨"java/lang/AbstractStringBuilder", "isLatin1", "()Z"⟩ : MethodName) jdk_68_method_68_code 1 (Option.some FieldType.boolean) ({ frames := 0, cells := 0, slots := 0, locals := 0 } : Room) #[(.ref x)] h WL FL (Q_asblat Z x h) := by
 refine Ct.of (plainFor_of_name pn1) ?_
 intro p e s m below meth c s1 hx w hml hnm hret hlk X0
 refine Wo.cast (f' := (mkF m 0 #[.val (.ref x)] [])) (by rfl) ?_
 show Wo _ _ _ _ _ _ _ _ _ _ _ s1 (mkF m 0 #[.val (.ref x)] [])
 refine X0.getS hx (w86 cx) Via.refl (S_C cx) (hb w d25_0) ?_
 intro T1 X1
 refine P.ifNo X1 hx 6 (hb w d25_3) ((if0 _ _).trans (feq (N_C cx)).1) rfl ?_
 refine P.aloadN X1 hx 7 (hb w d25_6) rfl rfl rfl ?_
 refine X1.getF hx (host := "") (Or.inl (w89 cx)) Via.refl P0 (hb w d25_7) ?_
 intro T2 X2
 refine P.ifNo X2 hx 13 (hb w d25_10) (by decide) rfl ?_
 refine P.iconst X2 hx 14 1 (hb w d25_13) rfl rfl ?_
 refine P.goto X2 hx 18 (hb w d25_14) (by decide) (by decide) ?_
 exact WS.retN X2 (WL' := []) (FL' := []) hx (t := .boolean) hret (by simp) hlk (hb w d25_18) (nle rfl) (nle rfl) ⟨rfl, rfl, rfl, rfl⟩
def Q_chklen (Z : State) (z : Int32) (h : Heap) (v : Option Value) (h' : Heap) (WL' FL' : List Addr) : Prop := v = none ∧ WL' = [] ∧ FL' = [] ∧ h' = h
theorem ct_chklen (cx : Cx a0 Z gC gF v_AL v_DO k_DO) (z : Int32) (h : Heap) (WL FL : List Addr) (hz : ¬ (z < (0 : Int32))) :
   Ct l Z EL1 n0 (⟨"java/util/Arrays", "checkLength", "(II)V"⟩ : MethodName) jdk_65_method_131_code 2 (Option.none : Option Jvm.ClassFile.FieldType) ({ frames := 0, cells := 0, slots := 0, locals := 0 } : Room) #[(.int 0), (.int z)] h WL FL (Q_chklen Z z h) := by
 refine Ct.of (plainFor_of_name pn3) ?_
 intro p e s m below meth c s1 hx w hml hnm hret hlk X0
 refine Wo.cast (f' := (mkF m 0 #[.val (.int 0), .val (.int z)] [])) (by rfl) ?_
 show Wo _ _ _ _ _ _ _ _ _ _ _ s1 (mkF m 0 #[.val (.int 0), .val (.int z)] [])
 refine P.iloadN X0 hx 1 (hb w d35_0) rfl rfl ?_
 refine P.iloadN X0 hx 2 (hb w d35_1) rfl rfl ?_
 refine P.icmpYes X0 hx 37 (hb w d35_2) (flt hz).2.1 (by decide) (by decide) ?_
 exact WS.retV X0 (WL' := []) (FL' := []) hx hret hlk (hb w d35_37) (nle rfl) (nle rfl) ⟨rfl, rfl, rfl, rfl⟩
def Q_minqr (Z : State) (a : Int32) (b : Int32) (h : Heap) (v : Option Value) (h' : Heap) (WL' FL' : List Addr) : Prop := v = some (.int b) ∧ WL' = [] ∧ FL' = [] ∧ h' = h
theorem ct_minqr (cx : Cx a0 Z gC gF v_AL v_DO k_DO) (a : Int32) (b : Int32) (h : Heap) (WL FL : List Addr) (hz : b < a) :
   Ct l Z EL1 n0 (⟨"java/lang/Math", "min", "(II)I"⟩ : MethodName) jdk_29_method_69_code 2 (Option.some FieldType.int) ({ frames := 0, cells := 0, slots := 0, locals := 0 } : Room) #[(.int a), (.int b)] h WL FL (Q_minqr Z a b h) := by
 refine Ct.of (by decide +kernel) ?_
 intro p e s m below meth c s1 hx w hml hnm hret hlk X0
 refine Wo.cast (f' := (mkF m 0 #[.val (.int a), .val (.int b)] [])) (by rfl) ?_
 show Wo _ _ _ _ _ _ _ _ _ _ _ s1 (mkF m 0 #[.val (.int a), .val (.int b)] [])
 refine P.iloadN X0 hx 1 (hb w d36_0) rfl rfl ?_
 refine P.iloadN X0 hx 2 (hb w d36_1) rfl rfl ?_
 refine P.icmpYes X0 hx 9 (hb w d36_2) (tlt hz).2.2.1 (by decide) (by decide) ?_
 refine P.iloadN X0 hx 10 (hb w d36_9) rfl rfl ?_
 exact WS.retI X0 (WL' := []) (FL' := []) hx hret hlk (hb w d36_10) (nle rfl) (nle rfl) ⟨rfl, rfl, rfl, rfl⟩
def Q_corb (Z : State) (t : Addr) (kt : ClassId) (cap : Nat) (cs : List Int32) (h : Heap) (v : Option Value) (h' : Heap) (WL' FL' : List Addr) : Prop := ∃ u : Addr, ∃ ku : ClassId, v = some (.ref u) ∧ WL' = [u] ∧ FL' = [] ∧ Keep h h' [] ∧ h.size ≤ u ∧ Arv Z h' u ku .byte (Int32.ofNat cs.length) (lat cs) (.int 0)
theorem ct_corb (cx : Cx a0 Z gC gF v_AL v_DO k_DO) (t : Addr) (kt : ClassId) (cap : Nat) (cs : List Int32) (h : Heap) (WL FL : List Addr) (P0 : Arv Z h t kt .byte (Int32.ofNat cap) (lat cs) (.int 0)) (hl : cs.length < cap) (hc : cap ≤ 4000) (hB : cs.length ≤ 70) :
   Ct l Z EL1 n0 (⟨"java/util/Arrays", "copyOfRangeByte", "([BII)[B"⟩ : MethodName) jdk_65_method_133_code 5 (Option.some (FieldType.array FieldType.byte)) ({ frames := 1, cells := 1, slots := 70, locals := 18 } : Room) #[(.ref t), (.int 0), (.int (Int32.ofNat cs.length))] h WL FL (Q_corb Z t kt cap cs h) := by
 refine Ct.of (plainFor_of_name pn3) ?_
 intro p e s m below meth c s1 hx w hml hnm hret hlk X0
 refine Wo.cast (f' := (mkF m 0 #[.val (.ref t), .val (.int 0), .val (.int (Int32.ofNat cs.length)), .unset, .unset] [])) (by rfl) ?_
 have K0 : Keep h h [] := Keep.refl _ _
 show Wo _ _ _ _ _ _ _ _ _ _ _ s1 (mkF m 0 #[.val (.ref t), .val (.int 0), .val (.int (Int32.ofNat cs.length)), .unset, .unset] [])
 refine P.iloadN X0 hx 1 (hb w d34_0) rfl rfl ?_
 refine P.iloadN X0 hx 2 (hb w d34_1) rfl rfl ?_
 refine X0.callS hx (w210 cx) (w211 cx) (w205 cx) (w212 cx) (by decide) (Ct.pay (W := 0) (ct_chklen cx (Int32.ofNat cs.length) h _ _ (oNn (Nat.lt_of_le_of_lt hB (by decide)))) (w212 cx) (w205 cx) (nle rfl) (nle rfl)) (by rw [hml]; rfl) (argsL := [.int 0, .int (Int32.ofNat cs.length)]) (rest := []) (lenOf pd12 rfl) rfl rfl (nle rfl) (hb w d34_2) (nle rfl) (nle rfl) ?_
 rintro T1 h1 _ _ _ X1 ⟨rfl, rfl, rfl, J1⟩
 rw [J1] at X1
 refine P.iloadN X1 hx 6 (hb w d34_5) rfl rfl ?_
 refine P.iloadN X1 hx 7 (hb w d34_6) rfl rfl ?_
 refine P.isub X1 hx 8 (z := (Int32.ofNat cs.length)) (hb w d34_7) (by rw [Int32.sub_zero]) rfl ?_
 refine P.istoreN X1 hx 9 #[.val (.ref t), .val (.int 0), .val (.int (Int32.ofNat cs.length)), .val (.int (Int32.ofNat cs.length)), .unset] (hb w d34_8) rfl rfl ?_
 refine P.iloadN X1 hx 10 (hb w d34_9) rfl rfl ?_
 refine X1.newPE (aty := .byte) hx (w19 cx) (hb w d34_10) (oNn (Nat.lt_of_le_of_lt hB (by decide))) (cap := 70) (by rw [oC (Nat.lt_of_le_of_lt hB (by decide))]; exact hB) (nle rfl) (nle rfl) (nle rfl) (ad := "[B") (by decide) ?_
 intro T2 h2 a2 k2 X2 E2 g2 A2 Ex2
 have ge3 := Nat.le_trans K0.1 g2
 have K4 := K0.ext E2
 have V5 : Arv Z h2 a2 k2 .byte (Int32.ofNat cs.length) [] (.int 0) := A2
 refine P.astore X2 hx 14 #[.val (.ref t), .val (.int 0), .val (.int (Int32.ofNat cs.length)), .val (.int (Int32.ofNat cs.length)), .val (.ref a2)] (hb w d34_12) rfl rfl rfl ?_
 refine P.aloadN X2 hx 15 (hb w d34_14) rfl rfl rfl ?_
 refine P.iloadN X2 hx 16 (hb w d34_15) rfl rfl ?_
 refine P.aload X2 hx 18 (hb w d34_16) rfl rfl rfl ?_
 refine P.iconst X2 hx 19 0 (hb w d34_18) rfl rfl ?_
 refine P.aloadN X2 hx 20 (hb w d34_19) rfl rfl rfl ?_
 have F6 := P0.ext E2
 refine WS.alen X2 hx F6 (hb w d34_20) ?_
 refine P.iloadN X2 hx 22 (hb w d34_21) rfl rfl ?_
 refine P.isub X2 hx 23 (z := (Int32.ofNat cap)) (hb w d34_22) (by rw [Int32.sub_zero]) rfl ?_
 refine P.iloadN X2 hx 24 (hb w d34_23) rfl rfl ?_
 refine X2.callS hx (w213 cx) (w214 cx) (w215 cx) (w216 cx) (by decide) (Ct.pay (W := 4) (ct_minqr cx (Int32.ofNat cap) (Int32.ofNat cs.length) h2 _ _ ((oLt (Nat.lt_of_le_of_lt hB (by decide)) (Nat.lt_of_le_of_lt hc (by decide))).mpr hl)) (w216 cx) (w215 cx) (nle rfl) (nle rfl)) (by rw [hml]; rfl) (argsL := [.int (Int32.ofNat cap), .int (Int32.ofNat cs.length)]) (rest := [.int 0, .ref a2, .int 0, .ref t]) (lenOf pd4 rfl) rfl rfl (nle rfl) (hb w d34_24) (nle rfl) (nle rfl) ?_
 rintro T7 h7 _ _ _ X7 ⟨rfl, rfl, rfl, J7⟩
 rw [J7] at X7
 refine WS.cpL (cs := []) (ds := cs) X7 hx (w217 cx) (w152 cx) (w150 cx) (w151 cx) F6 V5 (Nat.le_of_lt hl) (by simp) hc (Nat.le_trans hB (by decide)) (mg 0 rfl) (by rw [hml]; rfl) (hb w d34_27) (nle rfl) (W := 0) (nle rfl) (nle rfl) ?_
 intro T8 h8 X8 J8 G8
 have K9 := K4.trans J8 (allS (Or.inr ge3) all0)
 refine P.aload X8 hx 32 (hb w d34_30) rfl rfl rfl ?_
 exact WS.retA X8 (WL' := [a2]) (FL' := []) hx hret rfl rfl hlk (hb w d34_32) (nle rfl) (nle rfl) ⟨a2, k2, rfl, rfl, rfl, K9, ge3, G8⟩
def Q_cor (Z : State) (t : Addr) (kt : ClassId) (cap : Nat) (cs : List Int32) (h : Heap) (v : Option Value) (h' : Heap) (WL' FL' : List Addr) : Prop := ∃ u : Addr, ∃ ku : ClassId, v = some (.ref u) ∧ WL' = [u] ∧ FL' = [] ∧ Keep h h' [] ∧ h.size ≤ u ∧ Arv Z h' u ku .byte (Int32.ofNat cs.length) (lat cs) (.int 0)
theorem ct_cor (cx : Cx a0 Z gC gF v_AL v_DO k_DO) (t : Addr) (kt : ClassId) (cap : Nat) (cs : List Int32) (h : Heap) (WL FL : List Addr) (P0 : Arv Z h t kt .byte (Int32.ofNat cap) (lat cs) (.int 0)) (hl : cs.length < cap) (hc : cap ≤ 4000) (hB : cs.length ≤ 70) :
   Ct l Z EL1 n0 (⟨"java/util/Arrays", "copyOfRange", "([BII)[B"⟩ : MethodName) jdk_65_method_132_code 3 (Option.some (FieldType.array FieldType.byte)) ({ frames := 2, cells := 1, slots := 70, locals := 34 } : Room) #[(.ref t), (.int 0), (.int (Int32.ofNat cs.length))] h WL FL (Q_cor Z t kt cap cs h) := by
 refine Ct.of (plainFor_of_name pn3) ?_
 intro p e s m below meth c s1 hx w hml hnm hret hlk X0
 refine Wo.cast (f' := (mkF m 0 #[.val (.ref t), .val (.int 0), .val (.int (Int32.ofNat cs.length))] [])) (by rfl) ?_
 have K0 : Keep h h [] := Keep.refl _ _
 show Wo _ _ _ _ _ _ _ _ _ _ _ s1 (mkF m 0 #[.val (.ref t), .val (.int 0), .val (.int (Int32.ofNat cs.length))] [])
 refine P.iloadN X0 hx 1 (hb w d33_0) rfl rfl ?_
 refine P.ifNo X0 hx 4 (hb w d33_1) (by decide) rfl ?_
 refine P.iloadN X0 hx 5 (hb w d33_4) rfl rfl ?_
 refine P.aloadN X0 hx 6 (hb w d33_5) rfl rfl rfl ?_
 refine WS.alen X0 hx P0 (hb w d33_6) ?_
 refine P.icmpNo X0 hx 10 (hb w d33_7) (feq (fun q => Nat.ne_of_lt hl ((oEq (Nat.lt_of_le_of_lt hB (by decide)) (Nat.lt_of_le_of_lt hc (by decide))).mp q))).1 rfl ?_
 refine P.aloadN X0 hx 11 (hb w d33_10) rfl rfl rfl ?_
 refine P.iloadN X0 hx 12 (hb w d33_11) rfl rfl ?_
 refine P.iloadN X0 hx 13 (hb w d33_12) rfl rfl ?_
 refine X0.callS hx (w207 cx) (w208 cx) (w205 cx) (w209 cx) (by decide) (Ct.pay (W := 0) (ct_corb cx t kt cap cs h _ _ P0 hl hc hB) (w209 cx) (w205 cx) (nle rfl) (nle rfl)) (by rw [hml]; rfl) (argsL := [.ref t, .int 0, .int (Int32.ofNat cs.length)]) (rest := []) (lenOf pd13 rfl) rfl rfl (nle rfl) (hb w d33_13) (nle rfl) (nle rfl) ?_
 rintro T1 h1 _ _ _ X1 ⟨a2, k3, rfl, rfl, rfl, J1, g5, G4⟩
 have ge6 := Nat.le_trans K0.1 g5
 have K7 := K0.trans J1 all0
 exact WS.retA X1 (WL' := [a2]) (FL' := []) hx hret rfl rfl hlk (hb w d33_16) (nle rfl) (nle rfl) ⟨a2, k3, rfl, rfl, rfl, K7, ge6, G4⟩
def Q_sasb (Z : State) (x : Addr) (q : Addr) (t : Addr) (cap : Nat) (cs : List Int32) (h : Heap) (v : Option Value) (h' : Heap) (WL' FL' : List Addr) : Prop := ∃ u : Addr, v = none ∧ WL' = [] ∧ FL' = [u] ∧ Keep h h' [x] ∧ StrL Z h' x u cs
theorem ct_sasb (cx : Cx a0 Z gC gF v_AL v_DO k_DO) (x : Addr) (q : Addr) (t : Addr) (cap : Nat) (cs : List Int32) (h : Heap) (WL FL : List Addr) (P0 : Exa Z h x "java/lang/String") (P1 : Fld Z h x "java/lang/String" "value" "[B" .null) (P2 : Fld Z h x "java/lang/String" "coder" "B" (.int 0)) (P3 : x ∈ WL) (P4 : SB Z h q t cap cs) (hl : cs.length < cap) (hB : cs.length ≤ 70) (hqx : q ≠ x) (htx : t ≠ x) :
   Ct l Z EL1 n0 (⟨"java/lang/String", "<init>", "(Ljava/lang/AbstractStringBuilder;Ljava/lang/Void;)V"⟩ : MethodName) jdk_42_method_150_code 5 (Option.none : Option Jvm.ClassFile.FieldType) ({ frames := 3, cells := 1, slots := 70, locals := 49 } : Room) #[(.ref x), (.ref q), .null] h WL FL (Q_sasb Z x q t cap cs h) := by
 refine Ct.of (plainFor_of_name pn0) ?_
 intro p e s m below meth c s1 hx w hml hnm hret hlk X0
 refine Wo.cast (f' := (mkF m 0 #[.val (.ref x), .val (.ref q), .val .null, .unset, .unset] [])) (by rfl) ?_
 have K0 : Keep h h [x] := Keep.refl _ _
 show Wo _ _ _ _ _ _ _ _ _ _ _ s1 (mkF m 0 #[.val (.ref x), .val (.ref q), .val .null, .unset, .unset] [])
 refine P.aloadN X0 hx 1 (hb w d29_0) rfl rfl rfl ?_
 refine X0.initO hx (w15 cx) (w16 cx) (w17 cx) (by rw [hml]; rfl) (hb w d29_1) (nle rfl) (W := 0) (nle rfl) (nle rfl) ?_
 intro T1 X1
 refine P.aloadN X1 hx 5 (hb w d29_4) rfl rfl rfl ?_
 obtain ⟨k2, A2⟩ := P4.2.2.2.2.1
 refine X1.callV hx (w189 cx) (w190 cx) (w192 cx) (w191 cx) (fun _ hZ => nf hZ (w192 cx)) (by decide) P4.1 (Ct.pay (W := 0) (ct_getval cx q t h _ _ P4.2.1) (w193 cx) (w83 cx) (nle rfl) (nle rfl)) (by rw [hml]; rfl) (argsL := []) (rest := []) (lenOf pd14 rfl) rfl rfl (nle rfl) (hb w d29_5) (nle rfl) (nle rfl) ?_
 rintro T3 h3 _ _ _ X3 ⟨rfl, rfl, rfl, J3⟩
 rw [J3] at X3
 refine P.astoreN X3 hx 9 #[.val (.ref x), .val (.ref q), .val .null, .val (.ref t), .unset] (hb w d29_8) rfl rfl rfl ?_
 refine P.aloadN X3 hx 10 (hb w d29_9) rfl rfl rfl ?_
 refine X3.callV hx (w194 cx) (w195 cx) (w197 cx) (w198 cx) (fun _ hZ => nfO hZ (w131 cx) rfl) (by decide) P4.1 (Ct.pay (W := 0) (ct_sblen cx q (Int32.ofNat cs.length) h _ _ P4.1 P4.2.2.2.1) (w199 cx) (w75 cx) (nle rfl) (nle rfl)) (by rw [hml]; rfl) (argsL := []) (rest := []) (lenOf pd8 rfl) rfl rfl (nle rfl) (hb w d29_10) (nle rfl) (nle rfl) ?_
 rintro T4 h4 _ _ _ X4 ⟨rfl, rfl, rfl, J4⟩
 rw [J4] at X4
 refine P.istore X4 hx 15 #[.val (.ref x), .val (.ref q), .val .null, .val (.ref t), .val (.int (Int32.ofNat cs.length))] (hb w d29_13) rfl rfl ?_
 refine P.aloadN X4 hx 16 (hb w d29_15) rfl rfl rfl ?_
 refine X4.callV hx (w202 cx) (w169 cx) (w171 cx) (w170 cx) (fun _ hZ => nf hZ (w171 cx)) (by decide) P4.1 (Ct.pay (W := 0) (ct_asblat cx q h _ _ P4.2.2.1) (w172 cx) (w83 cx) (nle rfl) (nle rfl)) (by rw [hml]; rfl) (argsL := []) (rest := []) (lenOf pd15 rfl) rfl rfl (nle rfl) (hb w d29_16) (nle rfl) (nle rfl) ?_
 rintro T5 h5 _ _ _ X5 ⟨rfl, rfl, rfl, J5⟩
 rw [J5] at X5
 refine P.ifNo X5 hx 22 (hb w d29_19) (by decide) rfl ?_
 refine P.aloadN X5 hx 23 (hb w d29_22) rfl rfl rfl ?_
 refine P.iconst X5 hx 24 0 (hb w d29_23) rfl rfl ?_
 refine X5.putF hx (host := "") (Or.inl (w25 cx)) Via.refl P2 P0 (Or.inr ⟨(w21 cx), rfl, hnm⟩) (w5 cx) (ty := .byte) (by decide) rfl rfl P3 (hb w d29_24) ?_
 intro T6 h6 X6 W6 G6
 have K7 := K0.wr W6 (Or.inl (mg 0 rfl))
 refine P.aloadN X6 hx 28 (hb w d29_27) rfl rfl rfl ?_
 refine P.aloadN X6 hx 29 (hb w d29_28) rfl rfl rfl ?_
 refine P.iconst X6 hx 30 0 (hb w d29_29) rfl rfl ?_
 refine P.iload X6 hx 32 (hb w d29_30) rfl rfl ?_
 have F8 := A2.other W6 htx
 refine X6.callS hx (w203 cx) (w204 cx) (w205 cx) (w206 cx) (by decide) (Ct.pay (W := 1) (ct_cor cx t k2 cap cs h6 _ _ F8 hl P4.2.2.2.2.2.2.2.1 hB) (w206 cx) (w205 cx) (nle rfl) (nle rfl)) (by rw [hml]; rfl) (argsL := [.ref t, .int 0, .int (Int32.ofNat cs.length)]) (rest := [.ref x]) (lenOf pd13 rfl) rfl rfl (nle rfl) (hb w d29_32) (nle rfl) (nle rfl) ?_
 rintro T9 h9 _ _ _ X9 ⟨a10, k11, rfl, rfl, rfl, J9, g13, G12⟩
 have ge14 := Nat.le_trans K7.1 g13
 have K15 := K7.trans J9 all0
 have F16 := (P1.other W6 (Or.inr (slot_ne (Or.inr (w20 cx)) (Or.inr (w21 cx)) (by decide) (t := (.array .byte)) (t' := .byte) (by decide) (by decide)))).keep J9 nin0
 have F17 := (P0.wr W6).keep J9
 refine X9.putF hx (host := "") (Or.inl (w24 cx)) Via.refl F16 F17 (Or.inr ⟨(w20 cx), rfl, hnm⟩) (w5 cx) (ty := (.array .byte)) (by decide) rfl rfl (mc P3) (hb w d29_35) ?_
 intro T18 h18 X18 W18 G18
 have K19 := K15.wr W18 (Or.inl (mg 0 rfl))
 refine P.goto X18 hx 97 (hb w d29_38) (by decide) (by decide) ?_
 have F20 := F17.wr W18
 have F21 := (G6.keep J9 nin0).other W18 (Or.inr (slot_ne (Or.inr (w21 cx)) (Or.inr (w20 cx)) (by decide) (t := .byte) (t' := (.array .byte)) (by decide) (by decide)))
 have F22 := G12.other W18 (X18.neT (A := [a10]) (B := WL) (mg 0 rfl) P3)
 have S23 : StrL Z h18 x a10 cs := ⟨F20, G18, F21, ⟨_, F22⟩, P4.2.2.2.2.2.1, Nat.le_trans hB (by decide)⟩
 have X24 := WS.drop (A := []) (B := WL) X18
 exact WS.retV X24 (WL' := []) (FL' := [a10]) hx hret hlk (hb w d29_97) (nle rfl) (nle rfl) ⟨a10, rfl, rfl, rfl, K19, S23⟩
def Q_ssb (Z : State) (x : Addr) (q : Addr) (t : Addr) (cap : Nat) (cs : List Int32) (h : Heap) (v : Option Value) (h' : Heap) (WL' FL' : List Addr) : Prop := ∃ u : Addr, v = none ∧ WL' = [] ∧ FL' = [u] ∧ Keep h h' [x] ∧ StrL Z h' x u cs
theorem ct_ssb (cx : Cx a0 Z gC gF v_AL v_DO k_DO) (x : Addr) (q : Addr) (t : Addr) (cap : Nat) (cs : List Int32) (h : Heap) (WL FL : List Addr) (P0 : Exa Z h x "java/lang/String") (P1 : Fld Z h x "java/lang/String" "value" "[B" .null) (P2 : Fld Z h x "java/lang/String" "coder" "B" (.int 0)) (P3 : x ∈ WL) (P4 : SB Z h q t cap cs) (hl : cs.length < cap) (hB : cs.length ≤ 70) (hqx : q ≠ x) (htx : t ≠ x) :
   Ct l Z EL1 n0 (⟨"java/lang/String", "<init>", "(Ljava/lang/StringBuilder;)V"⟩ : MethodName) jdk_42_method_53_code 2 (Option.none : Option Jvm.ClassFile.FieldType) ({ frames := 4, cells := 1, slots := 70, locals := 65 } : Room) #[(.ref x), (.ref q)] h WL FL (Q_ssb Z x q t cap cs h) := by
 refine Ct.of (plainFor_of_name pn0) ?_
 intro p e s m below meth c s1 hx w hml hnm hret hlk X0
 refine Wo.cast (f' := (mkF m 0 #[.val (.ref x), .val (.ref q)] [])) (by rfl) ?_
 have K0 : Keep h h [x] := Keep.refl _ _
 show Wo _ _ _ _ _ _ _ _ _ _ _ s1 (mkF m 0 #[.val (.ref x), .val (.ref q)] [])
 refine P.aloadN X0 hx 1 (hb w d28_0) rfl rfl rfl ?_
 refine P.aloadN X0 hx 2 (hb w d28_1) rfl rfl rfl ?_
 refine P.aconstNull X0 hx 3 (hb w d28_2) rfl ?_
 refine X0.callC hx rfl (w186 cx) (w187 cx) (w188 cx) (by decide) (Ct.pay (W := 0) (ct_sasb cx x q t cap cs h _ _ P0 P1 P2 P3 P4 hl hB hqx htx) (w188 cx) (w6 cx) (nle rfl) (nle rfl)) (by rw [hml]; rfl) (argsL := [.ref q, .null]) (rest := []) (lenOf pd16 rfl) rfl rfl (nle rfl) (hb w d28_3) (nle rfl) (nle rfl) ?_
 rintro T1 h1 _ _ _ X1 ⟨a2, rfl, rfl, rfl, J1, G3⟩
 have K4 := K0.trans J1 (allS (Or.inl (mg 0 rfl)) all0)
 exact WS.retV X1 (WL' := []) (FL' := [a2]) hx hret hlk (hb w d28_6) (nle rfl) (nle rfl) ⟨a2, rfl, rfl, rfl, K4, G3⟩
def Q_sbstr (Z : State) (q : Addr) (t : Addr) (cap : Nat) (cs : List Int32) (h : Heap) (v : Option Value) (h' : Heap) (WL' FL' : List Addr) : Prop := ∃ x : Addr, ∃ u : Addr, v = some (.ref x) ∧ WL' = [x] ∧ FL' = [u] ∧ Keep h h' [] ∧ h.size ≤ x ∧ StrL Z h' x u cs
theorem ct_sbstr (cx : Cx a0 Z gC gF v_AL v_DO k_DO) (q : Addr) (t : Addr) (cap : Nat) (cs : List Int32) (h : Heap) (WL FL : List Addr) (P0 : SB Z h q t cap cs) (P1 : q ∈ WL) (P2 : t ∈ WL) (hl : cs.length < cap) (hB : cs.length ≤ 70) :
   Ct l Z EL1 n0 (⟨"java/lang/StringBuilder", "toString", "()Ljava/lang/String;"⟩ : MethodName) jdk_67_method_42_code 1 (Option.some (FieldType.object "java/lang/String")) ({ frames := 5, cells := 2, slots := 74, locals := 79 } : Room) #[(.ref q)] h WL FL (Q_sbstr Z q t cap cs h) := by
 refine Ct.of (plainFor_of_name pn4) ?_
 intro p e s m below meth c s1 hx w hml hnm hret hlk X0
 refine Wo.cast (f' := (mkF m 0 #[.val (.ref q)] [])) (by rfl) ?_
 have K0 : Keep h h [] := Keep.refl _ _
 show Wo _ _ _ _ _ _ _ _ _ _ _ s1 (mkF m 0 #[.val (.ref q)] [])
 refine X0.newO hx (w182 cx) (w5 cx) (w6 cx) (hb w d27_0) (nle rfl) (nle rfl) ?_
 intro T1 h1 a1 X1 E1 g1 A1 D1
 have ge2 := Nat.le_trans K0.1 g1
 have K3 := K0.ext E1
 have D4 : Fld Z h1 a1 "java/lang/String" "value" "[B" .null := D1 (Or.inr (w20 cx)) (ty := (.array .byte)) (by decide)
 have D5 : Fld Z h1 a1 "java/lang/String" "coder" "B" (.int 0) := D1 (Or.inr (w21 cx)) (ty := .byte) (by decide)
 refine P.dup X1 hx 4 (hb w d27_3) rfl rfl ?_
 refine P.aloadN X1 hx 5 (hb w d27_4) rfl rfl rfl ?_
 have F6 := P0.ext E1
 refine X1.callC hx rfl (w183 cx) (w184 cx) (w185 cx) (by decide) (Ct.pay (W := 1) (ct_ssb cx a1 q t cap cs h1 _ _ A1 D4 D5 (mg 0 rfl) F6 hl hB (Ne.symm (X1.neT (A := [a1]) (B := WL) (mg 0 rfl) P1)) (Ne.symm (X1.neT (A := [a1]) (B := WL) (mg 0 rfl) P2))) (w185 cx) (w6 cx) (nle rfl) (nle rfl)) (by rw [hml]; rfl) (argsL := [.ref q]) (rest := [.ref a1]) (lenOf pd17 rfl) rfl rfl (nle rfl) (hb w d27_5) (nle rfl) (nle rfl) ?_
 rintro T7 h7 _ _ _ X7 ⟨a8, rfl, rfl, rfl, J7, G9⟩
 have K10 := K3.trans J7 (allS (Or.inr ge2) all0)
 exact WS.retA X7 (WL' := [a1]) (FL' := [a8]) hx hret rfl rfl hlk (hb w d27_8) (nle rfl) (nle rfl) ⟨a1, a8, rfl, rfl, rfl, K10, ge2, G9⟩
def Q_corF (Z : State) (t : Addr) (kt : ClassId) (cap : Nat) (cs : List Int32) (h : Heap) (v : Option Value) (h' : Heap) (WL' FL' : List Addr) : Prop := ∃ u : Addr, ∃ ku : ClassId, v = some (.ref u) ∧ WL' = [u] ∧ FL' = [] ∧ Keep h h' [] ∧ h.size ≤ u ∧ Arv Z h' u ku .byte (Int32.ofNat cs.length) (lat cs) (.int 0)
theorem ct_corF (cx : Cx a0 Z gC gF v_AL v_DO k_DO) (t : Addr) (kt : ClassId) (cap : Nat) (cs : List Int32) (h : Heap) (WL FL : List Addr) (P0 : Arv Z h t kt .byte (Int32.ofNat cap) (lat cs) (.int 0)) (hl : cs.length = cap) (hc : cap ≤ 4000) (hB : cs.length ≤ 70) (P4 : Exa Z h t "[B") :
   Ct l Z EL1 n0 (⟨"java/util/Arrays", "copyOfRange", "([BII)[B"⟩ : MethodName) jdk_65_method_132_code 3 (Option.some (FieldType.array FieldType.byte)) ({ frames := 1, cells := 1, slots := 70, locals := 14 } : Room) #[(.ref t), (.int 0), (.int (Int32.ofNat cs.length))] h WL FL (Q_corF Z t kt cap cs h) := by
 refine Ct.of (plainFor_of_name pn3) ?_
 intro p e s m below meth c s1 hx w hml hnm hret hlk X0
 refine Wo.cast (f' := (mkF m 0 #[.val (.ref t), .val (.int 0), .val (.int (Int32.ofNat cs.length))] [])) (by rfl) ?_
 have K0 : Keep h h [] := Keep.refl _ _
 show Wo _ _ _ _ _ _ _ _ _ _ _ s1 (mkF m 0 #[.val (.ref t), .val (.int 0), .val (.int (Int32.ofNat cs.length))] [])
 refine P.iloadN X0 hx 1 (hb w d33_0) rfl rfl ?_
 refine P.ifNo X0 hx 4 (hb w d33_1) (by decide) rfl ?_
 refine P.iloadN X0 hx 5 (hb w d33_4) rfl rfl ?_
 refine P.aloadN X0 hx 6 (hb w d33_5) rfl rfl rfl ?_
 refine WS.alen X0 hx P0 (hb w d33_6) ?_
 refine P.icmpYes X0 hx 17 (hb w d33_7) (teq (by rw [hl])).1 (by decide) (by decide) ?_
 refine P.aloadN X0 hx 18 (hb w d33_17) rfl rfl rfl ?_
 refine X0.clone hx (w316 cx) (w317 cx) (w321 cx) (w319 cx) (w320 cx) (w322 cx) P0 P4 (by rw [hml]; rfl) (hb w d33_18) (nle rfl) (W := 0) (cap := 70) (nle rfl) (nle rfl) (by rw [← hl, oC (Nat.lt_of_le_of_lt hB (by decide))]; exact hB) (nle rfl) (nle rfl) ?_
 intro T1 h1 a1 X1 E1 g1 Ex1 A1
 have ge2 := Nat.le_trans K0.1 g1
 have K3 := K0.ext E1
 refine X1.castY hx (w323 cx) (Ins.self Ex1) (hb w d33_21) ?_
 intro T4 X4
 have V5 : Arv Z h1 a1 kt .byte (Int32.ofNat cs.length) (lat cs) (.int 0) := by rw [hl]; exact A1
 exact WS.retA X4 (WL' := [a1]) (FL' := []) hx hret rfl rfl hlk (hb w d33_24) (nle rfl) (nle rfl) ⟨a1, kt, rfl, rfl, rfl, K3, ge2, V5⟩
def Q_sasbF (Z : State) (x : Addr) (q : Addr) (t : Addr) (cap : Nat) (cs : List Int32) (h : Heap) (v : Option Value) (h' : Heap) (WL' FL' : List Addr) : Prop := ∃ u : Addr, v = none ∧ WL' = [] ∧ FL' = [u] ∧ Keep h h' [x] ∧ StrL Z h' x u cs
theorem ct_sasbF (cx : Cx a0 Z gC gF v_AL v_DO k_DO) (x : Addr) (q : Addr) (t : Addr) (cap : Nat) (cs : List Int32) (h : Heap) (WL FL : List Addr) (P0 : Exa Z h x "java/lang/String") (P1 : Fld Z h x "java/lang/String" "value" "[B" .null) (P2 : Fld Z h x "java/lang/String" "coder" "B" (.int 0)) (P3 : x ∈ WL) (P4 : SB Z h q t cap cs) (hl : cs.length = cap) (hB : cs.length ≤ 70) (hqx : q ≠ x) (htx : t ≠ x) :
   Ct l Z EL1 n0 (⟨"java/lang/String", "<init>", "(Ljava/lang/AbstractStringBuilder;Ljava/lang/Void;)V"⟩ : MethodName) jdk_42_method_150_code 5 (Option.none : Option Jvm.ClassFile.FieldType) ({ frames := 2, cells := 1, slots := 70, locals := 29 } : Room) #[(.ref x), (.ref q), .null] h WL FL (Q_sasbF Z x q t cap cs h) := by
 refine Ct.of (plainFor_of_name pn0) ?_
 intro p e s m below meth c s1 hx w hml hnm hret hlk X0
 refine Wo.cast (f' := (mkF m 0 #[.val (.ref x), .val (.ref q), .val .null, .unset, .unset] [])) (by rfl) ?_
 have K0 : Keep h h [x] := Keep.refl _ _
 show Wo _ _ _ _ _ _ _ _ _ _ _ s1 (mkF m 0 #[.val (.ref x), .val (.ref q), .val .null, .unset, .unset] [])
 refine P.aloadN X0 hx 1 (hb w d29_0) rfl rfl rfl ?_
 refine X0.initO hx (w15 cx) (w16 cx) (w17 cx) (by rw [hml]; rfl) (hb w d29_1) (nle rfl) (W := 0) (nle rfl) (nle rfl) ?_
 intro T1 X1
 refine P.aloadN X1 hx 5 (hb w d29_4) rfl rfl rfl ?_
 obtain ⟨k2, A2⟩ := P4.2.2.2.2.1
 refine X1.callV hx (w189 cx) (w190 cx) (w192 cx) (w191 cx) (fun _ hZ => nf hZ (w192 cx)) (by decide) P4.1 (Ct.pay (W := 0) (ct_getval cx q t h _ _ P4.2.1) (w193 cx) (w83 cx) (nle rfl) (nle rfl)) (by rw [hml]; rfl) (argsL := []) (rest := []) (lenOf pd14 rfl) rfl rfl (nle rfl) (hb w d29_5) (nle rfl) (nle rfl) ?_
 rintro T3 h3 _ _ _ X3 ⟨rfl, rfl, rfl, J3⟩
 rw [J3] at X3
 refine P.astoreN X3 hx 9 #[.val (.ref x), .val (.ref q), .val .null, .val (.ref t), .unset] (hb w d29_8) rfl rfl rfl ?_
 refine P.aloadN X3 hx 10 (hb w d29_9) rfl rfl rfl ?_
 refine X3.callV hx (w194 cx) (w195 cx) (w197 cx) (w198 cx) (fun _ hZ => nfO hZ (w131 cx) rfl) (by decide) P4.1 (Ct.pay (W := 0) (ct_sblen cx q (Int32.ofNat cs.length) h _ _ P4.1 P4.2.2.2.1) (w199 cx) (w75 cx) (nle rfl) (nle rfl)) (by rw [hml]; rfl) (argsL := []) (rest := []) (lenOf pd8 rfl) rfl rfl (nle rfl) (hb w d29_10) (nle rfl) (nle rfl) ?_
 rintro T4 h4 _ _ _ X4 ⟨rfl, rfl, rfl, J4⟩
 rw [J4] at X4
 refine P.istore X4 hx 15 #[.val (.ref x), .val (.ref q), .val .null, .val (.ref t), .val (.int (Int32.ofNat cs.length))] (hb w d29_13) rfl rfl ?_
 refine P.aloadN X4 hx 16 (hb w d29_15) rfl rfl rfl ?_
 refine X4.callV hx (w202 cx) (w169 cx) (w171 cx) (w170 cx) (fun _ hZ => nf hZ (w171 cx)) (by decide) P4.1 (Ct.pay (W := 0) (ct_asblat cx q h _ _ P4.2.2.1) (w172 cx) (w83 cx) (nle rfl) (nle rfl)) (by rw [hml]; rfl) (argsL := []) (rest := []) (lenOf pd15 rfl) rfl rfl (nle rfl) (hb w d29_16) (nle rfl) (nle rfl) ?_
 rintro T5 h5 _ _ _ X5 ⟨rfl, rfl, rfl, J5⟩
 rw [J5] at X5
 refine P.ifNo X5 hx 22 (hb w d29_19) (by decide) rfl ?_
 refine P.aloadN X5 hx 23 (hb w d29_22) rfl rfl rfl ?_
 refine P.iconst X5 hx 24 0 (hb w d29_23) rfl rfl ?_
 refine X5.putF hx (host := "") (Or.inl (w25 cx)) Via.refl P2 P0 (Or.inr ⟨(w21 cx), rfl, hnm⟩) (w5 cx) (ty := .byte) (by decide) rfl rfl P3 (hb w d29_24) ?_
 intro T6 h6 X6 W6 G6
 have K7 := K0.wr W6 (Or.inl (mg 0 rfl))
 refine P.aloadN X6 hx 28 (hb w d29_27) rfl rfl rfl ?_
 refine P.aloadN X6 hx 29 (hb w d29_28) rfl rfl rfl ?_
 refine P.iconst X6 hx 30 0 (hb w d29_29) rfl rfl ?_
 refine P.iload X6 hx 32 (hb w d29_30) rfl rfl ?_
 have F8 := A2.other W6 htx
 have F9 := P4.2.2.2.2.2.2.2.2.wr W6
 refine X6.callS hx (w203 cx) (w204 cx) (w205 cx) (w206 cx) (by decide) (Ct.pay (W := 1) (ct_corF cx t k2 cap cs h6 _ _ F8 hl P4.2.2.2.2.2.2.2.1 hB F9) (w206 cx) (w205 cx) (nle rfl) (nle rfl)) (by rw [hml]; rfl) (argsL := [.ref t, .int 0, .int (Int32.ofNat cs.length)]) (rest := [.ref x]) (lenOf pd13 rfl) rfl rfl (nle rfl) (hb w d29_32) (nle rfl) (nle rfl) ?_
 rintro T10 h10 _ _ _ X10 ⟨a11, k12, rfl, rfl, rfl, J10, g14, G13⟩
 have ge15 := Nat.le_trans K7.1 g14
 have K16 := K7.trans J10 all0
 have F17 := (P1.other W6 (Or.inr (slot_ne (Or.inr (w20 cx)) (Or.inr (w21 cx)) (by decide) (t := (.array .byte)) (t' := .byte) (by decide) (by decide)))).keep J10 nin0
 have F18 := (P0.wr W6).keep J10
 refine X10.putF hx (host := "") (Or.inl (w24 cx)) Via.refl F17 F18 (Or.inr ⟨(w20 cx), rfl, hnm⟩) (w5 cx) (ty := (.array .byte)) (by decide) rfl rfl (mc P3) (hb w d29_35) ?_
 intro T19 h19 X19 W19 G19
 have K20 := K16.wr W19 (Or.inl (mg 0 rfl))
 refine P.goto X19 hx 97 (hb w d29_38) (by decide) (by decide) ?_
 have F21 := F18.wr W19
 have F22 := (G6.keep J10 nin0).other W19 (Or.inr (slot_ne (Or.inr (w21 cx)) (Or.inr (w20 cx)) (by decide) (t := .byte) (t' := (.array .byte)) (by decide) (by decide)))
 have F23 := G13.other W19 (X19.neT (A := [a11]) (B := WL) (mg 0 rfl) P3)
 have S24 : StrL Z h19 x a11 cs := ⟨F21, G19, F22, ⟨_, F23⟩, P4.2.2.2.2.2.1, Nat.le_trans hB (by decide)⟩
 have X25 := WS.drop (A := []) (B := WL) X19
 exact WS.retV X25 (WL' := []) (FL' := [a11]) hx hret hlk (hb w d29_97) (nle rfl) (nle rfl) ⟨a11, rfl, rfl, rfl, K20, S24⟩
def Q_ssbF (Z : State) (x : Addr) (q : Addr) (t : Addr) (cap : Nat) (cs : List Int32) (h : Heap) (v : Option Value) (h' : Heap) (WL' FL' : List Addr) : Prop := ∃ u : Addr, v = none ∧ WL' = [] ∧ FL' = [u] ∧ Keep h h' [x] ∧ StrL Z h' x u cs
theorem ct_ssbF (cx : Cx a0 Z gC gF v_AL v_DO k_DO) (x : Addr) (q : Addr) (t : Addr) (cap : Nat) (cs : List Int32) (h : Heap) (WL FL : List Addr) (P0 : Exa Z h x "java/lang/String") (P1 : Fld Z h x "java/lang/String" "value" "[B" .null) (P2 : Fld Z h x "java/lang/String" "coder" "B" (.int 0)) (P3 : x ∈ WL) (P4 : SB Z h q t cap cs) (hl : cs.length = cap) (hB : cs.length ≤ 70) (hqx : q ≠ x) (htx : t ≠ x) :
   Ct l Z EL1 n0 (⟨"java/lang/String", "<init>", "(Ljava/lang/StringBuilder;)V"⟩ : MethodName) jdk_42_method_53_code 2 (Option.none : Option Jvm.ClassFile.FieldType) ({ frames := 3, cells := 1, slots := 70, locals := 45 } : Room) #[(.ref x), (.ref q)] h WL FL (Q_ssbF Z x q t cap cs h) := by
 refine Ct.of (plainFor_of_name pn0) ?_
 intro p e s m below meth c s1 hx w hml hnm hret hlk X0
 refine Wo.cast (f' := (mkF m 0 #[.val (.ref x), .val (.ref q)] [])) (by rfl) ?_
 have K0 : Keep h h [x] := Keep.refl _ _
 show Wo _ _ _ _ _ _ _ _ _ _ _ s1 (mkF m 0 #[.val (.ref x), .val (.ref q)] [])
 refine P.aloadN X0 hx 1 (hb w d28_0) rfl rfl rfl ?_
 refine P.aloadN X0 hx 2 (hb w d28_1) rfl rfl rfl ?_
 refine P.aconstNull X0 hx 3 (hb w d28_2) rfl ?_
 refine X0.callC hx rfl (w186 cx) (w187 cx) (w188 cx) (by decide) (Ct.pay (W := 0) (ct_sasbF cx x q t cap cs h _ _ P0 P1 P2 P3 P4 hl hB hqx htx) (w188 cx) (w6 cx) (nle rfl) (nle rfl)) (by rw [hml]; rfl) (argsL := [.ref q, .null]) (rest := []) (lenOf pd16 rfl) rfl rfl (nle rfl) (hb w d28_3) (nle rfl) (nle rfl) ?_
 rintro T1 h1 _ _ _ X1 ⟨a2, rfl, rfl, rfl, J1, G3⟩
 have K4 := K0.trans J1 (allS (Or.inl (mg 0 rfl)) all0)
 exact WS.retV X1 (WL' := []) (FL' := [a2]) hx hret hlk (hb w d28_6) (nle rfl) (nle rfl) ⟨a2, rfl, rfl, rfl, K4, G3⟩
def Q_sbstrF (Z : State) (q : Addr) (t : Addr) (cap : Nat) (cs : List Int32) (h : Heap) (v : Option Value) (h' : Heap) (WL' FL' : List Addr) : Prop := ∃ x : Addr, ∃ u : Addr, v = some (.ref x) ∧ WL' = [x] ∧ FL' = [u] ∧ Keep h h' [] ∧ h.size ≤ x ∧ StrL Z h' x u cs
theorem ct_sbstrF (cx : Cx a0 Z gC gF v_AL v_DO k_DO) (q : Addr) (t : Addr) (cap : Nat) (cs : List Int32) (h : Heap) (WL FL : List Addr) (P0 : SB Z h q t cap cs) (P1 : q ∈ WL) (P2 : t ∈ WL) (hl : cs.length = cap) (hB : cs.length ≤ 70) :
   Ct l Z EL1 n0 (⟨"java/lang/StringBuilder", "toString", "()Ljava/lang/String;"⟩ : MethodName) jdk_67_method_42_code 1 (Option.some (FieldType.object "java/lang/String")) ({ frames := 4, cells := 2, slots := 74, locals := 59 } : Room) #[(.ref q)] h WL FL (Q_sbstrF Z q t cap cs h) := by
 refine Ct.of (plainFor_of_name pn4) ?_
 intro p e s m below meth c s1 hx w hml hnm hret hlk X0
 refine Wo.cast (f' := (mkF m 0 #[.val (.ref q)] [])) (by rfl) ?_
 have K0 : Keep h h [] := Keep.refl _ _
 show Wo _ _ _ _ _ _ _ _ _ _ _ s1 (mkF m 0 #[.val (.ref q)] [])
 refine X0.newO hx (w182 cx) (w5 cx) (w6 cx) (hb w d27_0) (nle rfl) (nle rfl) ?_
 intro T1 h1 a1 X1 E1 g1 A1 D1
 have ge2 := Nat.le_trans K0.1 g1
 have K3 := K0.ext E1
 have D4 : Fld Z h1 a1 "java/lang/String" "value" "[B" .null := D1 (Or.inr (w20 cx)) (ty := (.array .byte)) (by decide)
 have D5 : Fld Z h1 a1 "java/lang/String" "coder" "B" (.int 0) := D1 (Or.inr (w21 cx)) (ty := .byte) (by decide)
 refine P.dup X1 hx 4 (hb w d27_3) rfl rfl ?_
 refine P.aloadN X1 hx 5 (hb w d27_4) rfl rfl rfl ?_
 have F6 := P0.ext E1
 refine X1.callC hx rfl (w183 cx) (w184 cx) (w185 cx) (by decide) (Ct.pay (W := 1) (ct_ssbF cx a1 q t cap cs h1 _ _ A1 D4 D5 (mg 0 rfl) F6 hl hB (Ne.symm (X1.neT (A := [a1]) (B := WL) (mg 0 rfl) P1)) (Ne.symm (X1.neT (A := [a1]) (B := WL) (mg 0 rfl) P2))) (w185 cx) (w6 cx) (nle rfl) (nle rfl)) (by rw [hml]; rfl) (argsL := [.ref q]) (rest := [.ref a1]) (lenOf pd17 rfl) rfl rfl (nle rfl) (hb w d27_5) (nle rfl) (nle rfl) ?_
 rintro T7 h7 _ _ _ X7 ⟨a8, rfl, rfl, rfl, J7, G9⟩
 have K10 := K3.trans J7 (allS (Or.inr ge2) all0)
 exact WS.retA X7 (WL' := [a1]) (FL' := [a8]) hx hret rfl rfl hlk (hb w d27_8) (nle rfl) (nle rfl) ⟨a1, a8, rfl, rfl, rfl, K10, ge2, G9⟩
def Q_cencC (Z : State) (c1 : Int32) (h : Heap) (v : Option Value) (h' : Heap) (WL' FL' : List Addr) : Prop := v = some (.int 1) ∧ WL' = [] ∧ FL' = [] ∧ h' = h
theorem ct_cencC (cx : Cx a0 Z gC gF v_AL v_DO k_DO) (c1 : Int32) (h : Heap) (WL FL : List Addr) (hR : ¬ c1 < 0 ∧ ¬ (255 : Int32) < c1) :
   Ct l Z EL1 n0 (⟨"java/lang/StringLatin1", "canEncode", "(C)Z"⟩ : MethodName) jdk_43_method_3_code 1 (Option.some FieldType.boolean) ({ frames := 0, cells := 0, slots := 0, locals := 0 } : Room) #[(.int c1)] h WL FL (Q_cencC Z c1 h) := by
 refine Ct.of (plainFor_of_name pn5) ?_
 intro p e s m below meth c s1 hx w hml hnm hret hlk X0
 refine Wo.cast (f' := (mkF m 0 #[.val (.int c1)] [])) (by rfl) ?_
 show Wo _ _ _ _ _ _ _ _ _ _ _ s1 (mkF m 0 #[.val (.int c1)] [])
 refine P.iloadN X0 hx 1 (hb w d39_0) rfl rfl ?_
 refine P.sipush X0 hx 4 255 (hb w d39_1) rfl rfl ?_
 refine P.icmpNo X0 hx 7 (hb w d39_4) (flt hR.2).2.2.1 rfl ?_
 refine P.iconst X0 hx 8 1 (hb w d39_7) rfl rfl ?_
 refine P.goto X0 hx 12 (hb w d39_8) (by decide) (by decide) ?_
 exact WS.retN X0 (WL' := []) (FL' := []) hx (t := .boolean) hret (by simp) hlk (hb w d39_12) (nle rfl) (nle rfl) ⟨rfl, rfl, rfl, rfl⟩
def Q_tobyC (Z : State) (c1 : Int32) (h : Heap) (v : Option Value) (h' : Heap) (WL' FL' : List Addr) : Prop := ∃ u : Addr, ∃ ku : ClassId, v = some (.ref u) ∧ WL' = [u] ∧ FL' = [] ∧ Keep h h' [] ∧ h.size ≤ u ∧ Arv Z h' u ku .byte (1 : Int32) [(.int (c1.toInt8.toInt32))] (.int 0)
theorem ct_tobyC (cx : Cx a0 Z gC gF v_AL v_DO k_DO) (c1 : Int32) (h : Heap) (WL FL : List Addr)  :
   Ct l Z EL1 n0 (⟨"java/lang/StringLatin1", "toBytes", "(C)[B"⟩ : MethodName) jdk_43_method_46_code 1 (Option.some (FieldType.array FieldType.byte)) ({ frames := 0, cells := 1, slots := 1, locals := 0 } : Room) #[(.int c1)] h WL FL (Q_tobyC Z c1 h) := by
 refine Ct.of (plainFor_of_name pn5) ?_
 intro p e s m below meth c s1 hx w hml hnm hret hlk X0
 refine Wo.cast (f' := (mkF m 0 #[.val (.int c1)] [])) (by rfl) ?_
 have K0 : Keep h h [] := Keep.refl _ _
 show Wo _ _ _ _ _ _ _ _ _ _ _ s1 (mkF m 0 #[.val (.int c1)] [])
 refine P.iconst X0 hx 1 1 (hb w d41_0) rfl rfl ?_
 refine X0.newPE (aty := .byte) hx (w19 cx) (hb w d41_1) (by decide) (cap := 1) (nle rfl) (nle rfl) (nle rfl) (nle rfl) (ad := "[B") (by decide) ?_
 intro T1 h1 a1 k1 X1 E1 g1 A1 Ex1
 have ge2 := Nat.le_trans K0.1 g1
 have K3 := K0.ext E1
 have V4 : Arv Z h1 a1 k1 .byte (1 : Int32) [(.int 0)] (.int 0) := Arv.pad A1 (pad_rep [] _ 1)
 refine P.dup X1 hx 4 (hb w d41_3) rfl rfl ?_
 refine P.iconst X1 hx 5 0 (hb w d41_4) rfl rfl ?_
 refine P.iloadN X1 hx 6 (hb w d41_5) rfl rfl ?_
 refine P.i2b X1 hx 7 (z := (c1.toInt8.toInt32)) (hb w d41_6) rfl rfl ?_
 refine X1.stB hx V4 (j := (0 : Int32)) (x := (c1.toInt8.toInt32)) (i := 0) (by decide) rfl (nlt rfl) (mg 0 rfl) (hb w d41_7) ?_
 intro T5 h5 X5 W5 G5
 have K6 := K3.wr W5 (Or.inr ge2)
 have V7 : Arv Z h5 a1 k1 .byte (1 : Int32) [(.int (c1.toInt8.toInt32))] (.int 0) := by have q := G5; rw [narB] at q; exact q
 exact WS.retA X5 (WL' := [a1]) (FL' := []) hx hret rfl rfl hlk (hb w d41_8) (nle rfl) (nle rfl) ⟨a1, k1, rfl, rfl, rfl, K6, ge2, V7⟩
def Q_sinBB (Z : State) (x : Addr) (u : Addr) (h : Heap) (v : Option Value) (h' : Heap) (WL' FL' : List Addr) : Prop := v = none ∧ WL' = [] ∧ FL' = [] ∧ Keep h h' [x] ∧ Fld Z h' x "java/lang/String" "value" "[B" (.ref u) ∧ Fld Z h' x "java/lang/String" "coder" "B" (.int 0)
theorem ct_sinBB (cx : Cx a0 Z gC gF v_AL v_DO k_DO) (x : Addr) (u : Addr) (h : Heap) (WL FL : List Addr) (P0 : Exa Z h x "java/lang/String") (P1 : Fld Z h x "java/lang/String" "value" "[B" .null) (P2 : Fld Z h x "java/lang/String" "coder" "B" (.int 0)) (P3 : x ∈ WL) :
   Ct l Z EL1 n0 (⟨"java/lang/String", "<init>", "([BB)V"⟩ : MethodName) jdk_42_method_151_code 3 (Option.none : Option Jvm.ClassFile.FieldType) ({ frames := 1, cells := 0, slots := 0, locals := 12 } : Room) #[(.ref x), (.ref u), (.int 0)] h WL FL (Q_sinBB Z x u h) := by
 refine Ct.of (plainFor_of_name pn0) ?_
 intro p e s m below meth c s1 hx w hml hnm hret hlk X0
 refine Wo.cast (f' := (mkF m 0 #[.val (.ref x), .val (.ref u), .val (.int 0)] [])) (by rfl) ?_
 have K0 : Keep h h [x] := Keep.refl _ _
 show Wo _ _ _ _ _ _ _ _ _ _ _ s1 (mkF m 0 #[.val (.ref x), .val (.ref u), .val (.int 0)] [])
 refine P.aloadN X0 hx 1 (hb w d42_0) rfl rfl rfl ?_
 refine X0.initO hx (w15 cx) (w16 cx) (w17 cx) (by rw [hml]; rfl) (hb w d42_1) (nle rfl) (W := 0) (nle rfl) (nle rfl) ?_
 intro T1 X1
 refine P.aloadN X1 hx 5 (hb w d42_4) rfl rfl rfl ?_
 refine P.aloadN X1 hx 6 (hb w d42_5) rfl rfl rfl ?_
 refine X1.putF hx (host := "") (Or.inl (w24 cx)) Via.refl P1 P0 (Or.inr ⟨(w20 cx), rfl, hnm⟩) (w5 cx) (ty := (.array .byte)) (by decide) rfl rfl P3 (hb w d42_6) ?_
 intro T2 h2 X2 W2 G2
 have K3 := K0.wr W2 (Or.inl (mg 0 rfl))
 refine P.aloadN X2 hx 10 (hb w d42_9) rfl rfl rfl ?_
 refine P.iloadN X2 hx 11 (hb w d42_10) rfl rfl ?_
 have F4 := P2.other W2 (Or.inr (slot_ne (Or.inr (w21 cx)) (Or.inr (w20 cx)) (by decide) (t := .byte) (t' := (.array .byte)) (by decide) (by decide)))
 have F5 := P0.wr W2
 refine X2.putF hx (host := "") (Or.inl (w25 cx)) Via.refl F4 F5 (Or.inr ⟨(w21 cx), rfl, hnm⟩) (w5 cx) (ty := .byte) (by decide) rfl rfl P3 (hb w d42_11) ?_
 intro T6 h6 X6 W6 G6
 have K7 := K3.wr W6 (Or.inl (mg 0 rfl))
 have F8 := G2.other W6 (Or.inr (slot_ne (Or.inr (w20 cx)) (Or.inr (w21 cx)) (by decide) (t := (.array .byte)) (t' := .byte) (by decide) (by decide)))
 exact WS.retV X6 (WL' := []) (FL' := []) hx hret hlk (hb w d42_14) (nle rfl) (nle rfl) ⟨rfl, rfl, rfl, K7, F8, G6⟩
def Q_valC (Z : State) (c1 : Int32) (h : Heap) (v : Option Value) (h' : Heap) (WL' FL' : List Addr) : Prop := ∃ x : Addr, ∃ u : Addr, v = some (.ref x) ∧ WL' = [x] ∧ FL' = [u] ∧ Keep h h' [] ∧ h.size ≤ x ∧ StrL Z h' x u [c1]
theorem ct_valC (cx : Cx a0 Z gC gF v_AL v_DO k_DO) (c1 : Int32) (h : Heap) (WL FL : List Addr) (hR : ¬ c1 < 0 ∧ ¬ (255 : Int32) < c1) :
   Ct l Z EL1 n0 (⟨"java/lang/String", "valueOf", "(C)Ljava/lang/String;"⟩ : MethodName) jdk_42_method_139_code 1 (Option.some (FieldType.object "java/lang/String")) ({ frames := 2, cells := 2, slots := 5, locals := 27 } : Room) #[(.int c1)] h WL FL (Q_valC Z c1 h) := by
 refine Ct.of (plainFor_of_name pn0) ?_
 intro p e s m below meth c s1 hx w hml hnm hret hlk X0
 refine Wo.cast (f' := (mkF m 0 #[.val (.int c1)] [])) (by rfl) ?_
 have K0 : Keep h h [] := Keep.refl _ _
 show Wo _ _ _ _ _ _ _ _ _ _ _ s1 (mkF m 0 #[.val (.int c1)] [])
 refine X0.getS hx (w125 cx) Via.refl (S_C cx) (hb w d40_0) ?_
 intro T1 X1
 refine P.ifNo X1 hx 6 (hb w d40_3) ((if0 _ _).trans (feq (N_C cx)).1) rfl ?_
 refine P.iloadN X1 hx 7 (hb w d40_6) rfl rfl ?_
 refine X1.callS hx (w237 cx) (w231 cx) (w232 cx) (w233 cx) (by decide) (Ct.pay (W := 0) (ct_cencC cx c1 h _ _ hR) (w233 cx) (w232 cx) (nle rfl) (nle rfl)) (by rw [hml]; rfl) (argsL := [.int c1]) (rest := []) (lenOf pd18 rfl) rfl rfl (nle rfl) (hb w d40_7) (nle rfl) (nle rfl) ?_
 rintro T2 h2 _ _ _ X2 ⟨rfl, rfl, rfl, J2⟩
 rw [J2] at X2
 refine P.ifNo X2 hx 13 (hb w d40_10) (by decide) rfl ?_
 refine X2.newO hx (w238 cx) (w5 cx) (w6 cx) (hb w d40_13) (nle rfl) (nle rfl) ?_
 intro T3 h3 a3 X3 E3 g3 A3 D3
 have ge4 := Nat.le_trans K0.1 g3
 have K5 := K0.ext E3
 have D6 : Fld Z h3 a3 "java/lang/String" "value" "[B" .null := D3 (Or.inr (w20 cx)) (ty := (.array .byte)) (by decide)
 have D7 : Fld Z h3 a3 "java/lang/String" "coder" "B" (.int 0) := D3 (Or.inr (w21 cx)) (ty := .byte) (by decide)
 refine P.dup X3 hx 17 (hb w d40_16) rfl rfl ?_
 refine P.iloadN X3 hx 18 (hb w d40_17) rfl rfl ?_
 refine X3.callS hx (w239 cx) (w240 cx) (w232 cx) (w241 cx) (by decide) (Ct.pay (W := 2) (ct_tobyC cx c1 h3 _ _ ) (w241 cx) (w232 cx) (nle rfl) (nle rfl)) (by rw [hml]; rfl) (argsL := [.int c1]) (rest := [.ref a3, .ref a3]) (lenOf pd19 rfl) rfl rfl (nle rfl) (hb w d40_18) (nle rfl) (nle rfl) ?_
 rintro T8 h8 _ _ _ X8 ⟨a9, k10, rfl, rfl, rfl, J8, g12, G11⟩
 have ge13 := Nat.le_trans K5.1 g12
 have K14 := K5.trans J8 all0
 refine P.iconst X8 hx 22 0 (hb w d40_21) rfl rfl ?_
 have F15 := A3.keep J8
 have F16 := D6.keep J8 nin0
 have F17 := D7.keep J8 nin0
 refine X8.callC hx rfl (w242 cx) (w243 cx) (w244 cx) (by decide) (Ct.pay (W := 1) (ct_sinBB cx a3 a9 h8 _ _ F15 F16 F17 (mg 1 rfl)) (w244 cx) (w6 cx) (nle rfl) (nle rfl)) (by rw [hml]; rfl) (argsL := [.ref a9, .int 0]) (rest := [.ref a3]) (lenOf pd20 rfl) rfl rfl (nle rfl) (hb w d40_22) (nle rfl) (nle rfl) ?_
 rintro T18 h18 _ _ _ X18 ⟨rfl, rfl, rfl, J18, G19, G20⟩
 have K21 := K14.trans J18 (allS (Or.inr ge4) all0)
 have F22 := F15.keep J18
 have F23 := G11.keep J18 (ninS (X18.ne (i := 0) (j := 1) rfl rfl (by decide)) nin0)
 have S24 : StrL Z h18 a3 a9 [c1] := ⟨F22, G19, G20, ⟨_, F23⟩, (fcS hR fc0), nle rfl⟩
 have X25 := WS.drop (A := []) (B := (a3 :: WL)) X18
 exact WS.retA X25 (WL' := [a3]) (FL' := [a9]) hx hret rfl rfl hlk (hb w d40_25) (nle rfl) (nle rfl) ⟨a3, a9, rfl, rfl, rfl, K21, ge4, S24⟩
def Q_asbapc (Z : State) (x : Addr) (t : Addr) (cap : Nat) (cs : List Int32) (c1 : Int32) (h : Heap) (v : Option Value) (h' : Heap) (WL' FL' : List Addr) : Prop := v = some (.ref x) ∧ WL' = [] ∧ FL' = [] ∧ Keep h h' [x, t] ∧ SB Z h' x t cap (cs ++ [c1])
theorem ct_asbapc (cx : Cx a0 Z gC gF v_AL v_DO k_DO) (x : Addr) (t : Addr) (cap : Nat) (cs : List Int32) (c1 : Int32) (h : Heap) (WL FL : List Addr) (P0 : SB Z h x t cap cs) (P1 : x ∈ WL) (P2 : t ∈ WL) (hxt : x ≠ t) (hB1 : cs.length + 1 ≤ cap) (hR : ¬ c1 < 0 ∧ ¬ (255 : Int32) < c1) :
   Ct l Z EL1 n0 (⟨"java/lang/AbstractStringBuilder", "append", "(C)Ljava/lang/AbstractStringBuilder;"⟩ : MethodName) jdk_68_method_31_code 2 (Option.some (FieldType.object "java/lang/AbstractStringBuilder")) ({ frames := 1, cells := 0, slots := 0, locals := 14 } : Room) #[(.ref x), (.int c1)] h WL FL (Q_asbapc Z x t cap cs c1 h) := by
 refine Ct.of (plainFor_of_name pn1) ?_
 intro p e s m below meth c s1 hx w hml hnm hret hlk X0
 refine Wo.cast (f' := (mkF m 0 #[.val (.ref x), .val (.int c1)] [])) (by rfl) ?_
 have K0 : Keep h h [x, t] := Keep.refl _ _
 show Wo _ _ _ _ _ _ _ _ _ _ _ s1 (mkF m 0 #[.val (.ref x), .val (.int c1)] [])
 refine P.aloadN X0 hx 1 (hb w d38_0) rfl rfl rfl ?_
 refine P.aloadN X0 hx 2 (hb w d38_1) rfl rfl rfl ?_
 obtain ⟨k1, A1⟩ := P0.2.2.2.2.1
 refine X0.getF hx (host := "") (Or.inl (w126 cx)) Via.refl P0.2.2.2.1 (hb w d38_2) ?_
 intro T2 X2
 refine P.iconst X2 hx 6 1 (hb w d38_5) rfl rfl ?_
 refine P.iadd X2 hx 7 (z := (Int32.ofNat (cs.length + 1))) (hb w d38_6) (by rw [oA1]) rfl ?_
 refine X2.callV hx (w128 cx) (declM (w129 cx) (w132 cx)) (w131 cx) (w129 cx) (fun _ hZ => nf hZ (w131 cx)) (by decide) P0.1 (Ct.pay (W := 0) (ct_enscap cx x t k1 cap cs (Int32.ofNat (cs.length + 1)) h _ _ P0.2.1 P0.2.2.1 A1 (oNo hB1 (Nat.lt_of_le_of_lt P0.2.2.2.2.2.2.2.1 (by decide)))) (w132 cx) (w83 cx) (nle rfl) (nle rfl)) (by rw [hml]; rfl) (argsL := [.int (Int32.ofNat (cs.length + 1))]) (rest := []) (lenOf pd9 rfl) rfl rfl (nle rfl) (hb w d38_7) (nle rfl) (nle rfl) ?_
 rintro T3 h3 _ _ _ X3 ⟨rfl, rfl, rfl, J3⟩
 rw [J3] at X3
 refine P.aloadN X3 hx 11 (hb w d38_10) rfl rfl rfl ?_
 refine X3.callV hx (w168 cx) (w169 cx) (w171 cx) (w170 cx) (fun _ hZ => nf hZ (w171 cx)) (by decide) P0.1 (Ct.pay (W := 0) (ct_asblat cx x h _ _ P0.2.2.1) (w172 cx) (w83 cx) (nle rfl) (nle rfl)) (by rw [hml]; rfl) (argsL := []) (rest := []) (lenOf pd15 rfl) rfl rfl (nle rfl) (hb w d38_11) (nle rfl) (nle rfl) ?_
 rintro T4 h4 _ _ _ X4 ⟨rfl, rfl, rfl, J4⟩
 rw [J4] at X4
 refine P.ifNo X4 hx 17 (hb w d38_14) (by decide) rfl ?_
 refine P.iloadN X4 hx 18 (hb w d38_17) rfl rfl ?_
 refine X4.callS hx (w230 cx) (w231 cx) (w232 cx) (w233 cx) (by decide) (Ct.pay (W := 0) (ct_cencC cx c1 h _ _ hR) (w233 cx) (w232 cx) (nle rfl) (nle rfl)) (by rw [hml]; rfl) (argsL := [.int c1]) (rest := []) (lenOf pd18 rfl) rfl rfl (nle rfl) (hb w d38_18) (nle rfl) (nle rfl) ?_
 rintro T5 h5 _ _ _ X5 ⟨rfl, rfl, rfl, J5⟩
 rw [J5] at X5
 refine P.ifNo X5 hx 24 (hb w d38_21) (by decide) rfl ?_
 refine P.aloadN X5 hx 25 (hb w d38_24) rfl rfl rfl ?_
 refine X5.getF hx (host := "") (Or.inl (w87 cx)) Via.refl P0.2.1 (hb w d38_25) ?_
 intro T6 X6
 refine P.aloadN X6 hx 29 (hb w d38_28) rfl rfl rfl ?_
 refine P.dup X6 hx 30 (hb w d38_29) rfl rfl ?_
 refine X6.getF hx (host := "") (Or.inl (w126 cx)) Via.refl P0.2.2.2.1 (hb w d38_30) ?_
 intro T7 X7
 refine P.dupX1 X7 hx 34 (hb w d38_33) rfl rfl rfl ?_
 refine P.iconst X7 hx 35 1 (hb w d38_34) rfl rfl ?_
 refine P.iadd X7 hx 36 (z := (Int32.ofNat (cs.length + 1))) (hb w d38_35) (by rw [oA1]) rfl ?_
 refine X7.putF hx (host := "") (Or.inl (w126 cx)) Via.refl P0.2.2.2.1 P0.1 (Or.inl (w127 cx)) (w74 cx) (ty := .int) (by decide) rfl rfl P1 (hb w d38_36) ?_
 intro T8 h8 X8 W8 G8
 have K9 := K0.wr W8 (Or.inl (mg 0 rfl))
 refine P.iloadN X8 hx 40 (hb w d38_39) rfl rfl ?_
 refine P.i2b X8 hx 41 (z := (c1.toInt8.toInt32)) (hb w d38_40) rfl rfl ?_
 have F10 := A1.other W8 (Ne.symm hxt)
 refine X8.stL hx F10 (j := (Int32.ofNat cs.length)) (x := (c1.toInt8.toInt32)) (d := c1) rfl narB hB1 P0.2.2.2.2.2.2.2.1 P2 (hb w d38_41) ?_
 intro T11 h11 X11 J11 G11
 have K12 := K9.trans J11 (allS (Or.inl (mg 1 rfl)) all0)
 refine P.goto X11 hx 75 (hb w d38_42) (by decide) (by decide) ?_
 refine P.aloadN X11 hx 76 (hb w d38_75) rfl rfl rfl ?_
 have F13 := (P0.1.wr W8).keep J11
 have F14 := (P0.2.1.other W8 (Or.inr (slot_ne (Or.inl (w88 cx)) (Or.inl (w127 cx)) (by decide) (t := (.array .byte)) (t' := .int) (by decide) (by decide)))).keep J11 (ninS hxt nin0)
 have F15 := (P0.2.2.1.other W8 (Or.inr (slot_ne (Or.inl (w90 cx)) (Or.inl (w127 cx)) (by decide) (t := .byte) (t' := .int) (by decide) (by decide)))).keep J11 (ninS hxt nin0)
 have F16 := G8.keep J11 (ninS hxt nin0)
 have F17 := (P0.2.2.2.2.2.2.2.2.wr W8).keep J11
 have S18 : SB Z h11 x t cap (cs ++ [c1]) := ⟨F13, F14, F15, (by rw [List.length_append]; exact F16), ⟨_, G11⟩, fun c hc => (List.mem_append.mp hc).elim (P0.2.2.2.2.2.1 c) (fcS (P := fun c => ¬ c < 0 ∧ ¬ (255 : Int32) < c) hR fc0 c), by rw [List.length_append]; exact hB1, P0.2.2.2.2.2.2.2.1, F17⟩
 exact WS.retA X11 (WL' := []) (FL' := []) hx hret rfl rfl hlk (hb w d38_76) (nle rfl) (nle rfl) ⟨rfl, rfl, rfl, K12, S18⟩
def Q_asbapcA (Z : State) (x : Addr) (t : Addr) (cap : Nat) (cs : List Int32) (c1 : Int32) (h : Heap) (v : Option Value) (h' : Heap) (WL' FL' : List Addr) : Prop := ∃ b : Addr, v = some (.ref x) ∧ WL' = [b] ∧ FL' = [] ∧ Keep h h' [x] ∧ h.size ≤ b ∧ SB Z h' x b (2 * cap + 2) (cs ++ [c1])
theorem ct_asbapcA (cx : Cx a0 Z gC gF v_AL v_DO k_DO) (x : Addr) (t : Addr) (cap : Nat) (cs : List Int32) (c1 : Int32) (h : Heap) (WL FL : List Addr) (P0 : SB Z h x t cap cs) (P1 : x ∈ WL) (P2 : t ∈ WL) (hxt : x ≠ t) (hg : cap < (cs.length + 1)) (hk : (cs.length + 1) < 2 * cap + 2) (hc : (2 * cap + 2) ≤ 4000) (hG : (2 * cap + 2) ≤ 70) (hR : ¬ c1 < 0 ∧ ¬ (255 : Int32) < c1) :
   Ct l Z EL1 n0 (⟨"java/lang/AbstractStringBuilder", "append", "(C)Ljava/lang/AbstractStringBuilder;"⟩ : MethodName) jdk_68_method_31_code 2 (Option.some (FieldType.object "java/lang/AbstractStringBuilder")) ({ frames := 4, cells := 1, slots := 70, locals := 62 } : Room) #[(.ref x), (.int c1)] h WL FL (Q_asbapcA Z x t cap cs c1 h) := by
 refine Ct.of (plainFor_of_name pn1) ?_
 intro p e s m below meth c s1 hx w hml hnm hret hlk X0
 refine Wo.cast (f' := (mkF m 0 #[.val (.ref x), .val (.int c1)] [])) (by rfl) ?_
 have K0 : Keep h h [x] := Keep.refl _ _
 show Wo _ _ _ _ _ _ _ _ _ _ _ s1 (mkF m 0 #[.val (.ref x), .val (.int c1)] [])
 refine P.aloadN X0 hx 1 (hb w d38_0) rfl rfl rfl ?_
 refine P.aloadN X0 hx 2 (hb w d38_1) rfl rfl rfl ?_
 obtain ⟨k1, A1⟩ := P0.2.2.2.2.1
 refine X0.getF hx (host := "") (Or.inl (w126 cx)) Via.refl P0.2.2.2.1 (hb w d38_2) ?_
 intro T2 X2
 refine P.iconst X2 hx 6 1 (hb w d38_5) rfl rfl ?_
 refine P.iadd X2 hx 7 (z := (Int32.ofNat (cs.length + 1))) (hb w d38_6) (by rw [oA1]) rfl ?_
 refine X2.callV hx (w128 cx) (declM (w129 cx) (w132 cx)) (w131 cx) (w129 cx) (fun _ hZ => nf hZ (w131 cx)) (by decide) P0.1 (Ct.pay (W := 0) (ct_ensgA cx x t k1 cs (Int32.ofNat cs.length) cap (cs.length + 1) h _ _ P0.1 P0.2.1 P0.2.2.1 P0.2.2.2.1 A1 P1 P2 hxt P0.2.2.2.2.2.2.1 hg hk hc hG) (w132 cx) (w83 cx) (nle rfl) (nle rfl)) (by rw [hml]; rfl) (argsL := [.int (Int32.ofNat (cs.length + 1))]) (rest := []) (lenOf pd9 rfl) rfl rfl (nle rfl) (hb w d38_7) (nle rfl) (nle rfl) ?_
 rintro T3 h3 _ _ _ X3 ⟨a4, k5, rfl, rfl, rfl, J3, g11, G6, G7, G8, G9, G10⟩
 have ge12 := Nat.le_trans K0.1 g11
 have K13 := K0.trans J3 (allS (Or.inl (mg 0 rfl)) all0)
 refine P.aloadN X3 hx 11 (hb w d38_10) rfl rfl rfl ?_
 have F14 := P0.1.keep J3
 refine X3.callV hx (w168 cx) (w169 cx) (w171 cx) (w170 cx) (fun _ hZ => nf hZ (w171 cx)) (by decide) F14 (Ct.pay (W := 0) (ct_asblat cx x h3 _ _ G7) (w172 cx) (w83 cx) (nle rfl) (nle rfl)) (by rw [hml]; rfl) (argsL := []) (rest := []) (lenOf pd15 rfl) rfl rfl (nle rfl) (hb w d38_11) (nle rfl) (nle rfl) ?_
 rintro T15 h15 _ _ _ X15 ⟨rfl, rfl, rfl, J15⟩
 rw [J15] at X15
 refine P.ifNo X15 hx 17 (hb w d38_14) (by decide) rfl ?_
 refine P.iloadN X15 hx 18 (hb w d38_17) rfl rfl ?_
 refine X15.callS hx (w230 cx) (w231 cx) (w232 cx) (w233 cx) (by decide) (Ct.pay (W := 0) (ct_cencC cx c1 h3 _ _ hR) (w233 cx) (w232 cx) (nle rfl) (nle rfl)) (by rw [hml]; rfl) (argsL := [.int c1]) (rest := []) (lenOf pd18 rfl) rfl rfl (nle rfl) (hb w d38_18) (nle rfl) (nle rfl) ?_
 rintro T16 h16 _ _ _ X16 ⟨rfl, rfl, rfl, J16⟩
 rw [J16] at X16
 refine P.ifNo X16 hx 24 (hb w d38_21) (by decide) rfl ?_
 refine P.aloadN X16 hx 25 (hb w d38_24) rfl rfl rfl ?_
 refine X16.getF hx (host := "") (Or.inl (w87 cx)) Via.refl G6 (hb w d38_25) ?_
 intro T17 X17
 refine P.aloadN X17 hx 29 (hb w d38_28) rfl rfl rfl ?_
 refine P.dup X17 hx 30 (hb w d38_29) rfl rfl ?_
 refine X17.getF hx (host := "") (Or.inl (w126 cx)) Via.refl G8 (hb w d38_30) ?_
 intro T18 X18
 refine P.dupX1 X18 hx 34 (hb w d38_33) rfl rfl rfl ?_
 refine P.iconst X18 hx 35 1 (hb w d38_34) rfl rfl ?_
 refine P.iadd X18 hx 36 (z := (Int32.ofNat (cs.length + 1))) (hb w d38_35) (by rw [oA1]) rfl ?_
 refine X18.putF hx (host := "") (Or.inl (w126 cx)) Via.refl G8 F14 (Or.inl (w127 cx)) (w74 cx) (ty := .int) (by decide) rfl rfl (mc P1) (hb w d38_36) ?_
 intro T19 h19 X19 W19 G19
 have K20 := K13.wr W19 (Or.inl (mg 0 rfl))
 refine P.iloadN X19 hx 40 (hb w d38_39) rfl rfl ?_
 refine P.i2b X19 hx 41 (z := (c1.toInt8.toInt32)) (hb w d38_40) rfl rfl ?_
 have F21 := G9.other W19 (X19.neT (A := [a4]) (B := WL) (mg 0 rfl) P1)
 refine X19.stL hx F21 (j := (Int32.ofNat cs.length)) (x := (c1.toInt8.toInt32)) (d := c1) rfl narB (by omega) hc (mg 0 rfl) (hb w d38_41) ?_
 intro T22 h22 X22 J22 G22
 have K23 := K20.trans J22 (allS (Or.inr ge12) all0)
 refine P.goto X22 hx 75 (hb w d38_42) (by decide) (by decide) ?_
 refine P.aloadN X22 hx 76 (hb w d38_75) rfl rfl rfl ?_
 have F24 := (G6.other W19 (Or.inr (slot_ne (Or.inl (w88 cx)) (Or.inl (w127 cx)) (by decide) (t := (.array .byte)) (t' := .int) (by decide) (by decide)))).keep J22 (ninS (Ne.symm (X22.neT (A := [a4]) (B := WL) (mg 0 rfl) P1)) nin0)
 have F25 := (F14.wr W19).keep J22
 have F26 := (G7.other W19 (Or.inr (slot_ne (Or.inl (w90 cx)) (Or.inl (w127 cx)) (by decide) (t := .byte) (t' := .int) (by decide) (by decide)))).keep J22 (ninS (Ne.symm (X22.neT (A := [a4]) (B := WL) (mg 0 rfl) P1)) nin0)
 have F27 := G19.keep J22 (ninS (Ne.symm (X22.neT (A := [a4]) (B := WL) (mg 0 rfl) P1)) nin0)
 have F28 := (G10.wr W19).keep J22
 have S29 : SB Z h22 x a4 (2 * cap + 2) (cs ++ [c1]) := ⟨F25, F24, F26, (by rw [List.length_append]; exact F27), ⟨_, G22⟩, fun c hc => (List.mem_append.mp hc).elim (P0.2.2.2.2.2.1 c) (fcS (P := fun c => ¬ c < 0 ∧ ¬ (255 : Int32) < c) hR fc0 c), by rw [List.length_append]; show cs.length + 1 ≤ _; omega, hc, F28⟩
 exact WS.retA X22 (WL' := [a4]) (FL' := []) hx hret rfl rfl hlk (hb w d38_76) (nle rfl) (nle rfl) ⟨a4, rfl, rfl, rfl, K23, ge12, S29⟩
def Q_sbapc (Z : State) (x : Addr) (t : Addr) (cap : Nat) (cs : List Int32) (c1 : Int32) (h : Heap) (v : Option Value) (h' : Heap) (WL' FL' : List Addr) : Prop := v = some (.ref x) ∧ WL' = [] ∧ FL' = [] ∧ Keep h h' [x, t] ∧ SB Z h' x t cap (cs ++ [c1])
theorem ct_sbapc (cx : Cx a0 Z gC gF v_AL v_DO k_DO) (x : Addr) (t : Addr) (cap : Nat) (cs : List Int32) (c1 : Int32) (h : Heap) (WL FL : List Addr) (P0 : SB Z h x t cap cs) (P1 : x ∈ WL) (P2 : t ∈ WL) (hxt : x ≠ t) (hB1 : cs.length + 1 ≤ cap) (hR : ¬ c1 < 0 ∧ ¬ (255 : Int32) < c1) :
   Ct l Z EL1 n0 (⟨"java/lang/StringBuilder", "append", "(C)Ljava/lang/StringBuilder;"⟩ : MethodName) jdk_67_method_14_code 2 (Option.some (FieldType.object "java/lang/StringBuilder")) ({ frames := 2, cells := 0, slots := 0, locals := 27 } : Room) #[(.ref x), (.int c1)] h WL FL (Q_sbapc Z x t cap cs c1 h) := by
 refine Ct.of (plainFor_of_name pn4) ?_
 intro p e s m below meth c s1 hx w hml hnm hret hlk X0
 refine Wo.cast (f' := (mkF m 0 #[.val (.ref x), .val (.int c1)] [])) (by rfl) ?_
 have K0 : Keep h h [x, t] := Keep.refl _ _
 show Wo _ _ _ _ _ _ _ _ _ _ _ s1 (mkF m 0 #[.val (.ref x), .val (.int c1)] [])
 refine P.aloadN X0 hx 1 (hb w d37_0) rfl rfl rfl ?_
 refine P.iloadN X0 hx 2 (hb w d37_1) rfl rfl ?_
 refine X0.callU hx (w226 cx) (w227 cx) (w112 cx) (w229 cx) (w131 cx) rfl (by decide) (by decide) (Ins.self P0.1) (Ct.pay (W := 0) (ct_asbapc cx x t cap cs c1 h _ _ P0 P1 P2 hxt hB1 hR) (w229 cx) (w83 cx) (nle rfl) (nle rfl)) (by rw [hml]; rfl) (argsL := [.int c1]) (rest := []) (lenOf pd21 rfl) rfl rfl (nle rfl) (hb w d37_2) (nle rfl) (nle rfl) ?_
 rintro T1 h1 _ _ _ X1 ⟨rfl, rfl, rfl, J1, G2⟩
 have K3 := K0.trans J1 (allS (Or.inl (mg 0 rfl)) (allS (Or.inl (mg 1 rfl)) all0))
 refine P.pop X1 hx 6 (hb w d37_5) rfl rfl ?_
 refine P.aloadN X1 hx 7 (hb w d37_6) rfl rfl rfl ?_
 exact WS.retA X1 (WL' := []) (FL' := []) hx hret rfl rfl hlk (hb w d37_7) (nle rfl) (nle rfl) ⟨rfl, rfl, rfl, K3, G2⟩
def Q_sbapcA (Z : State) (x : Addr) (t : Addr) (cap : Nat) (cs : List Int32) (c1 : Int32) (h : Heap) (v : Option Value) (h' : Heap) (WL' FL' : List Addr) : Prop := ∃ b : Addr, v = some (.ref x) ∧ WL' = [b] ∧ FL' = [] ∧ Keep h h' [x] ∧ h.size ≤ b ∧ SB Z h' x b (2 * cap + 2) (cs ++ [c1])
theorem ct_sbapcA (cx : Cx a0 Z gC gF v_AL v_DO k_DO) (x : Addr) (t : Addr) (cap : Nat) (cs : List Int32) (c1 : Int32) (h : Heap) (WL FL : List Addr) (P0 : SB Z h x t cap cs) (P1 : x ∈ WL) (P2 : t ∈ WL) (hxt : x ≠ t) (hg : cap < (cs.length + 1)) (hk : (cs.length + 1) < 2 * cap + 2) (hc : (2 * cap + 2) ≤ 4000) (hG : (2 * cap + 2) ≤ 70) (hR : ¬ c1 < 0 ∧ ¬ (255 : Int32) < c1) :
   Ct l Z EL1 n0 (⟨"java/lang/StringBuilder", "append", "(C)Ljava/lang/StringBuilder;"⟩ : MethodName) jdk_67_method_14_code 2 (Option.some (FieldType.object "java/lang/StringBuilder")) ({ frames := 5, cells := 1, slots := 70, locals := 75 } : Room) #[(.ref x), (.int c1)] h WL FL (Q_sbapcA Z x t cap cs c1 h) := by
 refine Ct.of (plainFor_of_name pn4) ?_
 intro p e s m below meth c s1 hx w hml hnm hret hlk X0
 refine Wo.cast (f' := (mkF m 0 #[.val (.ref x), .val (.int c1)] [])) (by rfl) ?_
 have K0 : Keep h h [x] := Keep.refl _ _
 show Wo _ _ _ _ _ _ _ _ _ _ _ s1 (mkF m 0 #[.val (.ref x), .val (.int c1)] [])
 refine P.aloadN X0 hx 1 (hb w d37_0) rfl rfl rfl ?_
 refine P.iloadN X0 hx 2 (hb w d37_1) rfl rfl ?_
 refine X0.callU hx (w226 cx) (w227 cx) (w112 cx) (w229 cx) (w131 cx) rfl (by decide) (by decide) (Ins.self P0.1) (Ct.pay (W := 0) (ct_asbapcA cx x t cap cs c1 h _ _ P0 P1 P2 hxt hg hk hc hG hR) (w229 cx) (w83 cx) (nle rfl) (nle rfl)) (by rw [hml]; rfl) (argsL := [.int c1]) (rest := []) (lenOf pd21 rfl) rfl rfl (nle rfl) (hb w d37_2) (nle rfl) (nle rfl) ?_
 rintro T1 h1 _ _ _ X1 ⟨a2, rfl, rfl, rfl, J1, g4, G3⟩
 have ge5 := Nat.le_trans K0.1 g4
 have K6 := K0.trans J1 (allS (Or.inl (mg 0 rfl)) all0)
 refine P.pop X1 hx 6 (hb w d37_5) rfl rfl ?_
 refine P.aloadN X1 hx 7 (hb w d37_6) rfl rfl rfl ?_
 exact WS.retA X1 (WL' := [a2]) (FL' := []) hx hret rfl rfl hlk (hb w d37_7) (nle rfl) (nle rfl) ⟨a2, rfl, rfl, rfl, K6, ge5, G3⟩
def Q_getc0 (Z : State) (t : Addr) (kt : ClassId) (cap : Nat) (cs : List Int32) (h : Heap) (v : Option Value) (h' : Heap) (WL' FL' : List Addr) : Prop := v = some (.int (Int32.ofNat cs.length)) ∧ WL' = [] ∧ FL' = [] ∧ Keep h h' [t] ∧ Arv Z h' t kt .byte (Int32.ofNat cap) (lat (cs ++ [(48 : Int32)])) (.int 0)
theorem ct_getc0 (cx : Cx a0 Z gC gF v_AL v_DO k_DO) (t : Addr) (kt : ClassId) (cap : Nat) (cs : List Int32) (h : Heap) (WL FL : List Addr) (P0 : Arv Z h t kt .byte (Int32.ofNat cap) (lat cs) (.int 0)) (P1 : t ∈ WL) (hB1 : cs.length + 1 ≤ cap) (hc : cap ≤ 4000) :
   Ct l Z EL1 n0 (⟨"java/lang/Integer", "getChars", "(II[B)I"⟩ : MethodName) jdk_33_method_12_code 7 (Option.some FieldType.int) ({ frames := 0, cells := 0, slots := 0, locals := 0 } : Room) #[(.int 0), (.int (Int32.ofNat (cs.length + 1))), (.ref t)] h WL FL (Q_getc0 Z t kt cap cs h) := by
 refine Ct.of (plainFor_of_name pn6) ?_
 intro p e s m below meth c s1 hx w hml hnm hret hlk X0
 refine Wo.cast (f' := (mkF m 0 #[.val (.int 0), .val (.int (Int32.ofNat (cs.length + 1))), .val (.ref t), .unset, .unset, .unset, .unset] [])) (by rfl) ?_
 have K0 : Keep h h [t] := Keep.refl _ _
 show Wo _ _ _ _ _ _ _ _ _ _ _ s1 (mkF m 0 #[.val (.int 0), .val (.int (Int32.ofNat (cs.length + 1))), .val (.ref t), .unset, .unset, .unset, .unset] [])
 refine P.iloadN X0 hx 1 (hb w d26_0) rfl rfl ?_
 refine P.istore X0 hx 3 #[.val (.int 0), .val (.int (Int32.ofNat (cs.length + 1))), .val (.ref t), .unset, .unset, .val (.int (Int32.ofNat (cs.length + 1))), .unset] (hb w d26_1) rfl rfl ?_
 refine P.iloadN X0 hx 4 (hb w d26_3) rfl rfl ?_
 refine P.ifYes X0 hx 11 (hb w d26_4) (by decide) (by decide) (by decide) ?_
 refine P.iconst X0 hx 12 0 (hb w d26_11) rfl rfl ?_
 refine P.istore X0 hx 14 #[.val (.int 0), .val (.int (Int32.ofNat (cs.length + 1))), .val (.ref t), .unset, .unset, .val (.int (Int32.ofNat (cs.length + 1))), .val (.int 0)] (hb w d26_12) rfl rfl ?_
 refine P.iload X0 hx 16 (hb w d26_14) rfl rfl ?_
 refine P.ifNo X0 hx 19 (hb w d26_16) (by decide) rfl ?_
 refine P.iloadN X0 hx 20 (hb w d26_19) rfl rfl ?_
 refine P.ineg X0 hx 21 (z := (0 : Int32)) (hb w d26_20) rfl rfl ?_
 refine P.istoreN X0 hx 22 #[.val (.int 0), .val (.int (Int32.ofNat (cs.length + 1))), .val (.ref t), .unset, .unset, .val (.int (Int32.ofNat (cs.length + 1))), .val (.int 0)] (hb w d26_21) rfl rfl ?_
 refine P.iloadN X0 hx 23 (hb w d26_22) rfl rfl ?_
 refine P.bipush X0 hx 25 (-100) (hb w d26_23) rfl rfl ?_
 refine P.icmpYes X0 hx 72 (hb w d26_25) (by decide) (by decide) (by decide) ?_
 refine P.aloadN X0 hx 73 (hb w d26_72) rfl rfl rfl ?_
 refine P.iinc X0 hx 76 #[.val (.int 0), .val (.int (Int32.ofNat (cs.length + 1))), .val (.ref t), .unset, .unset, .val (.int ((Int32.ofNat (cs.length + 1)) + (-1 : Int32))), .val (.int 0)] (hb w d26_73) rfl rfl rfl ?_
 refine P.iload X0 hx 78 (hb w d26_76) rfl rfl ?_
 refine X0.getS hx (w176 cx) Via.refl (S_DO cx) (hb w d26_78) ?_
 intro T1 X1
 refine P.iloadN X1 hx 82 (hb w d26_81) rfl rfl ?_
 refine P.ineg X1 hx 83 (z := (0 : Int32)) (hb w d26_82) rfl rfl ?_
 refine WS.bld X1 hx ((A_DO cx).ext X1.old.2) (j := (0 : Int32)) (x := (48 : Int32)) (by decide) rfl (hb w d26_83) ?_
 refine X1.stL hx P0 (j := ((Int32.ofNat (cs.length + 1)) + (-1 : Int32))) (x := (48 : Int32)) (d := (48 : Int32)) (oM1 _) rfl hB1 hc P1 (hb w d26_84) ?_
 intro T2 h2 X2 J2 G2
 have K3 := K0.trans J2 (allS (Or.inl (mg 0 rfl)) all0)
 refine P.iloadN X2 hx 86 (hb w d26_85) rfl rfl ?_
 refine P.bipush X2 hx 88 (-9) (hb w d26_86) rfl rfl ?_
 refine P.icmpYes X2 hx 104 (hb w d26_88) (by decide) (by decide) (by decide) ?_
 refine P.iload X2 hx 106 (hb w d26_104) rfl rfl ?_
 refine P.ifYes X2 hx 118 (hb w d26_106) (by decide) (by decide) (by decide) ?_
 refine P.iload X2 hx 120 (hb w d26_118) rfl rfl ?_
 exact WS.retI X2 (WL' := []) (FL' := []) hx hret hlk (hb w d26_120) (nle rfl) (nle rfl) ⟨(by rw [oM1]), rfl, rfl, K3, G2⟩
def Q_ssize_0 (Z : State) (h : Heap) (v : Option Value) (h' : Heap) (WL' FL' : List Addr) : Prop := v = some (.int 1) ∧ WL' = [] ∧ FL' = [] ∧ h' = h
theorem ct_ssize_0 (cx : Cx a0 Z gC gF v_AL v_DO k_DO) (h : Heap) (WL FL : List Addr)  :
   Ct l Z EL1 n0 (⟨"java/lang/Integer", "stringSize", "(I)I"⟩ : MethodName) jdk_33_method_13_code 4 (Option.some FieldType.int) ({ frames := 0, cells := 0, slots := 0, locals := 0 } : Room) #[(.int 0)] h WL FL (Q_ssize_0 Z h) := by
 refine Ct.of (plainFor_of_name pn6) ?_
 intro p e s m below meth c s1 hx w hml hnm hret hlk X0
 refine Wo.cast (f' := (mkF m 0 #[.val (.int 0), .unset, .unset, .unset] [])) (by rfl) ?_
 show Wo _ _ _ _ _ _ _ _ _ _ _ s1 (mkF m 0 #[.val (.int 0), .unset, .unset, .unset] [])
 refine P.iconst X0 hx 1 1 (hb w d24_0) rfl rfl ?_
 refine P.istoreN X0 hx 2 #[.val (.int 0), .val (.int 1), .unset, .unset] (hb w d24_1) rfl rfl ?_
 refine P.iloadN X0 hx 3 (hb w d24_2) rfl rfl ?_
 refine P.ifNo X0 hx 6 (hb w d24_3) (by decide) rfl ?_
 refine P.iconst X0 hx 7 0 (hb w d24_6) rfl rfl ?_
 refine P.istoreN X0 hx 8 #[.val (.int 0), .val (.int 0), .unset, .unset] (hb w d24_7) rfl rfl ?_
 refine P.iloadN X0 hx 9 (hb w d24_8) rfl rfl ?_
 refine P.ineg X0 hx 10 (z := (0 : Int32)) (hb w d24_9) rfl rfl ?_
 refine P.istoreN X0 hx 11 #[.val (.int 0), .val (.int 0), .unset, .unset] (hb w d24_10) rfl rfl ?_
 refine P.bipush X0 hx 13 (-10) (hb w d24_11) rfl rfl ?_
 refine P.istoreN X0 hx 14 #[.val (.int 0), .val (.int 0), .val (.int (-10 : Int32)), .unset] (hb w d24_13) rfl rfl ?_
 refine P.iconst X0 hx 15 1 (hb w d24_14) rfl rfl ?_
 refine P.istoreN X0 hx 16 #[.val (.int 0), .val (.int 0), .val (.int (-10 : Int32)), .val (.int 1)] (hb w d24_15) rfl rfl ?_
 refine P.iloadN X0 hx 17 (hb w d24_16) rfl rfl ?_
 refine P.bipush X0 hx 19 10 (hb w d24_17) rfl rfl ?_
 refine P.icmpNo X0 hx 22 (hb w d24_19) (by decide) rfl ?_
 refine P.iloadN X0 hx 23 (hb w d24_22) rfl rfl ?_
 refine P.iloadN X0 hx 24 (hb w d24_23) rfl rfl ?_
 refine P.icmpNo X0 hx 27 (hb w d24_24) (by decide) rfl ?_
 refine P.iloadN X0 hx 28 (hb w d24_27) rfl rfl ?_
 refine P.iloadN X0 hx 29 (hb w d24_28) rfl rfl ?_
 refine P.iadd X0 hx 30 (z := (1 : Int32)) (hb w d24_29) rfl rfl ?_
 exact WS.retI X0 (WL' := []) (FL' := []) hx hret hlk (hb w d24_30) (nle rfl) (nle rfl) ⟨rfl, rfl, rfl, rfl⟩
def Q_asbapi0 (Z : State) (x : Addr) (t : Addr) (cap : Nat) (cs : List Int32) (h : Heap) (v : Option Value) (h' : Heap) (WL' FL' : List Addr) : Prop := v = some (.ref x) ∧ WL' = [] ∧ FL' = [] ∧ Keep h h' [x, t] ∧ SB Z h' x t cap (cs ++ [(48 : Int32)])
theorem ct_asbapi0 (cx : Cx a0 Z gC gF v_AL v_DO k_DO) (x : Addr) (t : Addr) (cap : Nat) (cs : List Int32) (h : Heap) (WL FL : List Addr) (P0 : SB Z h x t cap cs) (P1 : x ∈ WL) (P2 : t ∈ WL) (hxt : x ≠ t) (hB1 : cs.length + 1 ≤ cap) :
   Ct l Z EL1 n0 (⟨"java/lang/AbstractStringBuilder", "append", "(I)Ljava/lang/AbstractStringBuilder;"⟩ : MethodName) jdk_68_method_32_code 4 (Option.some (FieldType.object "java/lang/AbstractStringBuilder")) ({ frames := 1, cells := 0, slots := 0, locals := 18 } : Room) #[(.ref x), (.int 0)] h WL FL (Q_asbapi0 Z x t cap cs h) := by
 refine Ct.of (plainFor_of_name pn1) ?_
 intro p e s m below meth c s1 hx w hml hnm hret hlk X0
 refine Wo.cast (f' := (mkF m 0 #[.val (.ref x), .val (.int 0), .unset, .unset] [])) (by rfl) ?_
 have K0 : Keep h h [x, t] := Keep.refl _ _
 show Wo _ _ _ _ _ _ _ _ _ _ _ s1 (mkF m 0 #[.val (.ref x), .val (.int 0), .unset, .unset] [])
 refine P.aloadN X0 hx 1 (hb w d23_0) rfl rfl rfl ?_
 obtain ⟨k1, A1⟩ := P0.2.2.2.2.1
 refine X0.getF hx (host := "") (Or.inl (w126 cx)) Via.refl P0.2.2.2.1 (hb w d23_1) ?_
 intro T2 X2
 refine P.istoreN X2 hx 5 #[.val (.ref x), .val (.int 0), .val (.int (Int32.ofNat cs.length)), .unset] (hb w d23_4) rfl rfl ?_
 refine P.iloadN X2 hx 6 (hb w d23_5) rfl rfl ?_
 refine P.iloadN X2 hx 7 (hb w d23_6) rfl rfl ?_
 refine X2.callS hx (w164 cx) (w165 cx) (w166 cx) (w167 cx) (by decide) (Ct.pay (W := 1) (ct_ssize_0 cx  h _ _ ) (w167 cx) (w166 cx) (nle rfl) (nle rfl)) (by rw [hml]; rfl) (argsL := [.int 0]) (rest := [.int (Int32.ofNat cs.length)]) (lenOf pd6 rfl) rfl rfl (nle rfl) (hb w d23_7) (nle rfl) (nle rfl) ?_
 rintro T3 h3 _ _ _ X3 ⟨rfl, rfl, rfl, J3⟩
 rw [J3] at X3
 refine P.iadd X3 hx 11 (z := (Int32.ofNat (cs.length + 1))) (hb w d23_10) (by rw [oA1]) rfl ?_
 refine P.istoreN X3 hx 12 #[.val (.ref x), .val (.int 0), .val (.int (Int32.ofNat cs.length)), .val (.int (Int32.ofNat (cs.length + 1)))] (hb w d23_11) rfl rfl ?_
 refine P.aloadN X3 hx 13 (hb w d23_12) rfl rfl rfl ?_
 refine P.iloadN X3 hx 14 (hb w d23_13) rfl rfl ?_
 refine X3.callV hx (w128 cx) (declM (w129 cx) (w132 cx)) (w131 cx) (w129 cx) (fun _ hZ => nf hZ (w131 cx)) (by decide) P0.1 (Ct.pay (W := 0) (ct_enscap cx x t k1 cap cs (Int32.ofNat (cs.length + 1)) h _ _ P0.2.1 P0.2.2.1 A1 (oNo hB1 (Nat.lt_of_le_of_lt P0.2.2.2.2.2.2.2.1 (by decide)))) (w132 cx) (w83 cx) (nle rfl) (nle rfl)) (by rw [hml]; rfl) (argsL := [.int (Int32.ofNat (cs.length + 1))]) (rest := []) (lenOf pd9 rfl) rfl rfl (nle rfl) (hb w d23_14) (nle rfl) (nle rfl) ?_
 rintro T4 h4 _ _ _ X4 ⟨rfl, rfl, rfl, J4⟩
 rw [J4] at X4
 refine P.aloadN X4 hx 18 (hb w d23_17) rfl rfl rfl ?_
 refine X4.callV hx (w168 cx) (w169 cx) (w171 cx) (w170 cx) (fun _ hZ => nf hZ (w171 cx)) (by decide) P0.1 (Ct.pay (W := 0) (ct_asblat cx x h _ _ P0.2.2.1) (w172 cx) (w83 cx) (nle rfl) (nle rfl)) (by rw [hml]; rfl) (argsL := []) (rest := []) (lenOf pd15 rfl) rfl rfl (nle rfl) (hb w d23_18) (nle rfl) (nle rfl) ?_
 rintro T5 h5 _ _ _ X5 ⟨rfl, rfl, rfl, J5⟩
 rw [J5] at X5
 refine P.ifNo X5 hx 24 (hb w d23_21) (by decide) rfl ?_
 refine P.iloadN X5 hx 25 (hb w d23_24) rfl rfl ?_
 refine P.iloadN X5 hx 26 (hb w d23_25) rfl rfl ?_
 refine P.aloadN X5 hx 27 (hb w d23_26) rfl rfl rfl ?_
 refine X5.getF hx (host := "") (Or.inl (w87 cx)) Via.refl P0.2.1 (hb w d23_27) ?_
 intro T6 X6
 refine X6.callS hx (w173 cx) (w174 cx) (w166 cx) (w175 cx) (by decide) (Ct.pay (W := 0) (ct_getc0 cx t k1 cap cs h _ _ A1 P2 hB1 P0.2.2.2.2.2.2.2.1) (w175 cx) (w166 cx) (nle rfl) (nle rfl)) (by rw [hml]; rfl) (argsL := [.int 0, .int (Int32.ofNat (cs.length + 1)), .ref t]) (rest := []) (lenOf pd22 rfl) rfl rfl (nle rfl) (hb w d23_30) (nle rfl) (nle rfl) ?_
 rintro T7 h7 _ _ _ X7 ⟨rfl, rfl, rfl, J7, G8⟩
 have K9 := K0.trans J7 (allS (Or.inl (mg 1 rfl)) all0)
 refine P.pop X7 hx 34 (hb w d23_33) rfl rfl ?_
 refine P.goto X7 hx 48 (hb w d23_34) (by decide) (by decide) ?_
 refine P.aloadN X7 hx 49 (hb w d23_48) rfl rfl rfl ?_
 refine P.iloadN X7 hx 50 (hb w d23_49) rfl rfl ?_
 have F10 := P0.2.2.2.1.keep J7 (ninS hxt nin0)
 have F11 := P0.1.keep J7
 refine X7.putF hx (host := "") (Or.inl (w126 cx)) Via.refl F10 F11 (Or.inl (w127 cx)) (w74 cx) (ty := .int) (by decide) rfl rfl P1 (hb w d23_50) ?_
 intro T12 h12 X12 W12 G12
 have K13 := K9.wr W12 (Or.inl (mg 0 rfl))
 refine P.aloadN X12 hx 54 (hb w d23_53) rfl rfl rfl ?_
 have F14 := F11.wr W12
 have F15 := (P0.2.1.keep J7 (ninS hxt nin0)).other W12 (Or.inr (slot_ne (Or.inl (w88 cx)) (Or.inl (w127 cx)) (by decide) (t := (.array .byte)) (t' := .int) (by decide) (by decide)))
 have F16 := (P0.2.2.1.keep J7 (ninS hxt nin0)).other W12 (Or.inr (slot_ne (Or.inl (w90 cx)) (Or.inl (w127 cx)) (by decide) (t := .byte) (t' := .int) (by decide) (by decide)))
 have F17 := G8.other W12 (Ne.symm hxt)
 have F18 := (P0.2.2.2.2.2.2.2.2.keep J7).wr W12
 have S19 : SB Z h12 x t cap (cs ++ [(48 : Int32)]) := ⟨F14, F15, F16, (by rw [List.length_append]; exact G12), ⟨_, F17⟩, fun c hc => (List.mem_append.mp hc).elim (P0.2.2.2.2.2.1 c) (fcS (P := fun c => ¬ c < 0 ∧ ¬ (255 : Int32) < c) (by decide) fc0 c), by rw [List.length_append]; exact hB1, P0.2.2.2.2.2.2.2.1, F18⟩
 exact WS.retA X12 (WL' := []) (FL' := []) hx hret rfl rfl hlk (hb w d23_54) (nle rfl) (nle rfl) ⟨rfl, rfl, rfl, K13, S19⟩
def Q_sbapi0 (Z : State) (x : Addr) (t : Addr) (cap : Nat) (cs : List Int32) (h : Heap) (v : Option Value) (h' : Heap) (WL' FL' : List Addr) : Prop := v = some (.ref x) ∧ WL' = [] ∧ FL' = [] ∧ Keep h h' [x, t] ∧ SB Z h' x t cap (cs ++ [(48 : Int32)])
theorem ct_sbapi0 (cx : Cx a0 Z gC gF v_AL v_DO k_DO) (x : Addr) (t : Addr) (cap : Nat) (cs : List Int32) (h : Heap) (WL FL : List Addr) (P0 : SB Z h x t cap cs) (P1 : x ∈ WL) (P2 : t ∈ WL) (hxt : x ≠ t) (hB1 : cs.length + 1 ≤ cap) :
   Ct l Z EL1 n0 (⟨"java/lang/StringBuilder", "append", "(I)Ljava/lang/StringBuilder;"⟩ : MethodName) jdk_67_method_15_code 2 (Option.some (FieldType.object "java/lang/StringBuilder")) ({ frames := 2, cells := 0, slots := 0, locals := 33 } : Room) #[(.ref x), (.int 0)] h WL FL (Q_sbapi0 Z x t cap cs h) := by
 refine Ct.of (plainFor_of_name pn4) ?_
 intro p e s m below meth c s1 hx w hml hnm hret hlk X0
 refine Wo.cast (f' := (mkF m 0 #[.val (.ref x), .val (.int 0)] [])) (by rfl) ?_
 have K0 : Keep h h [x, t] := Keep.refl _ _
 show Wo _ _ _ _ _ _ _ _ _ _ _ s1 (mkF m 0 #[.val (.ref x), .val (.int 0)] [])
 refine P.aloadN X0 hx 1 (hb w d22_0) rfl rfl rfl ?_
 refine P.iloadN X0 hx 2 (hb w d22_1) rfl rfl ?_
 refine X0.callU hx (w160 cx) (w161 cx) (w112 cx) (w163 cx) (w131 cx) rfl (by decide) (by decide) (Ins.self P0.1) (Ct.pay (W := 0) (ct_asbapi0 cx x t cap cs h _ _ P0 P1 P2 hxt hB1) (w163 cx) (w83 cx) (nle rfl) (nle rfl)) (by rw [hml]; rfl) (argsL := [.int 0]) (rest := []) (lenOf pd23 rfl) rfl rfl (nle rfl) (hb w d22_2) (nle rfl) (nle rfl) ?_
 rintro T1 h1 _ _ _ X1 ⟨rfl, rfl, rfl, J1, G2⟩
 have K3 := K0.trans J1 (allS (Or.inl (mg 0 rfl)) (allS (Or.inl (mg 1 rfl)) all0))
 refine P.pop X1 hx 6 (hb w d22_5) rfl rfl ?_
 refine P.aloadN X1 hx 7 (hb w d22_6) rfl rfl rfl ?_
 exact WS.retA X1 (WL' := []) (FL' := []) hx hret rfl rfl hlk (hb w d22_7) (nle rfl) (nle rfl) ⟨rfl, rfl, rfl, K3, G2⟩
def Q_getc1 (Z : State) (t : Addr) (kt : ClassId) (cap : Nat) (cs : List Int32) (h : Heap) (v : Option Value) (h' : Heap) (WL' FL' : List Addr) : Prop := v = some (.int (Int32.ofNat cs.length)) ∧ WL' = [] ∧ FL' = [] ∧ Keep h h' [t] ∧ Arv Z h' t kt .byte (Int32.ofNat cap) (lat (cs ++ [(49 : Int32)])) (.int 0)
theorem ct_getc1 (cx : Cx a0 Z gC gF v_AL v_DO k_DO) (t : Addr) (kt : ClassId) (cap : Nat) (cs : List Int32) (h : Heap) (WL FL : List Addr) (P0 : Arv Z h t kt .byte (Int32.ofNat cap) (lat cs) (.int 0)) (P1 : t ∈ WL) (hB1 : cs.length + 1 ≤ cap) (hc : cap ≤ 4000) :
   Ct l Z EL1 n0 (⟨"java/lang/Integer", "getChars", "(II[B)I"⟩ : MethodName) jdk_33_method_12_code 7 (Option.some FieldType.int) ({ frames := 0, cells := 0, slots := 0, locals := 0 } : Room) #[(.int 1), (.int (Int32.ofNat (cs.length + 1))), (.ref t)] h WL FL (Q_getc1 Z t kt cap cs h) := by
 refine Ct.of (plainFor_of_name pn6) ?_
 intro p e s m below meth c s1 hx w hml hnm hret hlk X0
 refine Wo.cast (f' := (mkF m 0 #[.val (.int 1), .val (.int (Int32.ofNat (cs.length + 1))), .val (.ref t), .unset, .unset, .unset, .unset] [])) (by rfl) ?_
 have K0 : Keep h h [t] := Keep.refl _ _
 show Wo _ _ _ _ _ _ _ _ _ _ _ s1 (mkF m 0 #[.val (.int 1), .val (.int (Int32.ofNat (cs.length + 1))), .val (.ref t), .unset, .unset, .unset, .unset] [])
 refine P.iloadN X0 hx 1 (hb w d26_0) rfl rfl ?_
 refine P.istore X0 hx 3 #[.val (.int 1), .val (.int (Int32.ofNat (cs.length + 1))), .val (.ref t), .unset, .unset, .val (.int (Int32.ofNat (cs.length + 1))), .unset] (hb w d26_1) rfl rfl ?_
 refine P.iloadN X0 hx 4 (hb w d26_3) rfl rfl ?_
 refine P.ifYes X0 hx 11 (hb w d26_4) (by decide) (by decide) (by decide) ?_
 refine P.iconst X0 hx 12 0 (hb w d26_11) rfl rfl ?_
 refine P.istore X0 hx 14 #[.val (.int 1), .val (.int (Int32.ofNat (cs.length + 1))), .val (.ref t), .unset, .unset, .val (.int (Int32.ofNat (cs.length + 1))), .val (.int 0)] (hb w d26_12) rfl rfl ?_
 refine P.iload X0 hx 16 (hb w d26_14) rfl rfl ?_
 refine P.ifNo X0 hx 19 (hb w d26_16) (by decide) rfl ?_
 refine P.iloadN X0 hx 20 (hb w d26_19) rfl rfl ?_
 refine P.ineg X0 hx 21 (z := (-1 : Int32)) (hb w d26_20) rfl rfl ?_
 refine P.istoreN X0 hx 22 #[.val (.int (-1 : Int32)), .val (.int (Int32.ofNat (cs.length + 1))), .val (.ref t), .unset, .unset, .val (.int (Int32.ofNat (cs.length + 1))), .val (.int 0)] (hb w d26_21) rfl rfl ?_
 refine P.iloadN X0 hx 23 (hb w d26_22) rfl rfl ?_
 refine P.bipush X0 hx 25 (-100) (hb w d26_23) rfl rfl ?_
 refine P.icmpYes X0 hx 72 (hb w d26_25) (by decide) (by decide) (by decide) ?_
 refine P.aloadN X0 hx 73 (hb w d26_72) rfl rfl rfl ?_
 refine P.iinc X0 hx 76 #[.val (.int (-1 : Int32)), .val (.int (Int32.ofNat (cs.length + 1))), .val (.ref t), .unset, .unset, .val (.int ((Int32.ofNat (cs.length + 1)) + (-1 : Int32))), .val (.int 0)] (hb w d26_73) rfl rfl rfl ?_
 refine P.iload X0 hx 78 (hb w d26_76) rfl rfl ?_
 refine X0.getS hx (w176 cx) Via.refl (S_DO cx) (hb w d26_78) ?_
 intro T1 X1
 refine P.iloadN X1 hx 82 (hb w d26_81) rfl rfl ?_
 refine P.ineg X1 hx 83 (z := (1 : Int32)) (hb w d26_82) rfl rfl ?_
 refine WS.bld X1 hx ((A_DO cx).ext X1.old.2) (j := (1 : Int32)) (x := (49 : Int32)) (by decide) rfl (hb w d26_83) ?_
 refine X1.stL hx P0 (j := ((Int32.ofNat (cs.length + 1)) + (-1 : Int32))) (x := (49 : Int32)) (d := (49 : Int32)) (oM1 _) rfl hB1 hc P1 (hb w d26_84) ?_
 intro T2 h2 X2 J2 G2
 have K3 := K0.trans J2 (allS (Or.inl (mg 0 rfl)) all0)
 refine P.iloadN X2 hx 86 (hb w d26_85) rfl rfl ?_
 refine P.bipush X2 hx 88 (-9) (hb w d26_86) rfl rfl ?_
 refine P.icmpYes X2 hx 104 (hb w d26_88) (by decide) (by decide) (by decide) ?_
 refine P.iload X2 hx 106 (hb w d26_104) rfl rfl ?_
 refine P.ifYes X2 hx 118 (hb w d26_106) (by decide) (by decide) (by decide) ?_
 refine P.iload X2 hx 120 (hb w d26_118) rfl rfl ?_
 exact WS.retI X2 (WL' := []) (FL' := []) hx hret hlk (hb w d26_120) (nle rfl) (nle rfl) ⟨(by rw [oM1]), rfl, rfl, K3, G2⟩
def Q_ssize_1 (Z : State) (h : Heap) (v : Option Value) (h' : Heap) (WL' FL' : List Addr) : Prop := v = some (.int 1) ∧ WL' = [] ∧ FL' = [] ∧ h' = h
theorem ct_ssize_1 (cx : Cx a0 Z gC gF v_AL v_DO k_DO) (h : Heap) (WL FL : List Addr)  :
   Ct l Z EL1 n0 (⟨"java/lang/Integer", "stringSize", "(I)I"⟩ : MethodName) jdk_33_method_13_code 4 (Option.some FieldType.int) ({ frames := 0, cells := 0, slots := 0, locals := 0 } : Room) #[(.int 1)] h WL FL (Q_ssize_1 Z h) := by
 refine Ct.of (plainFor_of_name pn6) ?_
 intro p e s m below meth c s1 hx w hml hnm hret hlk X0
 refine Wo.cast (f' := (mkF m 0 #[.val (.int 1), .unset, .unset, .unset] [])) (by rfl) ?_
 show Wo _ _ _ _ _ _ _ _ _ _ _ s1 (mkF m 0 #[.val (.int 1), .unset, .unset, .unset] [])
 refine P.iconst X0 hx 1 1 (hb w d24_0) rfl rfl ?_
 refine P.istoreN X0 hx 2 #[.val (.int 1), .val (.int 1), .unset, .unset] (hb w d24_1) rfl rfl ?_
 refine P.iloadN X0 hx 3 (hb w d24_2) rfl rfl ?_
 refine P.ifNo X0 hx 6 (hb w d24_3) (by decide) rfl ?_
 refine P.iconst X0 hx 7 0 (hb w d24_6) rfl rfl ?_
 refine P.istoreN X0 hx 8 #[.val (.int 1), .val (.int 0), .unset, .unset] (hb w d24_7) rfl rfl ?_
 refine P.iloadN X0 hx 9 (hb w d24_8) rfl rfl ?_
 refine P.ineg X0 hx 10 (z := (-1 : Int32)) (hb w d24_9) rfl rfl ?_
 refine P.istoreN X0 hx 11 #[.val (.int (-1 : Int32)), .val (.int 0), .unset, .unset] (hb w d24_10) rfl rfl ?_
 refine P.bipush X0 hx 13 (-10) (hb w d24_11) rfl rfl ?_
 refine P.istoreN X0 hx 14 #[.val (.int (-1 : Int32)), .val (.int 0), .val (.int (-10 : Int32)), .unset] (hb w d24_13) rfl rfl ?_
 refine P.iconst X0 hx 15 1 (hb w d24_14) rfl rfl ?_
 refine P.istoreN X0 hx 16 #[.val (.int (-1 : Int32)), .val (.int 0), .val (.int (-10 : Int32)), .val (.int 1)] (hb w d24_15) rfl rfl ?_
 refine P.iloadN X0 hx 17 (hb w d24_16) rfl rfl ?_
 refine P.bipush X0 hx 19 10 (hb w d24_17) rfl rfl ?_
 refine P.icmpNo X0 hx 22 (hb w d24_19) (by decide) rfl ?_
 refine P.iloadN X0 hx 23 (hb w d24_22) rfl rfl ?_
 refine P.iloadN X0 hx 24 (hb w d24_23) rfl rfl ?_
 refine P.icmpNo X0 hx 27 (hb w d24_24) (by decide) rfl ?_
 refine P.iloadN X0 hx 28 (hb w d24_27) rfl rfl ?_
 refine P.iloadN X0 hx 29 (hb w d24_28) rfl rfl ?_
 refine P.iadd X0 hx 30 (z := (1 : Int32)) (hb w d24_29) rfl rfl ?_
 exact WS.retI X0 (WL' := []) (FL' := []) hx hret hlk (hb w d24_30) (nle rfl) (nle rfl) ⟨rfl, rfl, rfl, rfl⟩
def Q_asbapi1 (Z : State) (x : Addr) (t : Addr) (cap : Nat) (cs : List Int32) (h : Heap) (v : Option Value) (h' : Heap) (WL' FL' : List Addr) : Prop := v = some (.ref x) ∧ WL' = [] ∧ FL' = [] ∧ Keep h h' [x, t] ∧ SB Z h' x t cap (cs ++ [(49 : Int32)])
theorem ct_asbapi1 (cx : Cx a0 Z gC gF v_AL v_DO k_DO) (x : Addr) (t : Addr) (cap : Nat) (cs : List Int32) (h : Heap) (WL FL : List Addr) (P0 : SB Z h x t cap cs) (P1 : x ∈ WL) (P2 : t ∈ WL) (hxt : x ≠ t) (hB1 : cs.length + 1 ≤ cap) :
   Ct l Z EL1 n0 (⟨"java/lang/AbstractStringBuilder", "append", "(I)Ljava/lang/AbstractStringBuilder;"⟩ : MethodName) jdk_68_method_32_code 4 (Option.some (FieldType.object "java/lang/AbstractStringBuilder")) ({ frames := 1, cells := 0, slots := 0, locals := 18 } : Room) #[(.ref x), (.int 1)] h WL FL (Q_asbapi1 Z x t cap cs h) := by
 refine Ct.of (plainFor_of_name pn1) ?_
 intro p e s m below meth c s1 hx w hml hnm hret hlk X0
 refine Wo.cast (f' := (mkF m 0 #[.val (.ref x), .val (.int 1), .unset, .unset] [])) (by rfl) ?_
 have K0 : Keep h h [x, t] := Keep.refl _ _
 show Wo _ _ _ _ _ _ _ _ _ _ _ s1 (mkF m 0 #[.val (.ref x), .val (.int 1), .unset, .unset] [])
 refine P.aloadN X0 hx 1 (hb w d23_0) rfl rfl rfl ?_
 obtain ⟨k1, A1⟩ := P0.2.2.2.2.1
 refine X0.getF hx (host := "") (Or.inl (w126 cx)) Via.refl P0.2.2.2.1 (hb w d23_1) ?_
 intro T2 X2
 refine P.istoreN X2 hx 5 #[.val (.ref x), .val (.int 1), .val (.int (Int32.ofNat cs.length)), .unset] (hb w d23_4) rfl rfl ?_
 refine P.iloadN X2 hx 6 (hb w d23_5) rfl rfl ?_
 refine P.iloadN X2 hx 7 (hb w d23_6) rfl rfl ?_
 refine X2.callS hx (w164 cx) (w165 cx) (w166 cx) (w167 cx) (by decide) (Ct.pay (W := 1) (ct_ssize_1 cx  h _ _ ) (w167 cx) (w166 cx) (nle rfl) (nle rfl)) (by rw [hml]; rfl) (argsL := [.int 1]) (rest := [.int (Int32.ofNat cs.length)]) (lenOf pd6 rfl) rfl rfl (nle rfl) (hb w d23_7) (nle rfl) (nle rfl) ?_
 rintro T3 h3 _ _ _ X3 ⟨rfl, rfl, rfl, J3⟩
 rw [J3] at X3
 refine P.iadd X3 hx 11 (z := (Int32.ofNat (cs.length + 1))) (hb w d23_10) (by rw [oA1]) rfl ?_
 refine P.istoreN X3 hx 12 #[.val (.ref x), .val (.int 1), .val (.int (Int32.ofNat cs.length)), .val (.int (Int32.ofNat (cs.length + 1)))] (hb w d23_11) rfl rfl ?_
 refine P.aloadN X3 hx 13 (hb w d23_12) rfl rfl rfl ?_
 refine P.iloadN X3 hx 14 (hb w d23_13) rfl rfl ?_
 refine X3.callV hx (w128 cx) (declM (w129 cx) (w132 cx)) (w131 cx) (w129 cx) (fun _ hZ => nf hZ (w131 cx)) (by decide) P0.1 (Ct.pay (W := 0) (ct_enscap cx x t k1 cap cs (Int32.ofNat (cs.length + 1)) h _ _ P0.2.1 P0.2.2.1 A1 (oNo hB1 (Nat.lt_of_le_of_lt P0.2.2.2.2.2.2.2.1 (by decide)))) (w132 cx) (w83 cx) (nle rfl) (nle rfl)) (by rw [hml]; rfl) (argsL := [.int (Int32.ofNat (cs.length + 1))]) (rest := []) (lenOf pd9 rfl) rfl rfl (nle rfl) (hb w d23_14) (nle rfl) (nle rfl) ?_
 rintro T4 h4 _ _ _ X4 ⟨rfl, rfl, rfl, J4⟩
 rw [J4] at X4
 refine P.aloadN X4 hx 18 (hb w d23_17) rfl rfl rfl ?_
 refine X4.callV hx (w168 cx) (w169 cx) (w171 cx) (w170 cx) (fun _ hZ => nf hZ (w171 cx)) (by decide) P0.1 (Ct.pay (W := 0) (ct_asblat cx x h _ _ P0.2.2.1) (w172 cx) (w83 cx) (nle rfl) (nle rfl)) (by rw [hml]; rfl) (argsL := []) (rest := []) (lenOf pd15 rfl) rfl rfl (nle rfl) (hb w d23_18) (nle rfl) (nle rfl) ?_
 rintro T5 h5 _ _ _ X5 ⟨rfl, rfl, rfl, J5⟩
 rw [J5] at X5
 refine P.ifNo X5 hx 24 (hb w d23_21) (by decide) rfl ?_
 refine P.iloadN X5 hx 25 (hb w d23_24) rfl rfl ?_
 refine P.iloadN X5 hx 26 (hb w d23_25) rfl rfl ?_
 refine P.aloadN X5 hx 27 (hb w d23_26) rfl rfl rfl ?_
 refine X5.getF hx (host := "") (Or.inl (w87 cx)) Via.refl P0.2.1 (hb w d23_27) ?_
 intro T6 X6
 refine X6.callS hx (w173 cx) (w174 cx) (w166 cx) (w175 cx) (by decide) (Ct.pay (W := 0) (ct_getc1 cx t k1 cap cs h _ _ A1 P2 hB1 P0.2.2.2.2.2.2.2.1) (w175 cx) (w166 cx) (nle rfl) (nle rfl)) (by rw [hml]; rfl) (argsL := [.int 1, .int (Int32.ofNat (cs.length + 1)), .ref t]) (rest := []) (lenOf pd22 rfl) rfl rfl (nle rfl) (hb w d23_30) (nle rfl) (nle rfl) ?_
 rintro T7 h7 _ _ _ X7 ⟨rfl, rfl, rfl, J7, G8⟩
 have K9 := K0.trans J7 (allS (Or.inl (mg 1 rfl)) all0)
 refine P.pop X7 hx 34 (hb w d23_33) rfl rfl ?_
 refine P.goto X7 hx 48 (hb w d23_34) (by decide) (by decide) ?_
 refine P.aloadN X7 hx 49 (hb w d23_48) rfl rfl rfl ?_
 refine P.iloadN X7 hx 50 (hb w d23_49) rfl rfl ?_
 have F10 := P0.2.2.2.1.keep J7 (ninS hxt nin0)
 have F11 := P0.1.keep J7
 refine X7.putF hx (host := "") (Or.inl (w126 cx)) Via.refl F10 F11 (Or.inl (w127 cx)) (w74 cx) (ty := .int) (by decide) rfl rfl P1 (hb w d23_50) ?_
 intro T12 h12 X12 W12 G12
 have K13 := K9.wr W12 (Or.inl (mg 0 rfl))
 refine P.aloadN X12 hx 54 (hb w d23_53) rfl rfl rfl ?_
 have F14 := F11.wr W12
 have F15 := (P0.2.1.keep J7 (ninS hxt nin0)).other W12 (Or.inr (slot_ne (Or.inl (w88 cx)) (Or.inl (w127 cx)) (by decide) (t := (.array .byte)) (t' := .int) (by decide) (by decide)))
 have F16 := (P0.2.2.1.keep J7 (ninS hxt nin0)).other W12 (Or.inr (slot_ne (Or.inl (w90 cx)) (Or.inl (w127 cx)) (by decide) (t := .byte) (t' := .int) (by decide) (by decide)))
 have F17 := G8.other W12 (Ne.symm hxt)
 have F18 := (P0.2.2.2.2.2.2.2.2.keep J7).wr W12
 have S19 : SB Z h12 x t cap (cs ++ [(49 : Int32)]) := ⟨F14, F15, F16, (by rw [List.length_append]; exact G12), ⟨_, F17⟩, fun c hc => (List.mem_append.mp hc).elim (P0.2.2.2.2.2.1 c) (fcS (P := fun c => ¬ c < 0 ∧ ¬ (255 : Int32) < c) (by decide) fc0 c), by rw [List.length_append]; exact hB1, P0.2.2.2.2.2.2.2.1, F18⟩
 exact WS.retA X12 (WL' := []) (FL' := []) hx hret rfl rfl hlk (hb w d23_54) (nle rfl) (nle rfl) ⟨rfl, rfl, rfl, K13, S19⟩
def Q_sbapi1 (Z : State) (x : Addr) (t : Addr) (cap : Nat) (cs : List Int32) (h : Heap) (v : Option Value) (h' : Heap) (WL' FL' : List Addr) : Prop := v = some (.ref x) ∧ WL' = [] ∧ FL' = [] ∧ Keep h h' [x, t] ∧ SB Z h' x t cap (cs ++ [(49 : Int32)])
theorem ct_sbapi1 (cx : Cx a0 Z gC gF v_AL v_DO k_DO) (x : Addr) (t : Addr) (cap : Nat) (cs : List Int32) (h : Heap) (WL FL : List Addr) (P0 : SB Z h x t cap cs) (P1 : x ∈ WL) (P2 : t ∈ WL) (hxt : x ≠ t) (hB1 : cs.length + 1 ≤ cap) :
   Ct l Z EL1 n0 (⟨"java/lang/StringBuilder", "append", "(I)Ljava/lang/StringBuilder;"⟩ : MethodName) jdk_67_method_15_code 2 (Option.some (FieldType.object "java/lang/StringBuilder")) ({ frames := 2, cells := 0, slots := 0, locals := 33 } : Room) #[(.ref x), (.int 1)] h WL FL (Q_sbapi1 Z x t cap cs h) := by
 refine Ct.of (plainFor_of_name pn4) ?_
 intro p e s m below meth c s1 hx w hml hnm hret hlk X0
 refine Wo.cast (f' := (mkF m 0 #[.val (.ref x), .val (.int 1)] [])) (by rfl) ?_
 have K0 : Keep h h [x, t] := Keep.refl _ _
 show Wo _ _ _ _ _ _ _ _ _ _ _ s1 (mkF m 0 #[.val (.ref x), .val (.int 1)] [])
 refine P.aloadN X0 hx 1 (hb w d22_0) rfl rfl rfl ?_
 refine P.iloadN X0 hx 2 (hb w d22_1) rfl rfl ?_
 refine X0.callU hx (w160 cx) (w161 cx) (w112 cx) (w163 cx) (w131 cx) rfl (by decide) (by decide) (Ins.self P0.1) (Ct.pay (W := 0) (ct_asbapi1 cx x t cap cs h _ _ P0 P1 P2 hxt hB1) (w163 cx) (w83 cx) (nle rfl) (nle rfl)) (by rw [hml]; rfl) (argsL := [.int 1]) (rest := []) (lenOf pd23 rfl) rfl rfl (nle rfl) (hb w d22_2) (nle rfl) (nle rfl) ?_
 rintro T1 h1 _ _ _ X1 ⟨rfl, rfl, rfl, J1, G2⟩
 have K3 := K0.trans J1 (allS (Or.inl (mg 0 rfl)) (allS (Or.inl (mg 1 rfl)) all0))
 refine P.pop X1 hx 6 (hb w d22_5) rfl rfl ?_
 refine P.aloadN X1 hx 7 (hb w d22_6) rfl rfl rfl ?_
 exact WS.retA X1 (WL' := []) (FL' := []) hx hret rfl rfl hlk (hb w d22_7) (nle rfl) (nle rfl) ⟨rfl, rfl, rfl, K3, G2⟩
def Q_getc2 (Z : State) (t : Addr) (kt : ClassId) (cap : Nat) (cs : List Int32) (h : Heap) (v : Option Value) (h' : Heap) (WL' FL' : List Addr) : Prop := v = some (.int (Int32.ofNat cs.length)) ∧ WL' = [] ∧ FL' = [] ∧ Keep h h' [t] ∧ Arv Z h' t kt .byte (Int32.ofNat cap) (lat (cs ++ [(50 : Int32)])) (.int 0)
theorem ct_getc2 (cx : Cx a0 Z gC gF v_AL v_DO k_DO) (t : Addr) (kt : ClassId) (cap : Nat) (cs : List Int32) (h : Heap) (WL FL : List Addr) (P0 : Arv Z h t kt .byte (Int32.ofNat cap) (lat cs) (.int 0)) (P1 : t ∈ WL) (hB1 : cs.length + 1 ≤ cap) (hc : cap ≤ 4000) :
   Ct l Z EL1 n0 (⟨"java/lang/Integer", "getChars", "(II[B)I"⟩ : MethodName) jdk_33_method_12_code 7 (Option.some FieldType.int) ({ frames := 0, cells := 0, slots := 0, locals := 0 } : Room) #[(.int 2), (.int (Int32.ofNat (cs.length + 1))), (.ref t)] h WL FL (Q_getc2 Z t kt cap cs h) := by
 refine Ct.of (plainFor_of_name pn6) ?_
 intro p e s m below meth c s1 hx w hml hnm hret hlk X0
 refine Wo.cast (f' := (mkF m 0 #[.val (.int 2), .val (.int (Int32.ofNat (cs.length + 1))), .val (.ref t), .unset, .unset, .unset, .unset] [])) (by rfl) ?_
 have K0 : Keep h h [t] := Keep.refl _ _
 show Wo _ _ _ _ _ _ _ _ _ _ _ s1 (mkF m 0 #[.val (.int 2), .val (.int (Int32.ofNat (cs.length + 1))), .val (.ref t), .unset, .unset, .unset, .unset] [])
 refine P.iloadN X0 hx 1 (hb w d26_0) rfl rfl ?_
 refine P.istore X0 hx 3 #[.val (.int 2), .val (.int (Int32.ofNat (cs.length + 1))), .val (.ref t), .unset, .unset, .val (.int (Int32.ofNat (cs.length + 1))), .unset] (hb w d26_1) rfl rfl ?_
 refine P.iloadN X0 hx 4 (hb w d26_3) rfl rfl ?_
 refine P.ifYes X0 hx 11 (hb w d26_4) (by decide) (by decide) (by decide) ?_
 refine P.iconst X0 hx 12 0 (hb w d26_11) rfl rfl ?_
 refine P.istore X0 hx 14 #[.val (.int 2), .val (.int (Int32.ofNat (cs.length + 1))), .val (.ref t), .unset, .unset, .val (.int (Int32.ofNat (cs.length + 1))), .val (.int 0)] (hb w d26_12) rfl rfl ?_
 refine P.iload X0 hx 16 (hb w d26_14) rfl rfl ?_
 refine P.ifNo X0 hx 19 (hb w d26_16) (by decide) rfl ?_
 refine P.iloadN X0 hx 20 (hb w d26_19) rfl rfl ?_
 refine P.ineg X0 hx 21 (z := (-2 : Int32)) (hb w d26_20) rfl rfl ?_
 refine P.istoreN X0 hx 22 #[.val (.int (-2 : Int32)), .val (.int (Int32.ofNat (cs.length + 1))), .val (.ref t), .unset, .unset, .val (.int (Int32.ofNat (cs.length + 1))), .val (.int 0)] (hb w d26_21) rfl rfl ?_
 refine P.iloadN X0 hx 23 (hb w d26_22) rfl rfl ?_
 refine P.bipush X0 hx 25 (-100) (hb w d26_23) rfl rfl ?_
 refine P.icmpYes X0 hx 72 (hb w d26_25) (by decide) (by decide) (by decide) ?_
 refine P.aloadN X0 hx 73 (hb w d26_72) rfl rfl rfl ?_
 refine P.iinc X0 hx 76 #[.val (.int (-2 : Int32)), .val (.int (Int32.ofNat (cs.length + 1))), .val (.ref t), .unset, .unset, .val (.int ((Int32.ofNat (cs.length + 1)) + (-1 : Int32))), .val (.int 0)] (hb w d26_73) rfl rfl rfl ?_
 refine P.iload X0 hx 78 (hb w d26_76) rfl rfl ?_
 refine X0.getS hx (w176 cx) Via.refl (S_DO cx) (hb w d26_78) ?_
 intro T1 X1
 refine P.iloadN X1 hx 82 (hb w d26_81) rfl rfl ?_
 refine P.ineg X1 hx 83 (z := (2 : Int32)) (hb w d26_82) rfl rfl ?_
 refine WS.bld X1 hx ((A_DO cx).ext X1.old.2) (j := (2 : Int32)) (x := (50 : Int32)) (by decide) rfl (hb w d26_83) ?_
 refine X1.stL hx P0 (j := ((Int32.ofNat (cs.length + 1)) + (-1 : Int32))) (x := (50 : Int32)) (d := (50 : Int32)) (oM1 _) rfl hB1 hc P1 (hb w d26_84) ?_
 intro T2 h2 X2 J2 G2
 have K3 := K0.trans J2 (allS (Or.inl (mg 0 rfl)) all0)
 refine P.iloadN X2 hx 86 (hb w d26_85) rfl rfl ?_
 refine P.bipush X2 hx 88 (-9) (hb w d26_86) rfl rfl ?_
 refine P.icmpYes X2 hx 104 (hb w d26_88) (by decide) (by decide) (by decide) ?_
 refine P.iload X2 hx 106 (hb w d26_104) rfl rfl ?_
 refine P.ifYes X2 hx 118 (hb w d26_106) (by decide) (by decide) (by decide) ?_
 refine P.iload X2 hx 120 (hb w d26_118) rfl rfl ?_
 exact WS.retI X2 (WL' := []) (FL' := []) hx hret hlk (hb w d26_120) (nle rfl) (nle rfl) ⟨(by rw [oM1]), rfl, rfl, K3, G2⟩
def Q_ssize_2 (Z : State) (h : Heap) (v : Option Value) (h' : Heap) (WL' FL' : List Addr) : Prop := v = some (.int 1) ∧ WL' = [] ∧ FL' = [] ∧ h' = h
theorem ct_ssize_2 (cx : Cx a0 Z gC gF v_AL v_DO k_DO) (h : Heap) (WL FL : List Addr)  :
   Ct l Z EL1 n0 (⟨"java/lang/Integer", "stringSize", "(I)I"⟩ : MethodName) jdk_33_method_13_code 4 (Option.some FieldType.int) ({ frames := 0, cells := 0, slots := 0, locals := 0 } : Room) #[(.int 2)] h WL FL (Q_ssize_2 Z h) := by
 refine Ct.of (plainFor_of_name pn6) ?_
 intro p e s m below meth c s1 hx w hml hnm hret hlk X0
 refine Wo.cast (f' := (mkF m 0 #[.val (.int 2), .unset, .unset, .unset] [])) (by rfl) ?_
 show Wo _ _ _ _ _ _ _ _ _ _ _ s1 (mkF m 0 #[.val (.int 2), .unset, .unset, .unset] [])
 refine P.iconst X0 hx 1 1 (hb w d24_0) rfl rfl ?_
 refine P.istoreN X0 hx 2 #[.val (.int 2), .val (.int 1), .unset, .unset] (hb w d24_1) rfl rfl ?_
 refine P.iloadN X0 hx 3 (hb w d24_2) rfl rfl ?_
 refine P.ifNo X0 hx 6 (hb w d24_3) (by decide) rfl ?_
 refine P.iconst X0 hx 7 0 (hb w d24_6) rfl rfl ?_
 refine P.istoreN X0 hx 8 #[.val (.int 2), .val (.int 0), .unset, .unset] (hb w d24_7) rfl rfl ?_
 refine P.iloadN X0 hx 9 (hb w d24_8) rfl rfl ?_
 refine P.ineg X0 hx 10 (z := (-2 : Int32)) (hb w d24_9) rfl rfl ?_
 refine P.istoreN X0 hx 11 #[.val (.int (-2 : Int32)), .val (.int 0), .unset, .unset] (hb w d24_10) rfl rfl ?_
 refine P.bipush X0 hx 13 (-10) (hb w d24_11) rfl rfl ?_
 refine P.istoreN X0 hx 14 #[.val (.int (-2 : Int32)), .val (.int 0), .val (.int (-10 : Int32)), .unset] (hb w d24_13) rfl rfl ?_
 refine P.iconst X0 hx 15 1 (hb w d24_14) rfl rfl ?_
 refine P.istoreN X0 hx 16 #[.val (.int (-2 : Int32)), .val (.int 0), .val (.int (-10 : Int32)), .val (.int 1)] (hb w d24_15) rfl rfl ?_
 refine P.iloadN X0 hx 17 (hb w d24_16) rfl rfl ?_
 refine P.bipush X0 hx 19 10 (hb w d24_17) rfl rfl ?_
 refine P.icmpNo X0 hx 22 (hb w d24_19) (by decide) rfl ?_
 refine P.iloadN X0 hx 23 (hb w d24_22) rfl rfl ?_
 refine P.iloadN X0 hx 24 (hb w d24_23) rfl rfl ?_
 refine P.icmpNo X0 hx 27 (hb w d24_24) (by decide) rfl ?_
 refine P.iloadN X0 hx 28 (hb w d24_27) rfl rfl ?_
 refine P.iloadN X0 hx 29 (hb w d24_28) rfl rfl ?_
 refine P.iadd X0 hx 30 (z := (1 : Int32)) (hb w d24_29) rfl rfl ?_
 exact WS.retI X0 (WL' := []) (FL' := []) hx hret hlk (hb w d24_30) (nle rfl) (nle rfl) ⟨rfl, rfl, rfl, rfl⟩
def Q_asbapi2 (Z : State) (x : Addr) (t : Addr) (cap : Nat) (cs : List Int32) (h : Heap) (v : Option Value) (h' : Heap) (WL' FL' : List Addr) : Prop := v = some (.ref x) ∧ WL' = [] ∧ FL' = [] ∧ Keep h h' [x, t] ∧ SB Z h' x t cap (cs ++ [(50 : Int32)])
theorem ct_asbapi2 (cx : Cx a0 Z gC gF v_AL v_DO k_DO) (x : Addr) (t : Addr) (cap : Nat) (cs : List Int32) (h : Heap) (WL FL : List Addr) (P0 : SB Z h x t cap cs) (P1 : x ∈ WL) (P2 : t ∈ WL) (hxt : x ≠ t) (hB1 : cs.length + 1 ≤ cap) :
   Ct l Z EL1 n0 (⟨"java/lang/AbstractStringBuilder", "append", "(I)Ljava/lang/AbstractStringBuilder;"⟩ : MethodName) jdk_68_method_32_code 4 (Option.some (FieldType.object "java/lang/AbstractStringBuilder")) ({ frames := 1, cells := 0, slots := 0, locals := 18 } : Room) #[(.ref x), (.int 2)] h WL FL (Q_asbapi2 Z x t cap cs h) := by
 refine Ct.of (plainFor_of_name pn1) ?_
 intro p e s m below meth c s1 hx w hml hnm hret hlk X0
 refine Wo.cast (f' := (mkF m 0 #[.val (.ref x), .val (.int 2), .unset, .unset] [])) (by rfl) ?_
 have K0 : Keep h h [x, t] := Keep.refl _ _
 show Wo _ _ _ _ _ _ _ _ _ _ _ s1 (mkF m 0 #[.val (.ref x), .val (.int 2), .unset, .unset] [])
 refine P.aloadN X0 hx 1 (hb w d23_0) rfl rfl rfl ?_
 obtain ⟨k1, A1⟩ := P0.2.2.2.2.1
 refine X0.getF hx (host := "") (Or.inl (w126 cx)) Via.refl P0.2.2.2.1 (hb w d23_1) ?_
 intro T2 X2
 refine P.istoreN X2 hx 5 #[.val (.ref x), .val (.int 2), .val (.int (Int32.ofNat cs.length)), .unset] (hb w d23_4) rfl rfl ?_
 refine P.iloadN X2 hx 6 (hb w d23_5) rfl rfl ?_
 refine P.iloadN X2 hx 7 (hb w d23_6) rfl rfl ?_
 refine X2.callS hx (w164 cx) (w165 cx) (w166 cx) (w167 cx) (by decide) (Ct.pay (W := 1) (ct_ssize_2 cx  h _ _ ) (w167 cx) (w166 cx) (nle rfl) (nle rfl)) (by rw [hml]; rfl) (argsL := [.int 2]) (rest := [.int (Int32.ofNat cs.length)]) (lenOf pd6 rfl) rfl rfl (nle rfl) (hb w d23_7) (nle rfl) (nle rfl) ?_
 rintro T3 h3 _ _ _ X3 ⟨rfl, rfl, rfl, J3⟩
 rw [J3] at X3
 refine P.iadd X3 hx 11 (z := (Int32.ofNat (cs.length + 1))) (hb w d23_10) (by rw [oA1]) rfl ?_
 refine P.istoreN X3 hx 12 #[.val (.ref x), .val (.int 2), .val (.int (Int32.ofNat cs.length)), .val (.int (Int32.ofNat (cs.length + 1)))] (hb w d23_11) rfl rfl ?_
 refine P.aloadN X3 hx 13 (hb w d23_12) rfl rfl rfl ?_
 refine P.iloadN X3 hx 14 (hb w d23_13) rfl rfl ?_
 refine X3.callV hx (w128 cx) (declM (w129 cx) (w132 cx)) (w131 cx) (w129 cx) (fun _ hZ => nf hZ (w131 cx)) (by decide) P0.1 (Ct.pay (W := 0) (ct_enscap cx x t k1 cap cs (Int32.ofNat (cs.length + 1)) h _ _ P0.2.1 P0.2.2.1 A1 (oNo hB1 (Nat.lt_of_le_of_lt P0.2.2.2.2.2.2.2.1 (by decide)))) (w132 cx) (w83 cx) (nle rfl) (nle rfl)) (by rw [hml]; rfl) (argsL := [.int (Int32.ofNat (cs.length + 1))]) (rest := []) (lenOf pd9 rfl) rfl rfl (nle rfl) (hb w d23_14) (nle rfl) (nle rfl) ?_
 rintro T4 h4 _ _ _ X4 ⟨rfl, rfl, rfl, J4⟩
 rw [J4] at X4
 refine P.aloadN X4 hx 18 (hb w d23_17) rfl rfl rfl ?_
 refine X4.callV hx (w168 cx) (w169 cx) (w171 cx) (w170 cx) (fun _ hZ => nf hZ (w171 cx)) (by decide) P0.1 (Ct.pay (W := 0) (ct_asblat cx x h _ _ P0.2.2.1) (w172 cx) (w83 cx) (nle rfl) (nle rfl)) (by rw [hml]; rfl) (argsL := []) (rest := []) (lenOf pd15 rfl) rfl rfl (nle rfl) (hb w d23_18) (nle rfl) (nle rfl) ?_
 rintro T5 h5 _ _ _ X5 ⟨rfl, rfl, rfl, J5⟩
 rw [J5] at X5
 refine P.ifNo X5 hx 24 (hb w d23_21) (by decide) rfl ?_
 refine P.iloadN X5 hx 25 (hb w d23_24) rfl rfl ?_
 refine P.iloadN X5 hx 26 (hb w d23_25) rfl rfl ?_
 refine P.aloadN X5 hx 27 (hb w d23_26) rfl rfl rfl ?_
 refine X5.getF hx (host := "") (Or.inl (w87 cx)) Via.refl P0.2.1 (hb w d23_27) ?_
 intro T6 X6
 refine X6.callS hx (w173 cx) (w174 cx) (w166 cx) (w175 cx) (by decide) (Ct.pay (W := 0) (ct_getc2 cx t k1 cap cs h _ _ A1 P2 hB1 P0.2.2.2.2.2.2.2.1) (w175 cx) (w166 cx) (nle rfl) (nle rfl)) (by rw [hml]; rfl) (argsL := [.int 2, .int (Int32.ofNat (cs.length + 1)), .ref t]) (rest := []) (lenOf pd22 rfl) rfl rfl (nle rfl) (hb w d23_30) (nle rfl) (nle rfl) ?_
 rintro T7 h7 _ _ _ X7 ⟨rfl, rfl, rfl, J7, G8⟩
 have K9 := K0.trans J7 (allS (Or.inl (mg 1 rfl)) all0)
 refine P.pop X7 hx 34 (hb w d23_33) rfl rfl ?_
 refine P.goto X7 hx 48 (hb w d23_34) (by decide) (by decide) ?_
 refine P.aloadN X7 hx 49 (hb w d23_48) rfl rfl rfl ?_
 refine P.iloadN X7 hx 50 (hb w d23_49) rfl rfl ?_
 have F10 := P0.2.2.2.1.keep J7 (ninS hxt nin0)
 have F11 := P0.1.keep J7
 refine X7.putF hx (host := "") (Or.inl (w126 cx)) Via.refl F10 F11 (Or.inl (w127 cx)) (w74 cx) (ty := .int) (by decide) rfl rfl P1 (hb w d23_50) ?_
 intro T12 h12 X12 W12 G12
 have K13 := K9.wr W12 (Or.inl (mg 0 rfl))
 refine P.aloadN X12 hx 54 (hb w d23_53) rfl rfl rfl ?_
 have F14 := F11.wr W12
 have F15 := (P0.2.1.keep J7 (ninS hxt nin0)).other W12 (Or.inr (slot_ne (Or.inl (w88 cx)) (Or.inl (w127 cx)) (by decide) (t := (.array .byte)) (t' := .int) (by decide) (by decide)))
 have F16 := (P0.2.2.1.keep J7 (ninS hxt nin0)).other W12 (Or.inr (slot_ne (Or.inl (w90 cx)) (Or.inl (w127 cx)) (by decide) (t := .byte) (t' := .int) (by decide) (by decide)))
 have F17 := G8.other W12 (Ne.symm hxt)
 have F18 := (P0.2.2.2.2.2.2.2.2.keep J7).wr W12
 have S19 : SB Z h12 x t cap (cs ++ [(50 : Int32)]) := ⟨F14, F15, F16, (by rw [List.length_append]; exact G12), ⟨_, F17⟩, fun c hc => (List.mem_append.mp hc).elim (P0.2.2.2.2.2.1 c) (fcS (P := fun c => ¬ c < 0 ∧ ¬ (255 : Int32) < c) (by decide) fc0 c), by rw [List.length_append]; exact hB1, P0.2.2.2.2.2.2.2.1, F18⟩
 exact WS.retA X12 (WL' := []) (FL' := []) hx hret rfl rfl hlk (hb w d23_54) (nle rfl) (nle rfl) ⟨rfl, rfl, rfl, K13, S19⟩
def Q_sbapi2 (Z : State) (x : Addr) (t : Addr) (cap : Nat) (cs : List Int32) (h : Heap) (v : Option Value) (h' : Heap) (WL' FL' : List Addr) : Prop := v = some (.ref x) ∧ WL' = [] ∧ FL' = [] ∧ Keep h h' [x, t] ∧ SB Z h' x t cap (cs ++ [(50 : Int32)])
theorem ct_sbapi2 (cx : Cx a0 Z gC gF v_AL v_DO k_DO) (x : Addr) (t : Addr) (cap : Nat) (cs : List Int32) (h : Heap) (WL FL : List Addr) (P0 : SB Z h x t cap cs) (P1 : x ∈ WL) (P2 : t ∈ WL) (hxt : x ≠ t) (hB1 : cs.length + 1 ≤ cap) :
   Ct l Z EL1 n0 (⟨"java/lang/StringBuilder", "append", "(I)Ljava/lang/StringBuilder;"⟩ : MethodName) jdk_67_method_15_code 2 (Option.some (FieldType.object "java/lang/StringBuilder")) ({ frames := 2, cells := 0, slots := 0, locals := 33 } : Room) #[(.ref x), (.int 2)] h WL FL (Q_sbapi2 Z x t cap cs h) := by
 refine Ct.of (plainFor_of_name pn4) ?_
 intro p e s m below meth c s1 hx w hml hnm hret hlk X0
 refine Wo.cast (f' := (mkF m 0 #[.val (.ref x), .val (.int 2)] [])) (by rfl) ?_
 have K0 : Keep h h [x, t] := Keep.refl _ _
 show Wo _ _ _ _ _ _ _ _ _ _ _ s1 (mkF m 0 #[.val (.ref x), .val (.int 2)] [])
 refine P.aloadN X0 hx 1 (hb w d22_0) rfl rfl rfl ?_
 refine P.iloadN X0 hx 2 (hb w d22_1) rfl rfl ?_
 refine X0.callU hx (w160 cx) (w161 cx) (w112 cx) (w163 cx) (w131 cx) rfl (by decide) (by decide) (Ins.self P0.1) (Ct.pay (W := 0) (ct_asbapi2 cx x t cap cs h _ _ P0 P1 P2 hxt hB1) (w163 cx) (w83 cx) (nle rfl) (nle rfl)) (by rw [hml]; rfl) (argsL := [.int 2]) (rest := []) (lenOf pd23 rfl) rfl rfl (nle rfl) (hb w d22_2) (nle rfl) (nle rfl) ?_
 rintro T1 h1 _ _ _ X1 ⟨rfl, rfl, rfl, J1, G2⟩
 have K3 := K0.trans J1 (allS (Or.inl (mg 0 rfl)) (allS (Or.inl (mg 1 rfl)) all0))
 refine P.pop X1 hx 6 (hb w d22_5) rfl rfl ?_
 refine P.aloadN X1 hx 7 (hb w d22_6) rfl rfl rfl ?_
 exact WS.retA X1 (WL' := []) (FL' := []) hx hret rfl rfl hlk (hb w d22_7) (nle rfl) (nle rfl) ⟨rfl, rfl, rfl, K3, G2⟩
def Q_valO (Z : State) (q : Addr) (qt : Addr) (qc : Nat) (ds : List Int32) (h : Heap) (v : Option Value) (h' : Heap) (WL' FL' : List Addr) : Prop := ∃ x : Addr, ∃ u : Addr, v = some (.ref x) ∧ WL' = [x] ∧ FL' = [u] ∧ Keep h h' [] ∧ h.size ≤ x ∧ StrL Z h' x u ds
theorem ct_valO (cx : Cx a0 Z gC gF v_AL v_DO k_DO) (q : Addr) (qt : Addr) (qc : Nat) (ds : List Int32) (h : Heap) (WL FL : List Addr) (P0 : SB Z h q qt qc ds) (P1 : q ∈ WL) (P2 : qt ∈ WL) (hl : ds.length < qc) (hB : ds.length ≤ 70) :
   Ct l Z EL1 n0 (⟨"java/lang/String", "valueOf", "(Ljava/lang/Object;)Ljava/lang/String;"⟩ : MethodName) jdk_42_method_133_code 1 (Option.some (FieldType.object "java/lang/String")) ({ frames := 6, cells := 2, slots := 74, locals := 91 } : Room) #[(.ref q)] h WL FL (Q_valO Z q qt qc ds h) := by
 refine Ct.of (plainFor_of_name pn0) ?_
 intro p e s m below meth c s1 hx w hml hnm hret hlk X0
 refine Wo.cast (f' := (mkF m 0 #[.val (.ref q)] [])) (by rfl) ?_
 have K0 : Keep h h [] := Keep.refl _ _
 show Wo _ _ _ _ _ _ _ _ _ _ _ s1 (mkF m 0 #[.val (.ref q)] [])
 refine P.aloadN X0 hx 1 (hb w d50_0) rfl rfl rfl ?_
 refine P.ifnonnullYes X0 hx 10 (hb w d50_1) (by decide) (by decide) ?_
 refine P.aloadN X0 hx 11 (hb w d50_10) rfl rfl rfl ?_
 refine X0.callV hx (w284 cx) (w285 cx) (w287 cx) (w179 cx) (fun _ hZ => nfZ hZ (w320 cx) rfl) (by decide) P0.1 (Ct.pay (W := 0) (ct_sbstr cx q qt qc ds h _ _ P0 P1 P2 hl hB) (w181 cx) (w75 cx) (nle rfl) (nle rfl)) (by rw [hml]; rfl) (argsL := []) (rest := []) (lenOf pd24 rfl) rfl rfl (nle rfl) (hb w d50_11) (nle rfl) (nle rfl) ?_
 rintro T1 h1 _ _ _ X1 ⟨a2, a3, rfl, rfl, rfl, J1, g5, G4⟩
 have ge6 := Nat.le_trans K0.1 g5
 have K7 := K0.trans J1 all0
 exact WS.retA X1 (WL' := [a2]) (FL' := [a3]) hx hret rfl rfl hlk (hb w d50_14) (nle rfl) (nle rfl) ⟨a2, a3, rfl, rfl, rfl, K7, ge6, G4⟩
def Q_sbapOA (Z : State) (x : Addr) (t : Addr) (cap : Nat) (cs : List Int32) (q : Addr) (qt : Addr) (qc : Nat) (ds : List Int32) (h : Heap) (v : Option Value) (h' : Heap) (WL' FL' : List Addr) : Prop := ∃ b : Addr, v = some (.ref x) ∧ WL' = [b] ∧ FL' = [] ∧ Keep h h' [x] ∧ h.size ≤ b ∧ SB Z h' x b (2 * cap + 2) (cs ++ ds)
theorem ct_sbapOA (cx : Cx a0 Z gC gF v_AL v_DO k_DO) (x : Addr) (t : Addr) (cap : Nat) (cs : List Int32) (q : Addr) (qt : Addr) (qc : Nat) (ds : List Int32) (h : Heap) (WL FL : List Addr) (P0 : SB Z h x t cap cs) (P1 : x ∈ WL) (P2 : t ∈ WL) (hxt : x ≠ t) (P4 : SB Z h q qt qc ds) (P5 : q ∈ WL) (P6 : qt ∈ WL) (hl : ds.length < qc) (hB : ds.length ≤ 70) (hg : cap < (cs ++ ds).length) (hk : (cs ++ ds).length < 2 * cap + 2) (hc : (2 * cap + 2) ≤ 4000) (hG : (2 * cap + 2) ≤ 70) :
   Ct l Z EL1 n0 (⟨"java/lang/StringBuilder", "append", "(Ljava/lang/Object;)Ljava/lang/StringBuilder;"⟩ : MethodName) jdk_67_method_6_code 2 (Option.some (FieldType.object "java/lang/StringBuilder")) ({ frames := 7, cells := 3, slots := 144, locals := 104 } : Room) #[(.ref x), (.ref q)] h WL FL (Q_sbapOA Z x t cap cs q qt qc ds h) := by
 refine Ct.of (plainFor_of_name pn4) ?_
 intro p e s m below meth c s1 hx w hml hnm hret hlk X0
 refine Wo.cast (f' := (mkF m 0 #[.val (.ref x), .val (.ref q)] [])) (by rfl) ?_
 have K0 : Keep h h [x] := Keep.refl _ _
 show Wo _ _ _ _ _ _ _ _ _ _ _ s1 (mkF m 0 #[.val (.ref x), .val (.ref q)] [])
 refine P.aloadN X0 hx 1 (hb w d49_0) rfl rfl rfl ?_
 refine P.aloadN X0 hx 2 (hb w d49_1) rfl rfl rfl ?_
 refine X0.callS hx (w281 cx) (w282 cx) (w6 cx) (w283 cx) (by decide) (Ct.pay (W := 1) (ct_valO cx q qt qc ds h _ _ P4 P5 P6 hl hB) (w283 cx) (w6 cx) (nle rfl) (nle rfl)) (by rw [hml]; rfl) (argsL := [.ref q]) (rest := [.ref x]) (lenOf pd25 rfl) rfl rfl (nle rfl) (hb w d49_2) (nle rfl) (nle rfl) ?_
 rintro T1 h1 _ _ _ X1 ⟨a2, a3, rfl, rfl, rfl, J1, g5, G4⟩
 have ge6 := Nat.le_trans K0.1 g5
 have K7 := K0.trans J1 all0
 have X8 := WS.drop (A := []) (B := WL) X1
 have F9 := P0.1.keep J1
 have F10 := P0.keep J1 nin0 nin0
 refine X8.callV hx (w288 cx) (w106 cx) (w108 cx) (w107 cx) (fun _ hZ => nf hZ (w108 cx)) (by decide) F9 (Ct.pay (W := 0) (ct_sbappA cx x a2 a3 t cap cs ds h1 _ _ F10 G4 P1 P2 hxt (mg 0 rfl) (mg 1 rfl) hg hk hc hG) (w109 cx) (w75 cx) (nle rfl) (nle rfl)) (by rw [hml]; rfl) (argsL := [.ref a2]) (rest := []) (lenOf pd26 rfl) rfl rfl (nle rfl) (hb w d49_5) (nle rfl) (nle rfl) ?_
 rintro T11 h11 _ _ _ X11 ⟨a12, rfl, rfl, rfl, J11, g14, G13⟩
 have ge15 := Nat.le_trans K7.1 g14
 have K16 := K7.trans J11 (allS (Or.inl (mg 0 rfl)) all0)
 have X17 := WS.fl (FL2 := FL) X11 (fun y hy => (List.mem_append_right [a2, a3] hy))
 exact WS.retA X17 (WL' := [a12]) (FL' := []) hx hret rfl rfl hlk (hb w d49_8) (nle rfl) (nle rfl) ⟨a12, rfl, rfl, rfl, K16, ge15, G13⟩
def Q_sbapON (Z : State) (x : Addr) (t : Addr) (cap : Nat) (cs : List Int32) (q : Addr) (qt : Addr) (qc : Nat) (ds : List Int32) (h : Heap) (v : Option Value) (h' : Heap) (WL' FL' : List Addr) : Prop := v = some (.ref x) ∧ WL' = [] ∧ FL' = [] ∧ Keep h h' [x, t] ∧ SB Z h' x t cap (cs ++ ds)
theorem ct_sbapON (cx : Cx a0 Z gC gF v_AL v_DO k_DO) (x : Addr) (t : Addr) (cap : Nat) (cs : List Int32) (q : Addr) (qt : Addr) (qc : Nat) (ds : List Int32) (h : Heap) (WL FL : List Addr) (P0 : SB Z h x t cap cs) (P1 : x ∈ WL) (P2 : t ∈ WL) (hxt : x ≠ t) (P4 : SB Z h q qt qc ds) (P5 : q ∈ WL) (P6 : qt ∈ WL) (hl : ds.length < qc) (hB : ds.length ≤ 70) (hBB : cs.length + ds.length ≤ cap) :
   Ct l Z EL1 n0 (⟨"java/lang/StringBuilder", "append", "(Ljava/lang/Object;)Ljava/lang/StringBuilder;"⟩ : MethodName) jdk_67_method_6_code 2 (Option.some (FieldType.object "java/lang/StringBuilder")) ({ frames := 7, cells := 2, slots := 74, locals := 104 } : Room) #[(.ref x), (.ref q)] h WL FL (Q_sbapON Z x t cap cs q qt qc ds h) := by
 refine Ct.of (plainFor_of_name pn4) ?_
 intro p e s m below meth c s1 hx w hml hnm hret hlk X0
 refine Wo.cast (f' := (mkF m 0 #[.val (.ref x), .val (.ref q)] [])) (by rfl) ?_
 have K0 : Keep h h [x, t] := Keep.refl _ _
 show Wo _ _ _ _ _ _ _ _ _ _ _ s1 (mkF m 0 #[.val (.ref x), .val (.ref q)] [])
 refine P.aloadN X0 hx 1 (hb w d49_0) rfl rfl rfl ?_
 refine P.aloadN X0 hx 2 (hb w d49_1) rfl rfl rfl ?_
 refine X0.callS hx (w281 cx) (w282 cx) (w6 cx) (w283 cx) (by decide) (Ct.pay (W := 1) (ct_valO cx q qt qc ds h _ _ P4 P5 P6 hl hB) (w283 cx) (w6 cx) (nle rfl) (nle rfl)) (by rw [hml]; rfl) (argsL := [.ref q]) (rest := [.ref x]) (lenOf pd25 rfl) rfl rfl (nle rfl) (hb w d49_2) (nle rfl) (nle rfl) ?_
 rintro T1 h1 _ _ _ X1 ⟨a2, a3, rfl, rfl, rfl, J1, g5, G4⟩
 have ge6 := Nat.le_trans K0.1 g5
 have K7 := K0.trans J1 all0
 have X8 := WS.drop (A := []) (B := WL) X1
 have F9 := P0.1.keep J1
 have F10 := P0.keep J1 nin0 nin0
 refine X8.callV hx (w288 cx) (w106 cx) (w108 cx) (w107 cx) (fun _ hZ => nf hZ (w108 cx)) (by decide) F9 (Ct.pay (W := 0) (ct_sbappN cx x a2 a3 t cap cs ds h1 _ _ F10 G4 P1 P2 hxt hBB) (w109 cx) (w75 cx) (nle rfl) (nle rfl)) (by rw [hml]; rfl) (argsL := [.ref a2]) (rest := []) (lenOf pd26 rfl) rfl rfl (nle rfl) (hb w d49_5) (nle rfl) (nle rfl) ?_
 rintro T11 h11 _ _ _ X11 ⟨rfl, rfl, rfl, J11, G12⟩
 have K13 := K7.trans J11 (allS (Or.inl (mg 0 rfl)) (allS (Or.inl (mg 1 rfl)) all0))
 have X14 := WS.fl (FL2 := FL) X11 (fun y hy => (List.mem_append_right [a2, a3] hy))
 exact WS.retA X14 (WL' := []) (FL' := []) hx hret rfl rfl hlk (hb w d49_8) (nle rfl) (nle rfl) ⟨rfl, rfl, rfl, K13, G12⟩
def Q_acini (Z : State) (x : Addr) (h : Heap) (v : Option Value) (h' : Heap) (WL' FL' : List Addr) : Prop := v = none ∧ WL' = [] ∧ FL' = [] ∧ h' = h
theorem ct_acini (cx : Cx a0 Z gC gF v_AL v_DO k_DO) (x : Addr) (h : Heap) (WL FL : List Addr)  :
   Ct l Z EL1 n0 (⟨"java/util/AbstractCollection", "<init>", "()V"⟩ : MethodName) jdk_22_method_1_code 1 (Option.none : Option Jvm.ClassFile.FieldType) ({ frames := 1, cells := 0, slots := 0, locals := 12 } : Room) #[(.ref x)] h WL FL (Q_acini Z x h) := by
 refine Ct.of (plainFor_of_name pn7) ?_
 intro p e s m below meth c s1 hx w hml hnm hret hlk X0
 refine Wo.cast (f' := (mkF m 0 #[.val (.ref x)] [])) (by rfl) ?_
 show Wo _ _ _ _ _ _ _ _ _ _ _ s1 (mkF m 0 #[.val (.ref x)] [])
 refine P.aloadN X0 hx 1 (hb w d10_0) rfl rfl rfl ?_
 refine X0.initO hx (w61 cx) (w16 cx) (w17 cx) (by rw [hml]; rfl) (hb w d10_1) (nle rfl) (W := 0) (nle rfl) (nle rfl) ?_
 intro T1 X1
 exact WS.retV X1 (WL' := []) (FL' := []) hx hret hlk (hb w d10_4) (nle rfl) (nle rfl) ⟨rfl, rfl, rfl, rfl⟩
def Q_abini (Z : State) (x : Addr) (h : Heap) (v : Option Value) (h' : Heap) (WL' FL' : List Addr) : Prop := v = none ∧ WL' = [] ∧ FL' = [] ∧ Keep h h' [x] ∧ Fld Z h' x "java/util/ArrayList" "elementData" "[Ljava/lang/Object;" .null
theorem ct_abini (cx : Cx a0 Z gC gF v_AL v_DO k_DO) (x : Addr) (h : Heap) (WL FL : List Addr) (P0 : Exa Z h x "java/util/ArrayList") (P1 : Fld Z h x "java/util/AbstractList" "modCount" "I" (.int 0)) (P2 : Fld Z h x "java/util/ArrayList" "elementData" "[Ljava/lang/Object;" .null) (P3 : x ∈ WL) :
   Ct l Z EL1 n0 (⟨"java/util/AbstractList", "<init>", "()V"⟩ : MethodName) jdk_39_method_1_code 1 (Option.none : Option Jvm.ClassFile.FieldType) ({ frames := 2, cells := 0, slots := 0, locals := 24 } : Room) #[(.ref x)] h WL FL (Q_abini Z x h) := by
 refine Ct.of (plainFor_of_name pn8) ?_
 intro p e s m below meth c s1 hx w hml hnm hret hlk X0
 refine Wo.cast (f' := (mkF m 0 #[.val (.ref x)] [])) (by rfl) ?_
 have K0 : Keep h h [x] := Keep.refl _ _
 show Wo _ _ _ _ _ _ _ _ _ _ _ s1 (mkF m 0 #[.val (.ref x)] [])
 refine P.aloadN X0 hx 1 (hb w d9_0) rfl rfl rfl ?_
 refine X0.callC hx rfl (w55 cx) (w56 cx) (w60 cx) (by decide) (Ct.pay (W := 0) (ct_acini cx x h _ _ ) (w60 cx) (w59 cx) (nle rfl) (nle rfl)) (by rw [hml]; rfl) (argsL := []) (rest := []) (lenOf pd27 rfl) rfl rfl (nle rfl) (hb w d9_1) (nle rfl) (nle rfl) ?_
 rintro T1 h1 _ _ _ X1 ⟨rfl, rfl, rfl, J1⟩
 rw [J1] at X1
 refine P.aloadN X1 hx 5 (hb w d9_4) rfl rfl rfl ?_
 refine P.iconst X1 hx 6 0 (hb w d9_5) rfl rfl ?_
 refine X1.putF hx (host := "") (Or.inl (w62 cx)) Via.refl P1 P0 (Or.inl (w63 cx)) (w44 cx) (ty := .int) (by decide) rfl rfl P3 (hb w d9_6) ?_
 intro T2 h2 X2 W2 G2
 have K3 := K0.wr W2 (Or.inl (mg 0 rfl))
 have F4 := P2.other W2 (Or.inr (slot_ne (Or.inl (w66 cx)) (Or.inl (w63 cx)) (by decide) (t := (.array (.object "java/lang/Object"))) (t' := .int) (by decide) (by decide)))
 exact WS.retV X2 (WL' := []) (FL' := []) hx hret hlk (hb w d9_9) (nle rfl) (nle rfl) ⟨rfl, rfl, rfl, K3, F4⟩
def Q_alini (Z : State) (x : Addr) (h : Heap) (v : Option Value) (h' : Heap) (WL' FL' : List Addr) : Prop := v = none ∧ WL' = [] ∧ FL' = [] ∧ Keep h h' [x]
theorem ct_alini (cx : Cx a0 Z gC gF v_AL v_DO k_DO) (x : Addr) (h : Heap) (WL FL : List Addr) (P0 : Exa Z h x "java/util/ArrayList") (P1 : Fld Z h x "java/util/AbstractList" "modCount" "I" (.int 0)) (P2 : Fld Z h x "java/util/ArrayList" "elementData" "[Ljava/lang/Object;" .null) (P3 : x ∈ WL) :
   Ct l Z EL1 n0 (⟨"java/util/ArrayList", "<init>", "()V"⟩ : MethodName) jdk_38_method_2_code 1 (Option.none : Option Jvm.ClassFile.FieldType) ({ frames := 3, cells := 0, slots := 0, locals := 36 } : Room) #[(.ref x)] h WL FL (Q_alini Z x h) := by
 refine Ct.of (plainFor_of_name pn9) ?_
 intro p e s m below meth c s1 hx w hml hnm hret hlk X0
 refine Wo.cast (f' := (mkF m 0 #[.val (.ref x)] [])) (by rfl) ?_
 have K0 : Keep h h [x] := Keep.refl _ _
 show Wo _ _ _ _ _ _ _ _ _ _ _ s1 (mkF m 0 #[.val (.ref x)] [])
 refine P.aloadN X0 hx 1 (hb w d8_0) rfl rfl rfl ?_
 refine X0.callC hx rfl (w49 cx) (w50 cx) (w54 cx) (by decide) (Ct.pay (W := 0) (ct_abini cx x h _ _ P0 P1 P2 P3) (w54 cx) (w53 cx) (nle rfl) (nle rfl)) (by rw [hml]; rfl) (argsL := []) (rest := []) (lenOf pd27 rfl) rfl rfl (nle rfl) (hb w d8_1) (nle rfl) (nle rfl) ?_
 rintro T1 h1 _ _ _ X1 ⟨rfl, rfl, rfl, J1, G2⟩
 have K3 := K0.trans J1 (allS (Or.inl (mg 0 rfl)) all0)
 refine P.aloadN X1 hx 5 (hb w d8_4) rfl rfl rfl ?_
 refine X1.getS hx (w64 cx) Via.refl (S_AL cx) (hb w d8_5) ?_
 intro T4 X4
 have F5 := P0.keep J1
 refine X4.putF hx (host := "") (Or.inl (w65 cx)) Via.refl G2 F5 (Or.inl (w66 cx)) (w44 cx) (ty := (.array (.object "java/lang/Object"))) (by decide) rfl rfl P3 (hb w d8_8) ?_
 intro T6 h6 X6 W6 G6
 have K7 := K3.wr W6 (Or.inl (mg 0 rfl))
 exact WS.retV X6 (WL' := []) (FL' := []) hx hret hlk (hb w d8_11) (nle rfl) (nle rfl) ⟨rfl, rfl, rfl, K7⟩
def Q_aliini (Z : State) (x : Addr) (h : Heap) (v : Option Value) (h' : Heap) (WL' FL' : List Addr) : Prop := v = none ∧ WL' = [] ∧ FL' = [] ∧ h' = h
theorem ct_aliini (cx : Cx a0 Z gC gF v_AL v_DO k_DO) (x : Addr) (h : Heap) (WL FL : List Addr)  :
   Ct l Z EL1 n0 (⟨"com/example/estate4/estate4/jdbc/SelectText$Aliases", "<init>", "()V"⟩ : MethodName) prog_7_method_1_code 1 (Option.none : Option Jvm.ClassFile.FieldType) ({ frames := 1, cells := 0, slots := 0, locals := 12 } : Room) #[(.ref x)] h WL FL (Q_aliini Z x h) := by
 refine Ct.of (plainFor_of_name pn10) ?_
 intro p e s m below meth c s1 hx w hml hnm hret hlk X0
 refine Wo.cast (f' := (mkF m 0 #[.val (.ref x)] [])) (by rfl) ?_
 show Wo _ _ _ _ _ _ _ _ _ _ _ s1 (mkF m 0 #[.val (.ref x)] [])
 refine P.aloadN X0 hx 1 (hb w d6_0) rfl rfl rfl ?_
 refine X0.initO hx (w38 cx) (w16 cx) (w17 cx) (by rw [hml]; rfl) (hb w d6_1) (nle rfl) (W := 0) (nle rfl) (nle rfl) ?_
 intro T1 X1
 exact WS.retV X1 (WL' := []) (FL' := []) hx hret hlk (hb w d6_4) (nle rfl) (nle rfl) ⟨rfl, rfl, rfl, rfl⟩
def Q_next0 (Z : State) (x : Addr) (h : Heap) (v : Option Value) (h' : Heap) (WL' FL' : List Addr) : Prop := ∃ r : Addr, ∃ u : Addr, v = some (.ref r) ∧ WL' = [r] ∧ FL' = [u] ∧ Keep h h' [x] ∧ h.size ≤ r ∧ StrL Z h' r u [(116 : Int32), 48] ∧ Fld Z h' x "com/example/estate4/estate4/jdbc/SelectText$Aliases" "handedOut" "I" (.int 1)
theorem ct_next0 (cx : Cx a0 Z gC gF v_AL v_DO k_DO) (x : Addr) (h : Heap) (WL FL : List Addr) (P0 : Exa Z h x "com/example/estate4/estate4/jdbc/SelectText$Aliases") (P1 : Fld Z h x "com/example/estate4/estate4/jdbc/SelectText$Aliases" "handedOut" "I" (.int 0)) (P2 : x ∈ WL) :
   Ct l Z EL1 n0 (⟨"com/example/estate4/estate4/jdbc/SelectText$Aliases", "next", "()Ljava/lang/String;"⟩ : MethodName) prog_7_method_2_code 2 (Option.some (FieldType.object "java/lang/String")) ({ frames := 6, cells := 6, slots := 102, locals := 91 } : Room) #[(.ref x)] h WL FL (Q_next0 Z x h) := by
 refine Ct.of (plainFor_of_name pn10) ?_
 intro p e s m below meth c s1 hx w hml hnm hret hlk X0
 refine Wo.cast (f' := (mkF m 0 #[.val (.ref x), .unset] [])) (by rfl) ?_
 have K0 : Keep h h [x] := Keep.refl _ _
 show Wo _ _ _ _ _ _ _ _ _ _ _ s1 (mkF m 0 #[.val (.ref x), .unset] [])
 refine X0.newO hx (w102 cx) (w74 cx) (w75 cx) (hb w d13_0) (nle rfl) (nle rfl) ?_
 intro T1 h1 a1 X1 E1 g1 A1 D1
 have ge2 := Nat.le_trans K0.1 g1
 have K3 := K0.ext E1
 have D4 : Fld Z h1 a1 "java/lang/AbstractStringBuilder" "value" "[B" .null := D1 (Or.inl (w88 cx)) (ty := (.array .byte)) (by decide)
 have D5 : Fld Z h1 a1 "java/lang/AbstractStringBuilder" "coder" "B" (.int 0) := D1 (Or.inl (w90 cx)) (ty := .byte) (by decide)
 have D6 : Fld Z h1 a1 "java/lang/AbstractStringBuilder" "count" "I" (.int 0) := D1 (Or.inl (w127 cx)) (ty := .int) (by decide)
 refine P.dup X1 hx 4 (hb w d13_3) rfl rfl ?_
 refine X1.callC hx rfl (w103 cx) (w77 cx) (w78 cx) (by decide) (Ct.pay (W := 1) (ct_sbini cx a1 h1 _ _ A1 D4 D5 D6 (mg 0 rfl)) (w78 cx) (w75 cx) (nle rfl) (nle rfl)) (by rw [hml]; rfl) (argsL := []) (rest := [.ref a1]) (lenOf pd27 rfl) rfl rfl (nle rfl) (hb w d13_4) (nle rfl) (nle rfl) ?_
 rintro T7 h7 _ _ _ X7 ⟨a8, rfl, rfl, rfl, J7, g10, G9⟩
 have ge11 := Nat.le_trans K3.1 g10
 have K12 := K3.trans J7 (allS (Or.inr ge2) all0)
 refine X7.ldc hx (w104 cx) (strAtoms cx) (by decide) (vs := [(.int 116)]) (z := (1 : Int32)) ⟨by decide, by decide⟩ (by decide) rfl (hb w d13_7) (n := 4) (nle rfl) (nle rfl) (nle rfl) (nle rfl) ?_
 intro T13 h13 a13 b13 k13 X13 E13 A13 C13 V13 B13
 have K14 := K12.ext E13
 have S15 : StrL Z h13 a13 b13 [(116 : Int32)] := ⟨A13, V13, C13, ⟨_, B13⟩, (by decide), nle rfl⟩
 have F16 := G9.1.ext E13
 have F17 := G9.ext E13
 refine X13.callV hx (w105 cx) (w106 cx) (w108 cx) (w107 cx) (fun _ hZ => nf hZ (w108 cx)) (by decide) F16 (Ct.pay (W := 0) (ct_sbappN cx a1 a13 b13 a8 16 ([]) ([(116 : Int32)]) h13 _ _ F17 S15 (mg 1 rfl) (mg 0 rfl) (X13.ne (i := 1) (j := 0) rfl rfl (by decide)) (nle rfl)) (w109 cx) (w75 cx) (nle rfl) (nle rfl)) (by rw [hml]; rfl) (argsL := [.ref a13]) (rest := []) (lenOf pd26 rfl) rfl rfl (nle rfl) (hb w d13_9) (nle rfl) (nle rfl) ?_
 rintro T18 h18 _ _ _ X18 ⟨rfl, rfl, rfl, J18, G19⟩
 have K20 := K14.trans J18 (allS (Or.inr ge2) (allS (Or.inr ge11) all0))
 refine P.aloadN X18 hx 13 (hb w d13_12) rfl rfl rfl ?_
 have F21 := (((P1.ext E1).keep J7 (ninS (Ne.symm (X18.neT (A := [a8, a1]) (B := WL) (mg 1 rfl) P2)) nin0)).ext E13).keep J18 (ninS (Ne.symm (X18.neT (A := [a8, a1]) (B := WL) (mg 1 rfl) P2)) (ninS (Ne.symm (X18.neT (A := [a8, a1]) (B := WL) (mg 0 rfl) P2)) nin0))
 refine X18.getF hx (host := "") (Or.inl (w153 cx)) Via.refl F21 (hb w d13_13) ?_
 intro T22 X22
 refine X22.callV hx (w155 cx) (w156 cx) (w158 cx) (w157 cx) (fun _ hZ => nf hZ (w158 cx)) (by decide) G19.1 (Ct.pay (W := 0) (ct_sbapi0 cx a1 a8 16 ([] ++ [(116 : Int32)]) h18 _ _ G19 (mg 1 rfl) (mg 0 rfl) (X22.ne (i := 1) (j := 0) rfl rfl (by decide)) (nle rfl)) (w159 cx) (w75 cx) (nle rfl) (nle rfl)) (by rw [hml]; rfl) (argsL := [.int 0]) (rest := []) (lenOf pd28 rfl) rfl rfl (nle rfl) (hb w d13_16) (nle rfl) (nle rfl) ?_
 rintro T23 h23 _ _ _ X23 ⟨rfl, rfl, rfl, J23, G24⟩
 have K25 := K20.trans J23 (allS (Or.inr ge2) (allS (Or.inr ge11) all0))
 refine X23.callV hx (w177 cx) (w178 cx) (w180 cx) (w179 cx) (fun _ hZ => nf hZ (w180 cx)) (by decide) G24.1 (Ct.pay (W := 0) (ct_sbstr cx a1 a8 16 (([] ++ [(116 : Int32)]) ++ [(48 : Int32)]) h23 _ _ G24 (mg 1 rfl) (mg 0 rfl) (nlt rfl) (nle rfl)) (w181 cx) (w75 cx) (nle rfl) (nle rfl)) (by rw [hml]; rfl) (argsL := []) (rest := []) (lenOf pd24 rfl) rfl rfl (nle rfl) (hb w d13_19) (nle rfl) (nle rfl) ?_
 rintro T26 h26 _ _ _ X26 ⟨a27, a28, rfl, rfl, rfl, J26, g30, G29⟩
 have ge31 := Nat.le_trans K25.1 g30
 have K32 := K25.trans J26 all0
 have S33 : StrL Z h26 a27 a28 [(116 : Int32), 48] := G29
 refine P.astoreN X26 hx 23 #[.val (.ref x), .val (.ref a27)] (hb w d13_22) rfl rfl rfl ?_
 refine P.aloadN X26 hx 24 (hb w d13_23) rfl rfl rfl ?_
 refine P.dup X26 hx 25 (hb w d13_24) rfl rfl ?_
 have F34 := (F21.keep J23 (ninS (Ne.symm (X26.neT (A := [a27, a8, a1]) (B := WL) (mg 2 rfl) P2)) (ninS (Ne.symm (X26.neT (A := [a27, a8, a1]) (B := WL) (mg 1 rfl) P2)) nin0))).keep J26 nin0
 refine X26.getF hx (host := "") (Or.inl (w153 cx)) Via.refl F34 (hb w d13_25) ?_
 intro T35 X35
 refine P.iconst X35 hx 29 1 (hb w d13_28) rfl rfl ?_
 refine P.iadd X35 hx 30 (z := (1 : Int32)) (hb w d13_29) rfl rfl ?_
 have F36 := (((((P0.ext E1).keep J7).ext E13).keep J18).keep J23).keep J26
 refine X35.putF hx (host := "") (Or.inl (w153 cx)) Via.refl F34 F36 (Or.inl (w154 cx)) (w33 cx) (ty := .int) (by decide) rfl rfl (mc (mc (mc P2))) (hb w d13_30) ?_
 intro T37 h37 X37 W37 G37
 have K38 := K32.wr W37 (Or.inl (mg 0 rfl))
 refine P.aloadN X37 hx 34 (hb w d13_33) rfl rfl rfl ?_
 have F39 := S33.wr W37 (X37.neT (A := [a27, a8, a1]) (B := WL) (mg 0 rfl) P2) (X37.neF (mg 0 rfl) (mc (mc (mc P2))))
 have X40 := WS.drop (A := [a27]) (B := (a1 :: WL)) X37
 have X41 := WS.drop (A := [a27]) (B := WL) X40
 have X42 := WS.fl (FL2 := (a28 :: FL)) X41 (fun y hy => (List.mem_cons.mp hy).elim (fun q => q ▸ (mg 2 rfl)) (fun q0 => (List.mem_append_right [a1, a8, a28, a13, b13] q0)))
 exact WS.retA X42 (WL' := [a27]) (FL' := [a28]) hx hret rfl rfl hlk (hb w d13_34) (nle rfl) (nle rfl) ⟨a27, a28, rfl, rfl, rfl, K38, ge31, F39, G37⟩
def Q_next1 (Z : State) (x : Addr) (h : Heap) (v : Option Value) (h' : Heap) (WL' FL' : List Addr) : Prop := ∃ r : Addr, ∃ u : Addr, v = some (.ref r) ∧ WL' = [r] ∧ FL' = [u] ∧ Keep h h' [x] ∧ h.size ≤ r ∧ StrL Z h' r u [(116 : Int32), 49] ∧ Fld Z h' x "com/example/estate4/estate4/jdbc/SelectText$Aliases" "handedOut" "I" (.int 2)
theorem ct_next1 (cx : Cx a0 Z gC gF v_AL v_DO k_DO) (x : Addr) (h : Heap) (WL FL : List Addr) (P0 : Exa Z h x "com/example/estate4/estate4/jdbc/SelectText$Aliases") (P1 : Fld Z h x "com/example/estate4/estate4/jdbc/SelectText$Aliases" "handedOut" "I" (.int 1)) (P2 : x ∈ WL) :
   Ct l Z EL1 n0 (⟨"com/example/estate4/estate4/jdbc/SelectText$Aliases", "next", "()Ljava/lang/String;"⟩ : MethodName) prog_7_method_2_code 2 (Option.some (FieldType.object "java/lang/String")) ({ frames := 6, cells := 6, slots := 102, locals := 91 } : Room) #[(.ref x)] h WL FL (Q_next1 Z x h) := by
 refine Ct.of (plainFor_of_name pn10) ?_
 intro p e s m below meth c s1 hx w hml hnm hret hlk X0
 refine Wo.cast (f' := (mkF m 0 #[.val (.ref x), .unset] [])) (by rfl) ?_
 have K0 : Keep h h [x] := Keep.refl _ _
 show Wo _ _ _ _ _ _ _ _ _ _ _ s1 (mkF m 0 #[.val (.ref x), .unset] [])
 refine X0.newO hx (w102 cx) (w74 cx) (w75 cx) (hb w d13_0) (nle rfl) (nle rfl) ?_
 intro T1 h1 a1 X1 E1 g1 A1 D1
 have ge2 := Nat.le_trans K0.1 g1
 have K3 := K0.ext E1
 have D4 : Fld Z h1 a1 "java/lang/AbstractStringBuilder" "value" "[B" .null := D1 (Or.inl (w88 cx)) (ty := (.array .byte)) (by decide)
 have D5 : Fld Z h1 a1 "java/lang/AbstractStringBuilder" "coder" "B" (.int 0) := D1 (Or.inl (w90 cx)) (ty := .byte) (by decide)
 have D6 : Fld Z h1 a1 "java/lang/AbstractStringBuilder" "count" "I" (.int 0) := D1 (Or.inl (w127 cx)) (ty := .int) (by decide)
 refine P.dup X1 hx 4 (hb w d13_3) rfl rfl ?_
 refine X1.callC hx rfl (w103 cx) (w77 cx) (w78 cx) (by decide) (Ct.pay (W := 1) (ct_sbini cx a1 h1 _ _ A1 D4 D5 D6 (mg 0 rfl)) (w78 cx) (w75 cx) (nle rfl) (nle rfl)) (by rw [hml]; rfl) (argsL := []) (rest := [.ref a1]) (lenOf pd27 rfl) rfl rfl (nle rfl) (hb w d13_4) (nle rfl) (nle rfl) ?_
 rintro T7 h7 _ _ _ X7 ⟨a8, rfl, rfl, rfl, J7, g10, G9⟩
 have ge11 := Nat.le_trans K3.1 g10
 have K12 := K3.trans J7 (allS (Or.inr ge2) all0)
 refine X7.ldc hx (w104 cx) (strAtoms cx) (by decide) (vs := [(.int 116)]) (z := (1 : Int32)) ⟨by decide, by decide⟩ (by decide) rfl (hb w d13_7) (n := 4) (nle rfl) (nle rfl) (nle rfl) (nle rfl) ?_
 intro T13 h13 a13 b13 k13 X13 E13 A13 C13 V13 B13
 have K14 := K12.ext E13
 have S15 : StrL Z h13 a13 b13 [(116 : Int32)] := ⟨A13, V13, C13, ⟨_, B13⟩, (by decide), nle rfl⟩
 have F16 := G9.1.ext E13
 have F17 := G9.ext E13
 refine X13.callV hx (w105 cx) (w106 cx) (w108 cx) (w107 cx) (fun _ hZ => nf hZ (w108 cx)) (by decide) F16 (Ct.pay (W := 0) (ct_sbappN cx a1 a13 b13 a8 16 ([]) ([(116 : Int32)]) h13 _ _ F17 S15 (mg 1 rfl) (mg 0 rfl) (X13.ne (i := 1) (j := 0) rfl rfl (by decide)) (nle rfl)) (w109 cx) (w75 cx) (nle rfl) (nle rfl)) (by rw [hml]; rfl) (argsL := [.ref a13]) (rest := []) (lenOf pd26 rfl) rfl rfl (nle rfl) (hb w d13_9) (nle rfl) (nle rfl) ?_
 rintro T18 h18 _ _ _ X18 ⟨rfl, rfl, rfl, J18, G19⟩
 have K20 := K14.trans J18 (allS (Or.inr ge2) (allS (Or.inr ge11) all0))
 refine P.aloadN X18 hx 13 (hb w d13_12) rfl rfl rfl ?_
 have F21 := (((P1.ext E1).keep J7 (ninS (Ne.symm (X18.neT (A := [a8, a1]) (B := WL) (mg 1 rfl) P2)) nin0)).ext E13).keep J18 (ninS (Ne.symm (X18.neT (A := [a8, a1]) (B := WL) (mg 1 rfl) P2)) (ninS (Ne.symm (X18.neT (A := [a8, a1]) (B := WL) (mg 0 rfl) P2)) nin0))
 refine X18.getF hx (host := "") (Or.inl (w153 cx)) Via.refl F21 (hb w d13_13) ?_
 intro T22 X22
 refine X22.callV hx (w155 cx) (w156 cx) (w158 cx) (w157 cx) (fun _ hZ => nf hZ (w158 cx)) (by decide) G19.1 (Ct.pay (W := 0) (ct_sbapi1 cx a1 a8 16 ([] ++ [(116 : Int32)]) h18 _ _ G19 (mg 1 rfl) (mg 0 rfl) (X22.ne (i := 1) (j := 0) rfl rfl (by decide)) (nle rfl)) (w159 cx) (w75 cx) (nle rfl) (nle rfl)) (by rw [hml]; rfl) (argsL := [.int 1]) (rest := []) (lenOf pd28 rfl) rfl rfl (nle rfl) (hb w d13_16) (nle rfl) (nle rfl) ?_
 rintro T23 h23 _ _ _ X23 ⟨rfl, rfl, rfl, J23, G24⟩
 have K25 := K20.trans J23 (allS (Or.inr ge2) (allS (Or.inr ge11) all0))
 refine X23.callV hx (w177 cx) (w178 cx) (w180 cx) (w179 cx) (fun _ hZ => nf hZ (w180 cx)) (by decide) G24.1 (Ct.pay (W := 0) (ct_sbstr cx a1 a8 16 (([] ++ [(116 : Int32)]) ++ [(49 : Int32)]) h23 _ _ G24 (mg 1 rfl) (mg 0 rfl) (nlt rfl) (nle rfl)) (w181 cx) (w75 cx) (nle rfl) (nle rfl)) (by rw [hml]; rfl) (argsL := []) (rest := []) (lenOf pd24 rfl) rfl rfl (nle rfl) (hb w d13_19) (nle rfl) (nle rfl) ?_
 rintro T26 h26 _ _ _ X26 ⟨a27, a28, rfl, rfl, rfl, J26, g30, G29⟩
 have ge31 := Nat.le_trans K25.1 g30
 have K32 := K25.trans J26 all0
 have S33 : StrL Z h26 a27 a28 [(116 : Int32), 49] := G29
 refine P.astoreN X26 hx 23 #[.val (.ref x), .val (.ref a27)] (hb w d13_22) rfl rfl rfl ?_
 refine P.aloadN X26 hx 24 (hb w d13_23) rfl rfl rfl ?_
 refine P.dup X26 hx 25 (hb w d13_24) rfl rfl ?_
 have F34 := (F21.keep J23 (ninS (Ne.symm (X26.neT (A := [a27, a8, a1]) (B := WL) (mg 2 rfl) P2)) (ninS (Ne.symm (X26.neT (A := [a27, a8, a1]) (B := WL) (mg 1 rfl) P2)) nin0))).keep J26 nin0
 refine X26.getF hx (host := "") (Or.inl (w153 cx)) Via.refl F34 (hb w d13_25) ?_
 intro T35 X35
 refine P.iconst X35 hx 29 1 (hb w d13_28) rfl rfl ?_
 refine P.iadd X35 hx 30 (z := (2 : Int32)) (hb w d13_29) rfl rfl ?_
 have F36 := (((((P0.ext E1).keep J7).ext E13).keep J18).keep J23).keep J26
 refine X35.putF hx (host := "") (Or.inl (w153 cx)) Via.refl F34 F36 (Or.inl (w154 cx)) (w33 cx) (ty := .int) (by decide) rfl rfl (mc (mc (mc P2))) (hb w d13_30) ?_
 intro T37 h37 X37 W37 G37
 have K38 := K32.wr W37 (Or.inl (mg 0 rfl))
 refine P.aloadN X37 hx 34 (hb w d13_33) rfl rfl rfl ?_
 have F39 := S33.wr W37 (X37.neT (A := [a27, a8, a1]) (B := WL) (mg 0 rfl) P2) (X37.neF (mg 0 rfl) (mc (mc (mc P2))))
 have X40 := WS.drop (A := [a27]) (B := (a1 :: WL)) X37
 have X41 := WS.drop (A := [a27]) (B := WL) X40
 have X42 := WS.fl (FL2 := (a28 :: FL)) X41 (fun y hy => (List.mem_cons.mp hy).elim (fun q => q ▸ (mg 2 rfl)) (fun q0 => (List.mem_append_right [a1, a8, a28, a13, b13] q0)))
 exact WS.retA X42 (WL' := [a27]) (FL' := [a28]) hx hret rfl rfl hlk (hb w d13_34) (nle rfl) (nle rfl) ⟨a27, a28, rfl, rfl, rfl, K38, ge31, F39, G37⟩
def Q_next2 (Z : State) (x : Addr) (h : Heap) (v : Option Value) (h' : Heap) (WL' FL' : List Addr) : Prop := ∃ r : Addr, ∃ u : Addr, v = some (.ref r) ∧ WL' = [r] ∧ FL' = [u] ∧ Keep h h' [x] ∧ h.size ≤ r ∧ StrL Z h' r u [(116 : Int32), 50] ∧ Fld Z h' x "com/example/estate4/estate4/jdbc/SelectText$Aliases" "handedOut" "I" (.int 3)
theorem ct_next2 (cx : Cx a0 Z gC gF v_AL v_DO k_DO) (x : Addr) (h : Heap) (WL FL : List Addr) (P0 : Exa Z h x "com/example/estate4/estate4/jdbc/SelectText$Aliases") (P1 : Fld Z h x "com/example/estate4/estate4/jdbc/SelectText$Aliases" "handedOut" "I" (.int 2)) (P2 : x ∈ WL) :
   Ct l Z EL1 n0 (⟨"com/example/estate4/estate4/jdbc/SelectText$Aliases", "next", "()Ljava/lang/String;"⟩ : MethodName) prog_7_method_2_code 2 (Option.some (FieldType.object "java/lang/String")) ({ frames := 6, cells := 6, slots := 102, locals := 91 } : Room) #[(.ref x)] h WL FL (Q_next2 Z x h) := by
 refine Ct.of (plainFor_of_name pn10) ?_
 intro p e s m below meth c s1 hx w hml hnm hret hlk X0
 refine Wo.cast (f' := (mkF m 0 #[.val (.ref x), .unset] [])) (by rfl) ?_
 have K0 : Keep h h [x] := Keep.refl _ _
 show Wo _ _ _ _ _ _ _ _ _ _ _ s1 (mkF m 0 #[.val (.ref x), .unset] [])
 refine X0.newO hx (w102 cx) (w74 cx) (w75 cx) (hb w d13_0) (nle rfl) (nle rfl) ?_
 intro T1 h1 a1 X1 E1 g1 A1 D1
 have ge2 := Nat.le_trans K0.1 g1
 have K3 := K0.ext E1
 have D4 : Fld Z h1 a1 "java/lang/AbstractStringBuilder" "value" "[B" .null := D1 (Or.inl (w88 cx)) (ty := (.array .byte)) (by decide)
 have D5 : Fld Z h1 a1 "java/lang/AbstractStringBuilder" "coder" "B" (.int 0) := D1 (Or.inl (w90 cx)) (ty := .byte) (by decide)
 have D6 : Fld Z h1 a1 "java/lang/AbstractStringBuilder" "count" "I" (.int 0) := D1 (Or.inl (w127 cx)) (ty := .int) (by decide)
 refine P.dup X1 hx 4 (hb w d13_3) rfl rfl ?_
 refine X1.callC hx rfl (w103 cx) (w77 cx) (w78 cx) (by decide) (Ct.pay (W := 1) (ct_sbini cx a1 h1 _ _ A1 D4 D5 D6 (mg 0 rfl)) (w78 cx) (w75 cx) (nle rfl) (nle rfl)) (by rw [hml]; rfl) (argsL := []) (rest := [.ref a1]) (lenOf pd27 rfl) rfl rfl (nle rfl) (hb w d13_4) (nle rfl) (nle rfl) ?_
 rintro T7 h7 _ _ _ X7 ⟨a8, rfl, rfl, rfl, J7, g10, G9⟩
 have ge11 := Nat.le_trans K3.1 g10
 have K12 := K3.trans J7 (allS (Or.inr ge2) all0)
 refine X7.ldc hx (w104 cx) (strAtoms cx) (by decide) (vs := [(.int 116)]) (z := (1 : Int32)) ⟨by decide, by decide⟩ (by decide) rfl (hb w d13_7) (n := 4) (nle rfl) (nle rfl) (nle rfl) (nle rfl) ?_
 intro T13 h13 a13 b13 k13 X13 E13 A13 C13 V13 B13
 have K14 := K12.ext E13
 have S15 : StrL Z h13 a13 b13 [(116 : Int32)] := ⟨A13, V13, C13, ⟨_, B13⟩, (by decide), nle rfl⟩
 have F16 := G9.1.ext E13
 have F17 := G9.ext E13
 refine X13.callV hx (w105 cx) (w106 cx) (w108 cx) (w107 cx) (fun _ hZ => nf hZ (w108 cx)) (by decide) F16 (Ct.pay (W := 0) (ct_sbappN cx a1 a13 b13 a8 16 ([]) ([(116 : Int32)]) h13 _ _ F17 S15 (mg 1 rfl) (mg 0 rfl) (X13.ne (i := 1) (j := 0) rfl rfl (by decide)) (nle rfl)) (w109 cx) (w75 cx) (nle rfl) (nle rfl)) (by rw [hml]; rfl) (argsL := [.ref a13]) (rest := []) (lenOf pd26 rfl) rfl rfl (nle rfl) (hb w d13_9) (nle rfl) (nle rfl) ?_
 rintro T18 h18 _ _ _ X18 ⟨rfl, rfl, rfl, J18, G19⟩
 have K20 := K14.trans J18 (allS (Or.inr ge2) (allS (Or.inr ge11) all0))
 refine P.aloadN X18 hx 13 (hb w d13_12) rfl rfl rfl ?_
 have F21 := (((P1.ext E1).keep J7 (ninS (Ne.symm (X18.neT (A := [a8, a1]) (B := WL) (mg 1 rfl) P2)) nin0)).ext E13).keep J18 (ninS (Ne.symm (X18.neT (A := [a8, a1]) (B := WL) (mg 1 rfl) P2)) (ninS (Ne.symm (X18.neT (A := [a8, a1]) (B := WL) (mg 0 rfl) P2)) nin0))
 refine X18.getF hx (host := "") (Or.inl (w153 cx)) Via.refl F21 (hb w d13_13) ?_
 intro T22 X22
 refine X22.callV hx (w155 cx) (w156 cx) (w158 cx) (w157 cx) (fun _ hZ => nf hZ (w158 cx)) (by decide) G19.1 (Ct.pay (W := 0) (ct_sbapi2 cx a1 a8 16 ([] ++ [(116 : Int32)]) h18 _ _ G19 (mg 1 rfl) (mg 0 rfl) (X22.ne (i := 1) (j := 0) rfl rfl (by decide)) (nle rfl)) (w159 cx) (w75 cx) (nle rfl) (nle rfl)) (by rw [hml]; rfl) (argsL := [.int 2]) (rest := []) (lenOf pd28 rfl) rfl rfl (nle rfl) (hb w d13_16) (nle rfl) (nle rfl) ?_
 rintro T23 h23 _ _ _ X23 ⟨rfl, rfl, rfl, J23, G24⟩
 have K25 := K20.trans J23 (allS (Or.inr ge2) (allS (Or.inr ge11) all0))
 refine X23.callV hx (w177 cx) (w178 cx) (w180 cx) (w179 cx) (fun _ hZ => nf hZ (w180 cx)) (by decide) G24.1 (Ct.pay (W := 0) (ct_sbstr cx a1 a8 16 (([] ++ [(116 : Int32)]) ++ [(50 : Int32)]) h23 _ _ G24 (mg 1 rfl) (mg 0 rfl) (nlt rfl) (nle rfl)) (w181 cx) (w75 cx) (nle rfl) (nle rfl)) (by rw [hml]; rfl) (argsL := []) (rest := []) (lenOf pd24 rfl) rfl rfl (nle rfl) (hb w d13_19) (nle rfl) (nle rfl) ?_
 rintro T26 h26 _ _ _ X26 ⟨a27, a28, rfl, rfl, rfl, J26, g30, G29⟩
 have ge31 := Nat.le_trans K25.1 g30
 have K32 := K25.trans J26 all0
 have S33 : StrL Z h26 a27 a28 [(116 : Int32), 50] := G29
 refine P.astoreN X26 hx 23 #[.val (.ref x), .val (.ref a27)] (hb w d13_22) rfl rfl rfl ?_
 refine P.aloadN X26 hx 24 (hb w d13_23) rfl rfl rfl ?_
 refine P.dup X26 hx 25 (hb w d13_24) rfl rfl ?_
 have F34 := (F21.keep J23 (ninS (Ne.symm (X26.neT (A := [a27, a8, a1]) (B := WL) (mg 2 rfl) P2)) (ninS (Ne.symm (X26.neT (A := [a27, a8, a1]) (B := WL) (mg 1 rfl) P2)) nin0))).keep J26 nin0
 refine X26.getF hx (host := "") (Or.inl (w153 cx)) Via.refl F34 (hb w d13_25) ?_
 intro T35 X35
 refine P.iconst X35 hx 29 1 (hb w d13_28) rfl rfl ?_
 refine P.iadd X35 hx 30 (z := (3 : Int32)) (hb w d13_29) rfl rfl ?_
 have F36 := (((((P0.ext E1).keep J7).ext E13).keep J18).keep J23).keep J26
 refine X35.putF hx (host := "") (Or.inl (w153 cx)) Via.refl F34 F36 (Or.inl (w154 cx)) (w33 cx) (ty := .int) (by decide) rfl rfl (mc (mc (mc P2))) (hb w d13_30) ?_
 intro T37 h37 X37 W37 G37
 have K38 := K32.wr W37 (Or.inl (mg 0 rfl))
 refine P.aloadN X37 hx 34 (hb w d13_33) rfl rfl rfl ?_
 have F39 := S33.wr W37 (X37.neT (A := [a27, a8, a1]) (B := WL) (mg 0 rfl) P2) (X37.neF (mg 0 rfl) (mc (mc (mc P2))))
 have X40 := WS.drop (A := [a27]) (B := (a1 :: WL)) X37
 have X41 := WS.drop (A := [a27]) (B := WL) X40
 have X42 := WS.fl (FL2 := (a28 :: FL)) X41 (fun y hy => (List.mem_cons.mp hy).elim (fun q => q ▸ (mg 2 rfl)) (fun q0 => (List.mem_append_right [a1, a8, a28, a13, b13] q0)))
 exact WS.retA X42 (WL' := [a27]) (FL' := [a28]) hx hret rfl rfl hlk (hb w d13_34) (nle rfl) (nle rfl) ⟨a27, a28, rfl, rfl, rfl, K38, ge31, F39, G37⟩
def Q_nextg (Z : State) (x : Addr) (kk : Int32) (k1 : Int32) (dd : Int32) (h : Heap) (v : Option Value) (h' : Heap) (WL' FL' : List Addr) : Prop := ∃ r : Addr, ∃ u : Addr, v = some (.ref r) ∧ WL' = [r] ∧ FL' = [u] ∧ Keep h h' [x] ∧ h.size ≤ r ∧ StrL Z h' r u [(116 : Int32), dd] ∧ Fld Z h' x "com/example/estate4/estate4/jdbc/SelectText$Aliases" "handedOut" "I" (.int k1)
theorem ct_nextg (cx : Cx a0 Z gC gF v_AL v_DO k_DO) (x : Addr) (kk : Int32) (k1 : Int32) (dd : Int32) (h : Heap) (WL FL : List Addr) (P0 : Exa Z h x "com/example/estate4/estate4/jdbc/SelectText$Aliases") (P1 : Fld Z h x "com/example/estate4/estate4/jdbc/SelectText$Aliases" "handedOut" "I" (.int kk)) (P2 : x ∈ WL) (hkd : (kk = 0 ∧ k1 = 1 ∧ dd = 48) ∨ (kk = 1 ∧ k1 = 2 ∧ dd = 49) ∨ (kk = 2 ∧ k1 = 3 ∧ dd = 50)) :
   Ct l Z EL1 n0 (⟨"com/example/estate4/estate4/jdbc/SelectText$Aliases", "next", "()Ljava/lang/String;"⟩ : MethodName) prog_7_method_2_code 2 (Option.some (FieldType.object "java/lang/String")) ({ frames := 6, cells := 6, slots := 102, locals := 91 } : Room) #[(.ref x)] h WL FL (Q_nextg Z x kk k1 dd h) := by
 rcases hkd with ⟨rfl, rfl, rfl⟩ | ⟨rfl, rfl, rfl⟩ | ⟨rfl, rfl, rfl⟩
 · exact ct_next0 cx x h WL FL P0 P1 P2
 · exact ct_next1 cx x h WL FL P0 P1 P2
 · exact ct_next2 cx x h WL FL P0 P1 P2
def Q_selini (Z : State) (x : Addr) (g : Addr) (gu : Addr) (ds : List Int32) (al : Addr) (kk : Int32) (k1 : Int32) (dd : Int32) (h : Heap) (v : Option Value) (h' : Heap) (WL' FL' : List Addr) : Prop := ∃ f : Addr, ∃ ft : Addr, v = none ∧ WL' = [ft, f] ∧ FL' = [] ∧ Keep h h' [x, al] ∧ h.size ≤ ft ∧ h.size ≤ f ∧ Fld Z h' x "com/example/estate4/estate4/jdbc/SelectText" "from" "Ljava/lang/StringBuilder;" (.ref f) ∧ Fld Z h' x "com/example/estate4/estate4/jdbc/SelectText" "aliases" "Lcom/example/estate4/estate4/jdbc/SelectText$Aliases;" (.ref al) ∧ SB Z h' f ft 16 ((([] ++ ds) ++ [(32 : Int32)]) ++ [(116 : Int32), dd]) ∧ Fld Z h' al "com/example/estate4/estate4/jdbc/SelectText$Aliases" "handedOut" "I" (.int k1) ∧ Fld Z h' x "com/example/estate4/estate4/jdbc/SelectText" "joins" "Z" (.int 0)
theorem ct_selini (cx : Cx a0 Z gC gF v_AL v_DO k_DO) (x : Addr) (g : Addr) (gu : Addr) (ds : List Int32) (al : Addr) (kk : Int32) (k1 : Int32) (dd : Int32) (h : Heap) (WL FL : List Addr) (P0 : Exa Z h x "com/example/estate4/estate4/jdbc/SelectText") (P1 : Fld Z h x "com/example/estate4/estate4/jdbc/SelectText" "columns" "Ljava/util/List;" .null) (P2 : Fld Z h x "com/example/estate4/estate4/jdbc/SelectText" "tableColumns" "Ljava/util/List;" .null) (P3 : Fld Z h x "com/example/estate4/estate4/jdbc/SelectText" "grouping" "Ljava/util/List;" .null) (P4 : Fld Z h x "com/example/estate4/estate4/jdbc/SelectText" "from" "Ljava/lang/StringBuilder;" .null) (P5 : Fld Z h x "com/example/estate4/estate4/jdbc/SelectText" "aliases" "Lcom/example/estate4/estate4/jdbc/SelectText$Aliases;" .null) (P6 : Fld Z h x "com/example/estate4/estate4/jdbc/SelectText" "table" "Ljava/lang/String;" .null) (P7 : Fld Z h x "com/example/estate4/estate4/jdbc/SelectText" "first" "Ljava/lang/String;" .null) (P8 : Fld Z h x "com/example/estate4/estate4/jdbc/SelectText" "joins" "Z" (.int 0)) (P9 : x ∈ WL) (P10 : StrL Z h g gu ds) (P11 : g ∈ FL) (P12 : gu ∈ FL) (P13 : Exa Z h al "com/example/estate4/estate4/jdbc/SelectText$Aliases") (P14 : Fld Z h al "com/example/estate4/estate4/jdbc/SelectText$Aliases" "handedOut" "I" (.int kk)) (P15 : al ∈ WL) (hxa : x ≠ al) (hd : ds.length ≤ 4) (hkd : (kk = 0 ∧ k1 = 1 ∧ dd = 48) ∨ (kk = 1 ∧ k1 = 2 ∧ dd = 49) ∨ (kk = 2 ∧ k1 = 3 ∧ dd = 50)) :
   Ct l Z EL1 n0 (⟨"com/example/estate4/estate4/jdbc/SelectText", "<init>", "(Ljava/lang/String;Lcom/example/estate4/estate4/jdbc/SelectText$Aliases;)V"⟩ : MethodName) prog_6_method_2_code 3 (Option.none : Option Jvm.ClassFile.FieldType) ({ frames := 7, cells := 11, slots := 131, locals := 105 } : Room) #[(.ref x), (.ref g), (.ref al)] h WL FL (Q_selini Z x g gu ds al kk k1 dd h) := by
 refine Ct.of (plainFor_of_name pn11) ?_
 intro p e s m below meth c s1 hx w hml hnm hret hlk X0
 refine Wo.cast (f' := (mkF m 0 #[.val (.ref x), .val (.ref g), .val (.ref al)] [])) (by rfl) ?_
 have K0 : Keep h h [x, al] := Keep.refl _ _
 show Wo _ _ _ _ _ _ _ _ _ _ _ s1 (mkF m 0 #[.val (.ref x), .val (.ref g), .val (.ref al)] [])
 refine P.aloadN X0 hx 1 (hb w d7_0) rfl rfl rfl ?_
 refine X0.initO hx (w42 cx) (w16 cx) (w17 cx) (by rw [hml]; rfl) (hb w d7_1) (nle rfl) (W := 0) (nle rfl) (nle rfl) ?_
 intro T1 X1
 refine P.aloadN X1 hx 5 (hb w d7_4) rfl rfl rfl ?_
 refine X1.newO hx (w43 cx) (w44 cx) (w45 cx) (hb w d7_5) (nle rfl) (nle rfl) ?_
 intro T2 h2 a2 X2 E2 g2 A2 D2
 have ge3 := Nat.le_trans K0.1 g2
 have K4 := K0.ext E2
 have D5 : Fld Z h2 a2 "java/util/AbstractList" "modCount" "I" (.int 0) := D2 (Or.inl (w63 cx)) (ty := .int) (by decide)
 have D6 : Fld Z h2 a2 "java/util/ArrayList" "elementData" "[Ljava/lang/Object;" .null := D2 (Or.inl (w66 cx)) (ty := (.array (.object "java/lang/Object"))) (by decide)
 refine P.dup X2 hx 9 (hb w d7_8) rfl rfl ?_
 refine X2.callC hx rfl (w46 cx) (w47 cx) (w48 cx) (by decide) (Ct.pay (W := 2) (ct_alini cx a2 h2 _ _ A2 D5 D6 (mg 0 rfl)) (w48 cx) (w45 cx) (nle rfl) (nle rfl)) (by rw [hml]; rfl) (argsL := []) (rest := [.ref a2, .ref x]) (lenOf pd27 rfl) rfl rfl (nle rfl) (hb w d7_9) (nle rfl) (nle rfl) ?_
 rintro T7 h7 _ _ _ X7 ⟨rfl, rfl, rfl, J7⟩
 have K8 := K4.trans J7 (allS (Or.inr ge3) all0)
 have F9 := (P1.ext E2).keep J7 (ninS (Ne.symm (X7.neT (A := [a2]) (B := WL) (mg 0 rfl) P9)) nin0)
 have F10 := (P0.ext E2).keep J7
 refine X7.putF hx (host := "") (Or.inl (w67 cx)) Via.refl F9 F10 (Or.inr ⟨(w68 cx), rfl, hnm⟩) (w27 cx) (ty := (.object "java/util/List")) (by decide) rfl rfl (mc P9) (hb w d7_12) ?_
 intro T11 h11 X11 W11 G11
 have K12 := K8.wr W11 (Or.inl (mg 0 rfl))
 refine P.aloadN X11 hx 16 (hb w d7_15) rfl rfl rfl ?_
 refine X11.newO hx (w43 cx) (w44 cx) (w45 cx) (hb w d7_16) (nle rfl) (nle rfl) ?_
 intro T13 h13 a13 X13 E13 g13 A13 D13
 have ge14 := Nat.le_trans K12.1 g13
 have K15 := K12.ext E13
 have D16 : Fld Z h13 a13 "java/util/AbstractList" "modCount" "I" (.int 0) := D13 (Or.inl (w63 cx)) (ty := .int) (by decide)
 have D17 : Fld Z h13 a13 "java/util/ArrayList" "elementData" "[Ljava/lang/Object;" .null := D13 (Or.inl (w66 cx)) (ty := (.array (.object "java/lang/Object"))) (by decide)
 refine P.dup X13 hx 20 (hb w d7_19) rfl rfl ?_
 refine X13.callC hx rfl (w46 cx) (w47 cx) (w48 cx) (by decide) (Ct.pay (W := 2) (ct_alini cx a13 h13 _ _ A13 D16 D17 (mg 0 rfl)) (w48 cx) (w45 cx) (nle rfl) (nle rfl)) (by rw [hml]; rfl) (argsL := []) (rest := [.ref a13, .ref x]) (lenOf pd27 rfl) rfl rfl (nle rfl) (hb w d7_20) (nle rfl) (nle rfl) ?_
 rintro T18 h18 _ _ _ X18 ⟨rfl, rfl, rfl, J18⟩
 have K19 := K15.trans J18 (allS (Or.inr ge14) all0)
 have F20 := ((((P2.ext E2).keep J7 (ninS (Ne.symm (X18.neT (A := [a13, a2]) (B := WL) (mg 1 rfl) P9)) nin0)).other W11 (Or.inr (slot_ne (Or.inr (w70 cx)) (Or.inr (w68 cx)) (by decide) (t := (.object "java/util/List")) (t' := (.object "java/util/List")) (by decide) (by decide)))).ext E13).keep J18 (ninS (Ne.symm (X18.neT (A := [a13, a2]) (B := WL) (mg 0 rfl) P9)) nin0)
 have F21 := ((F10.wr W11).ext E13).keep J18
 refine X18.putF hx (host := "") (Or.inl (w69 cx)) Via.refl F20 F21 (Or.inr ⟨(w70 cx), rfl, hnm⟩) (w27 cx) (ty := (.object "java/util/List")) (by decide) rfl rfl (mc (mc P9)) (hb w d7_23) ?_
 intro T22 h22 X22 W22 G22
 have K23 := K19.wr W22 (Or.inl (mg 0 rfl))
 refine P.aloadN X22 hx 27 (hb w d7_26) rfl rfl rfl ?_
 refine X22.newO hx (w43 cx) (w44 cx) (w45 cx) (hb w d7_27) (nle rfl) (nle rfl) ?_
 intro T24 h24 a24 X24 E24 g24 A24 D24
 have ge25 := Nat.le_trans K23.1 g24
 have K26 := K23.ext E24
 have D27 : Fld Z h24 a24 "java/util/AbstractList" "modCount" "I" (.int 0) := D24 (Or.inl (w63 cx)) (ty := .int) (by decide)
 have D28 : Fld Z h24 a24 "java/util/ArrayList" "elementData" "[Ljava/lang/Object;" .null := D24 (Or.inl (w66 cx)) (ty := (.array (.object "java/lang/Object"))) (by decide)
 refine P.dup X24 hx 31 (hb w d7_30) rfl rfl ?_
 refine X24.callC hx rfl (w46 cx) (w47 cx) (w48 cx) (by decide) (Ct.pay (W := 2) (ct_alini cx a24 h24 _ _ A24 D27 D28 (mg 0 rfl)) (w48 cx) (w45 cx) (nle rfl) (nle rfl)) (by rw [hml]; rfl) (argsL := []) (rest := [.ref a24, .ref x]) (lenOf pd27 rfl) rfl rfl (nle rfl) (hb w d7_31) (nle rfl) (nle rfl) ?_
 rintro T29 h29 _ _ _ X29 ⟨rfl, rfl, rfl, J29⟩
 have K30 := K26.trans J29 (allS (Or.inr ge25) all0)
 have F31 := (((((((P3.ext E2).keep J7 (ninS (Ne.symm (X29.neT (A := [a24, a13, a2]) (B := WL) (mg 2 rfl) P9)) nin0)).other W11 (Or.inr (slot_ne (Or.inr (w72 cx)) (Or.inr (w68 cx)) (by decide) (t := (.object "java/util/List")) (t' := (.object "java/util/List")) (by decide) (by decide)))).ext E13).keep J18 (ninS (Ne.symm (X29.neT (A := [a24, a13, a2]) (B := WL) (mg 1 rfl) P9)) nin0)).other W22 (Or.inr (slot_ne (Or.inr (w72 cx)) (Or.inr (w70 cx)) (by decide) (t := (.object "java/util/List")) (t' := (.object "java/util/List")) (by decide) (by decide)))).ext E24).keep J29 (ninS (Ne.symm (X29.neT (A := [a24, a13, a2]) (B := WL) (mg 0 rfl) P9)) nin0)
 have F32 := ((F21.wr W22).ext E24).keep J29
 refine X29.putF hx (host := "") (Or.inl (w71 cx)) Via.refl F31 F32 (Or.inr ⟨(w72 cx), rfl, hnm⟩) (w27 cx) (ty := (.object "java/util/List")) (by decide) rfl rfl (mc (mc (mc P9))) (hb w d7_34) ?_
 intro T33 h33 X33 W33 G33
 have K34 := K30.wr W33 (Or.inl (mg 0 rfl))
 refine P.aloadN X33 hx 38 (hb w d7_37) rfl rfl rfl ?_
 refine X33.newO hx (w73 cx) (w74 cx) (w75 cx) (hb w d7_38) (nle rfl) (nle rfl) ?_
 intro T35 h35 a35 X35 E35 g35 A35 D35
 have ge36 := Nat.le_trans K34.1 g35
 have K37 := K34.ext E35
 have D38 : Fld Z h35 a35 "java/lang/AbstractStringBuilder" "value" "[B" .null := D35 (Or.inl (w88 cx)) (ty := (.array .byte)) (by decide)
 have D39 : Fld Z h35 a35 "java/lang/AbstractStringBuilder" "coder" "B" (.int 0) := D35 (Or.inl (w90 cx)) (ty := .byte) (by decide)
 have D40 : Fld Z h35 a35 "java/lang/AbstractStringBuilder" "count" "I" (.int 0) := D35 (Or.inl (w127 cx)) (ty := .int) (by decide)
 refine P.dup X35 hx 42 (hb w d7_41) rfl rfl ?_
 refine X35.callC hx rfl (w76 cx) (w77 cx) (w78 cx) (by decide) (Ct.pay (W := 2) (ct_sbini cx a35 h35 _ _ A35 D38 D39 D40 (mg 0 rfl)) (w78 cx) (w75 cx) (nle rfl) (nle rfl)) (by rw [hml]; rfl) (argsL := []) (rest := [.ref a35, .ref x]) (lenOf pd27 rfl) rfl rfl (nle rfl) (hb w d7_42) (nle rfl) (nle rfl) ?_
 rintro T41 h41 _ _ _ X41 ⟨a42, rfl, rfl, rfl, J41, g44, G43⟩
 have ge45 := Nat.le_trans K37.1 g44
 have K46 := K37.trans J41 (allS (Or.inr ge36) all0)
 have F47 := ((((((((((P4.ext E2).keep J7 (ninS (Ne.symm (X41.neT (A := [a42, a35, a24, a13, a2]) (B := WL) (mg 4 rfl) P9)) nin0)).other W11 (Or.inr (slot_ne (Or.inr (w92 cx)) (Or.inr (w68 cx)) (by decide) (t := (.object "java/lang/StringBuilder")) (t' := (.object "java/util/List")) (by decide) (by decide)))).ext E13).keep J18 (ninS (Ne.symm (X41.neT (A := [a42, a35, a24, a13, a2]) (B := WL) (mg 3 rfl) P9)) nin0)).other W22 (Or.inr (slot_ne (Or.inr (w92 cx)) (Or.inr (w70 cx)) (by decide) (t := (.object "java/lang/StringBuilder")) (t' := (.object "java/util/List")) (by decide) (by decide)))).ext E24).keep J29 (ninS (Ne.symm (X41.neT (A := [a42, a35, a24, a13, a2]) (B := WL) (mg 2 rfl) P9)) nin0)).other W33 (Or.inr (slot_ne (Or.inr (w92 cx)) (Or.inr (w72 cx)) (by decide) (t := (.object "java/lang/StringBuilder")) (t' := (.object "java/util/List")) (by decide) (by decide)))).ext E35).keep J41 (ninS (Ne.symm (X41.neT (A := [a42, a35, a24, a13, a2]) (B := WL) (mg 1 rfl) P9)) nin0)
 have F48 := ((F32.wr W33).ext E35).keep J41
 refine X41.putF hx (host := "") (Or.inl (w91 cx)) Via.refl F47 F48 (Or.inr ⟨(w92 cx), rfl, hnm⟩) (w27 cx) (ty := (.object "java/lang/StringBuilder")) (by decide) rfl rfl (mc (mc (mc (mc (mc P9))))) (hb w d7_45) ?_
 intro T49 h49 X49 W49 G49
 have K50 := K46.wr W49 (Or.inl (mg 0 rfl))
 refine P.aloadN X49 hx 49 (hb w d7_48) rfl rfl rfl ?_
 refine P.aloadN X49 hx 50 (hb w d7_49) rfl rfl rfl ?_
 have F51 := (((((((((((P5.ext E2).keep J7 (ninS (Ne.symm (X49.neT (A := [a42, a35, a24, a13, a2]) (B := WL) (mg 4 rfl) P9)) nin0)).other W11 (Or.inr (slot_ne (Or.inr (w94 cx)) (Or.inr (w68 cx)) (by decide) (t := (.object "com/example/estate4/estate4/jdbc/SelectText$Aliases")) (t' := (.object "java/util/List")) (by decide) (by decide)))).ext E13).keep J18 (ninS (Ne.symm (X49.neT (A := [a42, a35, a24, a13, a2]) (B := WL) (mg 3 rfl) P9)) nin0)).other W22 (Or.inr (slot_ne (Or.inr (w94 cx)) (Or.inr (w70 cx)) (by decide) (t := (.object "com/example/estate4/estate4/jdbc/SelectText$Aliases")) (t' := (.object "java/util/List")) (by decide) (by decide)))).ext E24).keep J29 (ninS (Ne.symm (X49.neT (A := [a42, a35, a24, a13, a2]) (B := WL) (mg 2 rfl) P9)) nin0)).other W33 (Or.inr (slot_ne (Or.inr (w94 cx)) (Or.inr (w72 cx)) (by decide) (t := (.object "com/example/estate4/estate4/jdbc/SelectText$Aliases")) (t' := (.object "java/util/List")) (by decide) (by decide)))).ext E35).keep J41 (ninS (Ne.symm (X49.neT (A := [a42, a35, a24, a13, a2]) (B := WL) (mg 1 rfl) P9)) nin0)).other W49 (Or.inr (slot_ne (Or.inr (w94 cx)) (Or.inr (w92 cx)) (by decide) (t := (.object "com/example/estate4/estate4/jdbc/SelectText$Aliases")) (t' := (.object "java/lang/StringBuilder")) (by decide) (by decide)))
 have F52 := F48.wr W49
 refine X49.putF hx (host := "") (Or.inl (w93 cx)) Via.refl F51 F52 (Or.inr ⟨(w94 cx), rfl, hnm⟩) (w27 cx) (ty := (.object "com/example/estate4/estate4/jdbc/SelectText$Aliases")) (by decide) rfl rfl (mc (mc (mc (mc (mc P9))))) (hb w d7_50) ?_
 intro T53 h53 X53 W53 G53
 have K54 := K50.wr W53 (Or.inl (mg 0 rfl))
 refine P.aloadN X53 hx 54 (hb w d7_53) rfl rfl rfl ?_
 refine P.aloadN X53 hx 55 (hb w d7_54) rfl rfl rfl ?_
 have F55 := ((((((((((((P6.ext E2).keep J7 (ninS (Ne.symm (X53.neT (A := [a42, a35, a24, a13, a2]) (B := WL) (mg 4 rfl) P9)) nin0)).other W11 (Or.inr (slot_ne (Or.inr (w96 cx)) (Or.inr (w68 cx)) (by decide) (t := (.object "java/lang/String")) (t' := (.object "java/util/List")) (by decide) (by decide)))).ext E13).keep J18 (ninS (Ne.symm (X53.neT (A := [a42, a35, a24, a13, a2]) (B := WL) (mg 3 rfl) P9)) nin0)).other W22 (Or.inr (slot_ne (Or.inr (w96 cx)) (Or.inr (w70 cx)) (by decide) (t := (.object "java/lang/String")) (t' := (.object "java/util/List")) (by decide) (by decide)))).ext E24).keep J29 (ninS (Ne.symm (X53.neT (A := [a42, a35, a24, a13, a2]) (B := WL) (mg 2 rfl) P9)) nin0)).other W33 (Or.inr (slot_ne (Or.inr (w96 cx)) (Or.inr (w72 cx)) (by decide) (t := (.object "java/lang/String")) (t' := (.object "java/util/List")) (by decide) (by decide)))).ext E35).keep J41 (ninS (Ne.symm (X53.neT (A := [a42, a35, a24, a13, a2]) (B := WL) (mg 1 rfl) P9)) nin0)).other W49 (Or.inr (slot_ne (Or.inr (w96 cx)) (Or.inr (w92 cx)) (by decide) (t := (.object "java/lang/String")) (t' := (.object "java/lang/StringBuilder")) (by decide) (by decide)))).other W53 (Or.inr (slot_ne (Or.inr (w96 cx)) (Or.inr (w94 cx)) (by decide) (t := (.object "java/lang/String")) (t' := (.object "com/example/estate4/estate4/jdbc/SelectText$Aliases")) (by decide) (by decide)))
 have F56 := F52.wr W53
 refine X53.putF hx (host := "") (Or.inl (w95 cx)) Via.refl F55 F56 (Or.inr ⟨(w96 cx), rfl, hnm⟩) (w27 cx) (ty := (.object "java/lang/String")) (by decide) rfl rfl (mc (mc (mc (mc (mc P9))))) (hb w d7_55) ?_
 intro T57 h57 X57 W57 G57
 have K58 := K54.wr W57 (Or.inl (mg 0 rfl))
 refine P.aloadN X57 hx 59 (hb w d7_58) rfl rfl rfl ?_
 refine P.aloadN X57 hx 60 (hb w d7_59) rfl rfl rfl ?_
 have F59 := (((((((((((((P13.ext E2).keep J7).wr W11).ext E13).keep J18).wr W22).ext E24).keep J29).wr W33).ext E35).keep J41).wr W49).wr W53).wr W57
 have F60 := (((((((((((((P14.ext E2).keep J7 (ninS (Ne.symm (X57.neT (A := [a42, a35, a24, a13, a2]) (B := WL) (mg 4 rfl) P15)) nin0)).other W11 (Or.inl (Ne.symm hxa))).ext E13).keep J18 (ninS (Ne.symm (X57.neT (A := [a42, a35, a24, a13, a2]) (B := WL) (mg 3 rfl) P15)) nin0)).other W22 (Or.inl (Ne.symm hxa))).ext E24).keep J29 (ninS (Ne.symm (X57.neT (A := [a42, a35, a24, a13, a2]) (B := WL) (mg 2 rfl) P15)) nin0)).other W33 (Or.inl (Ne.symm hxa))).ext E35).keep J41 (ninS (Ne.symm (X57.neT (A := [a42, a35, a24, a13, a2]) (B := WL) (mg 1 rfl) P15)) nin0)).other W49 (Or.inl (Ne.symm hxa))).other W53 (Or.inl (Ne.symm hxa))).other W57 (Or.inl (Ne.symm hxa))
 refine X57.callV hx (w97 cx) (w98 cx) (w100 cx) (w99 cx) (fun _ hZ => nf hZ (w100 cx)) (by decide) F59 (Ct.pay (W := 1) (ct_nextg cx al kk k1 dd h57 _ _ F59 F60 (mc (mc (mc (mc (mc P15))))) hkd) (w101 cx) (w34 cx) (nle rfl) (nle rfl)) (by rw [hml]; rfl) (argsL := []) (rest := [.ref x]) (lenOf pd24 rfl) rfl rfl (nle rfl) (hb w d7_60) (nle rfl) (nle rfl) ?_
 rintro T61 h61 _ _ _ X61 ⟨a62, a63, rfl, rfl, rfl, J61, g66, G64, G65⟩
 have ge67 := Nat.le_trans K58.1 g66
 have K68 := K58.trans J61 (allS (Or.inl (mg 1 rfl)) all0)
 have F69 := ((((((((((((((P7.ext E2).keep J7 (ninS (Ne.symm (X61.neT (A := [a62, a42, a35, a24, a13, a2]) (B := WL) (mg 5 rfl) P9)) nin0)).other W11 (Or.inr (slot_ne (Or.inr (w219 cx)) (Or.inr (w68 cx)) (by decide) (t := (.object "java/lang/String")) (t' := (.object "java/util/List")) (by decide) (by decide)))).ext E13).keep J18 (ninS (Ne.symm (X61.neT (A := [a62, a42, a35, a24, a13, a2]) (B := WL) (mg 4 rfl) P9)) nin0)).other W22 (Or.inr (slot_ne (Or.inr (w219 cx)) (Or.inr (w70 cx)) (by decide) (t := (.object "java/lang/String")) (t' := (.object "java/util/List")) (by decide) (by decide)))).ext E24).keep J29 (ninS (Ne.symm (X61.neT (A := [a62, a42, a35, a24, a13, a2]) (B := WL) (mg 3 rfl) P9)) nin0)).other W33 (Or.inr (slot_ne (Or.inr (w219 cx)) (Or.inr (w72 cx)) (by decide) (t := (.object "java/lang/String")) (t' := (.object "java/util/List")) (by decide) (by decide)))).ext E35).keep J41 (ninS (Ne.symm (X61.neT (A := [a62, a42, a35, a24, a13, a2]) (B := WL) (mg 2 rfl) P9)) nin0)).other W49 (Or.inr (slot_ne (Or.inr (w219 cx)) (Or.inr (w92 cx)) (by decide) (t := (.object "java/lang/String")) (t' := (.object "java/lang/StringBuilder")) (by decide) (by decide)))).other W53 (Or.inr (slot_ne (Or.inr (w219 cx)) (Or.inr (w94 cx)) (by decide) (t := (.object "java/lang/String")) (t' := (.object "com/example/estate4/estate4/jdbc/SelectText$Aliases")) (by decide) (by decide)))).other W57 (Or.inr (slot_ne (Or.inr (w219 cx)) (Or.inr (w96 cx)) (by decide) (t := (.object "java/lang/String")) (t' := (.object "java/lang/String")) (by decide) (by decide)))).keep J61 (ninS hxa nin0)
 have F70 := (F56.wr W57).keep J61
 refine X61.putF hx (host := "") (Or.inl (w218 cx)) Via.refl F69 F70 (Or.inr ⟨(w219 cx), rfl, hnm⟩) (w27 cx) (ty := (.object "java/lang/String")) (by decide) rfl rfl (mc (mc (mc (mc (mc (mc P9)))))) (hb w d7_63) ?_
 intro T71 h71 X71 W71 G71
 have K72 := K68.wr W71 (Or.inl (mg 0 rfl))
 refine P.aloadN X71 hx 67 (hb w d7_66) rfl rfl rfl ?_
 have F73 := (((G49.other W53 (Or.inr (slot_ne (Or.inr (w92 cx)) (Or.inr (w94 cx)) (by decide) (t := (.object "java/lang/StringBuilder")) (t' := (.object "com/example/estate4/estate4/jdbc/SelectText$Aliases")) (by decide) (by decide)))).other W57 (Or.inr (slot_ne (Or.inr (w92 cx)) (Or.inr (w96 cx)) (by decide) (t := (.object "java/lang/StringBuilder")) (t' := (.object "java/lang/String")) (by decide) (by decide)))).keep J61 (ninS hxa nin0)).other W71 (Or.inr (slot_ne (Or.inr (w92 cx)) (Or.inr (w219 cx)) (by decide) (t := (.object "java/lang/StringBuilder")) (t' := (.object "java/lang/String")) (by decide) (by decide)))
 refine X71.getF hx (host := "") (Or.inl (w91 cx)) Via.refl F73 (hb w d7_67) ?_
 intro T74 X74
 refine P.aloadN X74 hx 71 (hb w d7_70) rfl rfl rfl ?_
 have F75 := ((((G43.1.wr W49).wr W53).wr W57).keep J61).wr W71
 have F76 := ((((G43.wr W49 (X74.neT (A := [a62, a42, a35, a24, a13, a2]) (B := WL) (mg 2 rfl) P9) (X74.neT (A := [a62, a42, a35, a24, a13, a2]) (B := WL) (mg 1 rfl) P9)).wr W53 (X74.neT (A := [a62, a42, a35, a24, a13, a2]) (B := WL) (mg 2 rfl) P9) (X74.neT (A := [a62, a42, a35, a24, a13, a2]) (B := WL) (mg 1 rfl) P9)).wr W57 (X74.neT (A := [a62, a42, a35, a24, a13, a2]) (B := WL) (mg 2 rfl) P9) (X74.neT (A := [a62, a42, a35, a24, a13, a2]) (B := WL) (mg 1 rfl) P9)).keep J61 (ninS (X74.neT (A := [a62, a42, a35, a24, a13, a2]) (B := WL) (mg 2 rfl) P15) nin0) (ninS (X74.neT (A := [a62, a42, a35, a24, a13, a2]) (B := WL) (mg 1 rfl) P15) nin0)).wr W71 (X74.neT (A := [a62, a42, a35, a24, a13, a2]) (B := WL) (mg 2 rfl) P9) (X74.neT (A := [a62, a42, a35, a24, a13, a2]) (B := WL) (mg 1 rfl) P9)
 have F77 := (((((((((((((((P10.ext E2).keep J7 (ninS (X74.neF (mc P11) (mg 5 rfl)) nin0) (ninS (X74.neF (mc P12) (mg 5 rfl)) nin0)).wr W11 (X74.neF (mc P11) (mc (mc (mc (mc (mc (mc P9))))))) (X74.neF (mc P12) (mc (mc (mc (mc (mc (mc P9)))))))).ext E13).keep J18 (ninS (X74.neF (mc P11) (mg 4 rfl)) nin0) (ninS (X74.neF (mc P12) (mg 4 rfl)) nin0)).wr W22 (X74.neF (mc P11) (mc (mc (mc (mc (mc (mc P9))))))) (X74.neF (mc P12) (mc (mc (mc (mc (mc (mc P9)))))))).ext E24).keep J29 (ninS (X74.neF (mc P11) (mg 3 rfl)) nin0) (ninS (X74.neF (mc P12) (mg 3 rfl)) nin0)).wr W33 (X74.neF (mc P11) (mc (mc (mc (mc (mc (mc P9))))))) (X74.neF (mc P12) (mc (mc (mc (mc (mc (mc P9)))))))).ext E35).keep J41 (ninS (X74.neF (mc P11) (mg 2 rfl)) nin0) (ninS (X74.neF (mc P12) (mg 2 rfl)) nin0)).wr W49 (X74.neF (mc P11) (mc (mc (mc (mc (mc (mc P9))))))) (X74.neF (mc P12) (mc (mc (mc (mc (mc (mc P9)))))))).wr W53 (X74.neF (mc P11) (mc (mc (mc (mc (mc (mc P9))))))) (X74.neF (mc P12) (mc (mc (mc (mc (mc (mc P9)))))))).wr W57 (X74.neF (mc P11) (mc (mc (mc (mc (mc (mc P9))))))) (X74.neF (mc P12) (mc (mc (mc (mc (mc (mc P9)))))))).keep J61 (ninS (X74.neF (mc P11) (mc (mc (mc (mc (mc (mc P15))))))) nin0) (ninS (X74.neF (mc P12) (mc (mc (mc (mc (mc (mc P15))))))) nin0)).wr W71 (X74.neF (mc P11) (mc (mc (mc (mc (mc (mc P9))))))) (X74.neF (mc P12) (mc (mc (mc (mc (mc (mc P9)))))))
 refine X74.callV hx (w220 cx) (w106 cx) (w108 cx) (w107 cx) (fun _ hZ => nf hZ (w108 cx)) (by decide) F75 (Ct.pay (W := 0) (ct_sbappN cx a35 g gu a42 16 ([]) ds h71 _ _ F76 F77 (mg 2 rfl) (mg 1 rfl) (X74.ne (i := 2) (j := 1) rfl rfl (by decide)) (by simp <;> omega)) (w109 cx) (w75 cx) (nle rfl) (nle rfl)) (by rw [hml]; rfl) (argsL := [.ref g]) (rest := []) (lenOf pd26 rfl) rfl rfl (nle rfl) (hb w d7_71) (nle rfl) (nle rfl) ?_
 rintro T78 h78 _ _ _ X78 ⟨rfl, rfl, rfl, J78, G79⟩
 have K80 := K72.trans J78 (allS (Or.inr ge36) (allS (Or.inr ge45) all0))
 refine P.bipush X78 hx 76 32 (hb w d7_74) rfl rfl ?_
 refine X78.callV hx (w221 cx) (w222 cx) (w224 cx) (w223 cx) (fun _ hZ => nf hZ (w224 cx)) (by decide) G79.1 (Ct.pay (W := 0) (ct_sbapc cx a35 a42 16 ([] ++ ds) (32 : Int32) h78 _ _ G79 (mg 2 rfl) (mg 1 rfl) (X78.ne (i := 2) (j := 1) rfl rfl (by decide)) (by simp <;> omega) (by decide)) (w225 cx) (w75 cx) (nle rfl) (nle rfl)) (by rw [hml]; rfl) (argsL := [.int 32]) (rest := []) (lenOf pd29 rfl) rfl rfl (nle rfl) (hb w d7_76) (nle rfl) (nle rfl) ?_
 rintro T81 h81 _ _ _ X81 ⟨rfl, rfl, rfl, J81, G82⟩
 have K83 := K80.trans J81 (allS (Or.inr ge36) (allS (Or.inr ge45) all0))
 refine P.aloadN X81 hx 80 (hb w d7_79) rfl rfl rfl ?_
 have F84 := (G71.keep J78 (ninS (Ne.symm (X81.neT (A := [a62, a42, a35, a24, a13, a2]) (B := WL) (mg 2 rfl) P9)) (ninS (Ne.symm (X81.neT (A := [a62, a42, a35, a24, a13, a2]) (B := WL) (mg 1 rfl) P9)) nin0))).keep J81 (ninS (Ne.symm (X81.neT (A := [a62, a42, a35, a24, a13, a2]) (B := WL) (mg 2 rfl) P9)) (ninS (Ne.symm (X81.neT (A := [a62, a42, a35, a24, a13, a2]) (B := WL) (mg 1 rfl) P9)) nin0))
 refine X81.getF hx (host := "") (Or.inl (w218 cx)) Via.refl F84 (hb w d7_80) ?_
 intro T85 X85
 have F86 := ((G64.wr W71 (X85.neT (A := [a62, a42, a35, a24, a13, a2]) (B := WL) (mg 0 rfl) P9) (X85.neF (mg 0 rfl) (mc (mc (mc (mc (mc (mc P9)))))))).keep J78 (ninS (X85.ne (i := 0) (j := 2) rfl rfl (by decide)) (ninS (X85.ne (i := 0) (j := 1) rfl rfl (by decide)) nin0)) (ninS (X85.neF (mg 0 rfl) (mg 2 rfl)) (ninS (X85.neF (mg 0 rfl) (mg 1 rfl)) nin0))).keep J81 (ninS (X85.ne (i := 0) (j := 2) rfl rfl (by decide)) (ninS (X85.ne (i := 0) (j := 1) rfl rfl (by decide)) nin0)) (ninS (X85.neF (mg 0 rfl) (mg 2 rfl)) (ninS (X85.neF (mg 0 rfl) (mg 1 rfl)) nin0))
 refine X85.callV hx (w220 cx) (w106 cx) (w108 cx) (w107 cx) (fun _ hZ => nf hZ (w108 cx)) (by decide) G82.1 (Ct.pay (W := 0) (ct_sbappN cx a35 a62 a63 a42 16 (([] ++ ds) ++ [(32 : Int32)]) ([(116 : Int32), dd]) h81 _ _ G82 F86 (mg 2 rfl) (mg 1 rfl) (X85.ne (i := 2) (j := 1) rfl rfl (by decide)) (by simp <;> omega)) (w109 cx) (w75 cx) (nle rfl) (nle rfl)) (by rw [hml]; rfl) (argsL := [.ref a62]) (rest := []) (lenOf pd26 rfl) rfl rfl (nle rfl) (hb w d7_83) (nle rfl) (nle rfl) ?_
 rintro T87 h87 _ _ _ X87 ⟨rfl, rfl, rfl, J87, G88⟩
 have K89 := K83.trans J87 (allS (Or.inr ge36) (allS (Or.inr ge45) all0))
 refine P.pop X87 hx 87 (hb w d7_86) rfl rfl ?_
 have F90 := ((F73.keep J78 (ninS (Ne.symm (X87.neT (A := [a62, a42, a35, a24, a13, a2]) (B := WL) (mg 2 rfl) P9)) (ninS (Ne.symm (X87.neT (A := [a62, a42, a35, a24, a13, a2]) (B := WL) (mg 1 rfl) P9)) nin0))).keep J81 (ninS (Ne.symm (X87.neT (A := [a62, a42, a35, a24, a13, a2]) (B := WL) (mg 2 rfl) P9)) (ninS (Ne.symm (X87.neT (A := [a62, a42, a35, a24, a13, a2]) (B := WL) (mg 1 rfl) P9)) nin0))).keep J87 (ninS (Ne.symm (X87.neT (A := [a62, a42, a35, a24, a13, a2]) (B := WL) (mg 2 rfl) P9)) (ninS (Ne.symm (X87.neT (A := [a62, a42, a35, a24, a13, a2]) (B := WL) (mg 1 rfl) P9)) nin0))
 have F91 := (((((G53.other W57 (Or.inr (slot_ne (Or.inr (w94 cx)) (Or.inr (w96 cx)) (by decide) (t := (.object "com/example/estate4/estate4/jdbc/SelectText$Aliases")) (t' := (.object "java/lang/String")) (by decide) (by decide)))).keep J61 (ninS hxa nin0)).other W71 (Or.inr (slot_ne (Or.inr (w94 cx)) (Or.inr (w219 cx)) (by decide) (t := (.object "com/example/estate4/estate4/jdbc/SelectText$Aliases")) (t' := (.object "java/lang/String")) (by decide) (by decide)))).keep J78 (ninS (Ne.symm (X87.neT (A := [a62, a42, a35, a24, a13, a2]) (B := WL) (mg 2 rfl) P9)) (ninS (Ne.symm (X87.neT (A := [a62, a42, a35, a24, a13, a2]) (B := WL) (mg 1 rfl) P9)) nin0))).keep J81 (ninS (Ne.symm (X87.neT (A := [a62, a42, a35, a24, a13, a2]) (B := WL) (mg 2 rfl) P9)) (ninS (Ne.symm (X87.neT (A := [a62, a42, a35, a24, a13, a2]) (B := WL) (mg 1 rfl) P9)) nin0))).keep J87 (ninS (Ne.symm (X87.neT (A := [a62, a42, a35, a24, a13, a2]) (B := WL) (mg 2 rfl) P9)) (ninS (Ne.symm (X87.neT (A := [a62, a42, a35, a24, a13, a2]) (B := WL) (mg 1 rfl) P9)) nin0))
 have F92 := (((G65.other W71 (Or.inl (Ne.symm hxa))).keep J78 (ninS (Ne.symm (X87.neT (A := [a62, a42, a35, a24, a13, a2]) (B := WL) (mg 2 rfl) P15)) (ninS (Ne.symm (X87.neT (A := [a62, a42, a35, a24, a13, a2]) (B := WL) (mg 1 rfl) P15)) nin0))).keep J81 (ninS (Ne.symm (X87.neT (A := [a62, a42, a35, a24, a13, a2]) (B := WL) (mg 2 rfl) P15)) (ninS (Ne.symm (X87.neT (A := [a62, a42, a35, a24, a13, a2]) (B := WL) (mg 1 rfl) P15)) nin0))).keep J87 (ninS (Ne.symm (X87.neT (A := [a62, a42, a35, a24, a13, a2]) (B := WL) (mg 2 rfl) P15)) (ninS (Ne.symm (X87.neT (A := [a62, a42, a35, a24, a13, a2]) (B := WL) (mg 1 rfl) P15)) nin0))
 have F93 := ((((((((((((((((((P8.ext E2).keep J7 (ninS (Ne.symm (X87.neT (A := [a62, a42, a35, a24, a13, a2]) (B := WL) (mg 5 rfl) P9)) nin0)).other W11 (Or.inr (slot_ne (Or.inl (w251 cx)) (Or.inr (w68 cx)) (by decide) (t := .boolean) (t' := (.object "java/util/List")) (by decide) (by decide)))).ext E13).keep J18 (ninS (Ne.symm (X87.neT (A := [a62, a42, a35, a24, a13, a2]) (B := WL) (mg 4 rfl) P9)) nin0)).other W22 (Or.inr (slot_ne (Or.inl (w251 cx)) (Or.inr (w70 cx)) (by decide) (t := .boolean) (t' := (.object "java/util/List")) (by decide) (by decide)))).ext E24).keep J29 (ninS (Ne.symm (X87.neT (A := [a62, a42, a35, a24, a13, a2]) (B := WL) (mg 3 rfl) P9)) nin0)).other W33 (Or.inr (slot_ne (Or.inl (w251 cx)) (Or.inr (w72 cx)) (by decide) (t := .boolean) (t' := (.object "java/util/List")) (by decide) (by decide)))).ext E35).keep J41 (ninS (Ne.symm (X87.neT (A := [a62, a42, a35, a24, a13, a2]) (B := WL) (mg 2 rfl) P9)) nin0)).other W49 (Or.inr (slot_ne (Or.inl (w251 cx)) (Or.inr (w92 cx)) (by decide) (t := .boolean) (t' := (.object "java/lang/StringBuilder")) (by decide) (by decide)))).other W53 (Or.inr (slot_ne (Or.inl (w251 cx)) (Or.inr (w94 cx)) (by decide) (t := .boolean) (t' := (.object "com/example/estate4/estate4/jdbc/SelectText$Aliases")) (by decide) (by decide)))).other W57 (Or.inr (slot_ne (Or.inl (w251 cx)) (Or.inr (w96 cx)) (by decide) (t := .boolean) (t' := (.object "java/lang/String")) (by decide) (by decide)))).keep J61 (ninS hxa nin0)).other W71 (Or.inr (slot_ne (Or.inl (w251 cx)) (Or.inr (w219 cx)) (by decide) (t := .boolean) (t' := (.object "java/lang/String")) (by decide) (by decide)))).keep J78 (ninS (Ne.symm (X87.neT (A := [a62, a42, a35, a24, a13, a2]) (B := WL) (mg 2 rfl) P9)) (ninS (Ne.symm (X87.neT (A := [a62, a42, a35, a24, a13, a2]) (B := WL) (mg 1 rfl) P9)) nin0))).keep J81 (ninS (Ne.symm (X87.neT (A := [a62, a42, a35, a24, a13, a2]) (B := WL) (mg 2 rfl) P9)) (ninS (Ne.symm (X87.neT (A := [a62, a42, a35, a24, a13, a2]) (B := WL) (mg 1 rfl) P9)) nin0))).keep J87 (ninS (Ne.symm (X87.neT (A := [a62, a42, a35, a24, a13, a2]) (B := WL) (mg 2 rfl) P9)) (ninS (Ne.symm (X87.neT (A := [a62, a42, a35, a24, a13, a2]) (B := WL) (mg 1 rfl) P9)) nin0))
 have X94 := WS.drop (A := []) (B := (a42 :: a35 :: a24 :: a13 :: a2 :: WL)) X87
 have X95 := WS.drop (A := [a42, a35]) (B := (a13 :: a2 :: WL)) X94
 have X96 := WS.drop (A := [a42, a35]) (B := (a2 :: WL)) X95
 have X97 := WS.drop (A := [a42, a35]) (B := WL) X96
 have X98 := WS.fl (FL2 := FL) X97 (fun y hy => (List.mem_append_right [a2, a13, a24, a62, a63] hy))
 exact WS.retV X98 (WL' := [a42, a35]) (FL' := []) hx hret hlk (hb w d7_87) (nle rfl) (nle rfl) ⟨a35, a42, rfl, rfl, rfl, K89, ge45, ge36, F90, F91, G88, F92, F93⟩
def Q_seli (Z : State) (x : Addr) (g : Addr) (gu : Addr) (ds : List Int32) (h : Heap) (v : Option Value) (h' : Heap) (WL' FL' : List Addr) : Prop := ∃ al : Addr, ∃ f : Addr, ∃ ft : Addr, v = none ∧ WL' = [ft, f, al] ∧ FL' = [] ∧ Keep h h' [x] ∧ h.size ≤ ft ∧ h.size ≤ f ∧ h.size ≤ al ∧ Fld Z h' x "com/example/estate4/estate4/jdbc/SelectText" "from" "Ljava/lang/StringBuilder;" (.ref f) ∧ Fld Z h' x "com/example/estate4/estate4/jdbc/SelectText" "aliases" "Lcom/example/estate4/estate4/jdbc/SelectText$Aliases;" (.ref al) ∧ Fld Z h' x "com/example/estate4/estate4/jdbc/SelectText" "joins" "Z" (.int 0) ∧ SB Z h' f ft 16 ((([] ++ ds) ++ [(32 : Int32)]) ++ [(116 : Int32), 48]) ∧ Exa Z h' al "com/example/estate4/estate4/jdbc/SelectText$Aliases" ∧ Fld Z h' al "com/example/estate4/estate4/jdbc/SelectText$Aliases" "handedOut" "I" (.int 1)
theorem ct_seli (cx : Cx a0 Z gC gF v_AL v_DO k_DO) (x : Addr) (g : Addr) (gu : Addr) (ds : List Int32) (h : Heap) (WL FL : List Addr) (P0 : Exa Z h x "com/example/estate4/estate4/jdbc/SelectText") (P1 : Fld Z h x "com/example/estate4/estate4/jdbc/SelectText" "columns" "Ljava/util/List;" .null) (P2 : Fld Z h x "com/example/estate4/estate4/jdbc/SelectText" "tableColumns" "Ljava/util/List;" .null) (P3 : Fld Z h x "com/example/estate4/estate4/jdbc/SelectText" "grouping" "Ljava/util/List;" .null) (P4 : Fld Z h x "com/example/estate4/estate4/jdbc/SelectText" "from" "Ljava/lang/StringBuilder;" .null) (P5 : Fld Z h x "com/example/estate4/estate4/jdbc/SelectText" "aliases" "Lcom/example/estate4/estate4/jdbc/SelectText$Aliases;" .null) (P6 : Fld Z h x "com/example/estate4/estate4/jdbc/SelectText" "table" "Ljava/lang/String;" .null) (P7 : Fld Z h x "com/example/estate4/estate4/jdbc/SelectText" "first" "Ljava/lang/String;" .null) (P8 : Fld Z h x "com/example/estate4/estate4/jdbc/SelectText" "joins" "Z" (.int 0)) (P9 : x ∈ WL) (P10 : StrL Z h g gu ds) (P11 : g ∈ FL) (P12 : gu ∈ FL) (hd : ds.length ≤ 4) :
   Ct l Z EL1 n0 (⟨"com/example/estate4/estate4/jdbc/SelectText", "<init>", "(Ljava/lang/String;)V"⟩ : MethodName) prog_6_method_1_code 2 (Option.none : Option Jvm.ClassFile.FieldType) ({ frames := 8, cells := 12, slots := 132, locals := 119 } : Room) #[(.ref x), (.ref g)] h WL FL (Q_seli Z x g gu ds h) := by
 refine Ct.of (plainFor_of_name pn11) ?_
 intro p e s m below meth c s1 hx w hml hnm hret hlk X0
 refine Wo.cast (f' := (mkF m 0 #[.val (.ref x), .val (.ref g)] [])) (by rfl) ?_
 have K0 : Keep h h [x] := Keep.refl _ _
 show Wo _ _ _ _ _ _ _ _ _ _ _ s1 (mkF m 0 #[.val (.ref x), .val (.ref g)] [])
 refine P.aloadN X0 hx 1 (hb w d5_0) rfl rfl rfl ?_
 refine P.aloadN X0 hx 2 (hb w d5_1) rfl rfl rfl ?_
 refine X0.newO hx (w32 cx) (w33 cx) (w34 cx) (hb w d5_2) (nle rfl) (nle rfl) ?_
 intro T1 h1 a1 X1 E1 g1 A1 D1
 have ge2 := Nat.le_trans K0.1 g1
 have K3 := K0.ext E1
 have D4 : Fld Z h1 a1 "com/example/estate4/estate4/jdbc/SelectText$Aliases" "handedOut" "I" (.int 0) := D1 (Or.inl (w154 cx)) (ty := .int) (by decide)
 refine P.dup X1 hx 6 (hb w d5_5) rfl rfl ?_
 refine X1.callR hx rfl (w35 cx) (w36 cx) (w37 cx) (by decide) (Ct.pay (W := 3) (ct_aliini cx a1 h1 _ _ ) (w37 cx) (w34 cx) (nle rfl) (nle rfl)) (by rw [hml]; rfl) (argsL := []) (rest := [.ref a1, .ref g, .ref x]) (lenOf pd27 rfl) rfl rfl (nle rfl) (hb w d5_6) (nle rfl) (nle rfl) ?_
 rintro T5 h5 _ _ _ X5 ⟨rfl, rfl, rfl, J5⟩
 rw [J5] at X5
 have F6 := P0.ext E1
 have F7 := P1.ext E1
 have F8 := P2.ext E1
 have F9 := P3.ext E1
 have F10 := P4.ext E1
 have F11 := P5.ext E1
 have F12 := P6.ext E1
 have F13 := P7.ext E1
 have F14 := P8.ext E1
 have F15 := P10.ext E1
 refine X5.callC hx rfl (w39 cx) (w40 cx) (w41 cx) (by decide) (Ct.pay (W := 0) (ct_selini cx x g gu ds a1 (0 : Int32) (1 : Int32) (48 : Int32) h1 _ _ F6 F7 F8 F9 F10 F11 F12 F13 F14 (mc P9) F15 P11 P12 A1 D4 (mg 0 rfl) (Ne.symm (X5.neT (A := [a1]) (B := WL) (mg 0 rfl) P9)) hd (by decide)) (w41 cx) (w28 cx) (nle rfl) (nle rfl)) (by rw [hml]; rfl) (argsL := [.ref g, .ref a1]) (rest := []) (lenOf pd30 rfl) rfl rfl (nle rfl) (hb w d5_9) (nle rfl) (nle rfl) ?_
 rintro T16 h16 _ _ _ X16 ⟨a17, a18, rfl, rfl, rfl, J16, g24, g25, G19, G20, G21, G22, G23⟩
 have ge26 := Nat.le_trans K3.1 g24
 have ge27 := Nat.le_trans K3.1 g25
 have K28 := K3.trans J16 (allS (Or.inl (mg 0 rfl)) (allS (Or.inr ge2) all0))
 have F29 := A1.keep J16
 exact WS.retV X16 (WL' := [a18, a17, a1]) (FL' := []) hx hret hlk (hb w d5_12) (nle rfl) (nle rfl) ⟨a1, a17, a18, rfl, rfl, rfl, K28, ge26, ge27, ge2, G19, G20, G23, G21, F29, G22⟩
def Q_subs (Z : State) (x : Addr) (g : Addr) (gu : Addr) (ds : List Int32) (al : Addr) (h : Heap) (v : Option Value) (h' : Heap) (WL' FL' : List Addr) : Prop := ∃ r : Addr, ∃ f : Addr, ∃ ft : Addr, v = some (.ref r) ∧ WL' = [ft, f, r] ∧ FL' = [] ∧ Keep h h' [al] ∧ h.size ≤ ft ∧ h.size ≤ f ∧ h.size ≤ r ∧ Exa Z h' r "com/example/estate4/estate4/jdbc/SelectText" ∧ Fld Z h' r "com/example/estate4/estate4/jdbc/SelectText" "from" "Ljava/lang/StringBuilder;" (.ref f) ∧ Fld Z h' r "com/example/estate4/estate4/jdbc/SelectText" "aliases" "Lcom/example/estate4/estate4/jdbc/SelectText$Aliases;" (.ref al) ∧ Fld Z h' r "com/example/estate4/estate4/jdbc/SelectText" "joins" "Z" (.int 0) ∧ SB Z h' f ft 16 ((([] ++ ds) ++ [(32 : Int32)]) ++ [(116 : Int32), 49]) ∧ Fld Z h' al "com/example/estate4/estate4/jdbc/SelectText$Aliases" "handedOut" "I" (.int 2)
theorem ct_subs (cx : Cx a0 Z gC gF v_AL v_DO k_DO) (x : Addr) (g : Addr) (gu : Addr) (ds : List Int32) (al : Addr) (h : Heap) (WL FL : List Addr) (P0 : Exa Z h x "com/example/estate4/estate4/jdbc/SelectText") (P1 : Fld Z h x "com/example/estate4/estate4/jdbc/SelectText" "aliases" "Lcom/example/estate4/estate4/jdbc/SelectText$Aliases;" (.ref al)) (P2 : Exa Z h al "com/example/estate4/estate4/jdbc/SelectText$Aliases") (P3 : Fld Z h al "com/example/estate4/estate4/jdbc/SelectText$Aliases" "handedOut" "I" (.int 1)) (P4 : al ∈ WL) (P5 : StrL Z h g gu ds) (P6 : g ∈ FL) (P7 : gu ∈ FL) (hd : ds.length ≤ 4) :
   Ct l Z EL1 n0 (⟨"com/example/estate4/estate4/jdbc/SelectText", "subselect", "(Ljava/lang/String;)Lcom/example/estate4/estate4/jdbc/SelectText;"⟩ : MethodName) prog_6_method_3_code 2 (Option.some (FieldType.object "com/example/estate4/estate4/jdbc/SelectText")) ({ frames := 8, cells := 12, slots := 139, locals := 120 } : Room) #[(.ref x), (.ref g)] h WL FL (Q_subs Z x g gu ds al h) := by
 refine Ct.of (plainFor_of_name pn11) ?_
 intro p e s m below meth c s1 hx w hml hnm hret hlk X0
 refine Wo.cast (f' := (mkF m 0 #[.val (.ref x), .val (.ref g)] [])) (by rfl) ?_
 have K0 : Keep h h [al] := Keep.refl _ _
 show Wo _ _ _ _ _ _ _ _ _ _ _ s1 (mkF m 0 #[.val (.ref x), .val (.ref g)] [])
 refine X0.newO hx (w315 cx) (w27 cx) (w28 cx) (hb w d56_0) (nle rfl) (nle rfl) ?_
 intro T1 h1 a1 X1 E1 g1 A1 D1
 have ge2 := Nat.le_trans K0.1 g1
 have K3 := K0.ext E1
 have D4 : Fld Z h1 a1 "com/example/estate4/estate4/jdbc/SelectText" "columns" "Ljava/util/List;" .null := D1 (Or.inr (w68 cx)) (ty := (.object "java/util/List")) (by decide)
 have D5 : Fld Z h1 a1 "com/example/estate4/estate4/jdbc/SelectText" "tableColumns" "Ljava/util/List;" .null := D1 (Or.inr (w70 cx)) (ty := (.object "java/util/List")) (by decide)
 have D6 : Fld Z h1 a1 "com/example/estate4/estate4/jdbc/SelectText" "grouping" "Ljava/util/List;" .null := D1 (Or.inr (w72 cx)) (ty := (.object "java/util/List")) (by decide)
 have D7 : Fld Z h1 a1 "com/example/estate4/estate4/jdbc/SelectText" "from" "Ljava/lang/StringBuilder;" .null := D1 (Or.inr (w92 cx)) (ty := (.object "java/lang/StringBuilder")) (by decide)
 have D8 : Fld Z h1 a1 "com/example/estate4/estate4/jdbc/SelectText" "aliases" "Lcom/example/estate4/estate4/jdbc/SelectText$Aliases;" .null := D1 (Or.inr (w94 cx)) (ty := (.object "com/example/estate4/estate4/jdbc/SelectText$Aliases")) (by decide)
 have D9 : Fld Z h1 a1 "com/example/estate4/estate4/jdbc/SelectText" "table" "Ljava/lang/String;" .null := D1 (Or.inr (w96 cx)) (ty := (.object "java/lang/String")) (by decide)
 have D10 : Fld Z h1 a1 "com/example/estate4/estate4/jdbc/SelectText" "first" "Ljava/lang/String;" .null := D1 (Or.inr (w219 cx)) (ty := (.object "java/lang/String")) (by decide)
 have D11 : Fld Z h1 a1 "com/example/estate4/estate4/jdbc/SelectText" "joins" "Z" (.int 0) := D1 (Or.inl (w251 cx)) (ty := .boolean) (by decide)
 refine P.dup X1 hx 4 (hb w d56_3) rfl rfl ?_
 refine P.aloadN X1 hx 5 (hb w d56_4) rfl rfl rfl ?_
 refine P.aloadN X1 hx 6 (hb w d56_5) rfl rfl rfl ?_
 have F12 := P1.ext E1
 refine X1.getF hx (host := "") (Or.inl (w93 cx)) Via.refl F12 (hb w d56_6) ?_
 intro T13 X13
 have F14 := P3.ext E1
 have F15 := P5.ext E1
 have F16 := P2.ext E1
 refine X13.callC hx rfl (w39 cx) (w40 cx) (w41 cx) (by decide) (Ct.pay (W := 1) (ct_selini cx a1 g gu ds al (1 : Int32) (2 : Int32) (49 : Int32) h1 _ _ A1 D4 D5 D6 D7 D8 D9 D10 D11 (mg 0 rfl) F15 P6 P7 F16 F14 (mc P4) (X13.neT (A := [a1]) (B := WL) (mg 0 rfl) P4) hd (by decide)) (w41 cx) (w28 cx) (nle rfl) (nle rfl)) (by rw [hml]; rfl) (argsL := [.ref g, .ref al]) (rest := [.ref a1]) (lenOf pd30 rfl) rfl rfl (nle rfl) (hb w d56_9) (nle rfl) (nle rfl) ?_
 rintro T17 h17 _ _ _ X17 ⟨a18, a19, rfl, rfl, rfl, J17, g25, g26, G20, G21, G22, G23, G24⟩
 have ge27 := Nat.le_trans K3.1 g25
 have ge28 := Nat.le_trans K3.1 g26
 have K29 := K3.trans J17 (allS (Or.inr ge2) (allS (Or.inl (mg 0 rfl)) all0))
 have F30 := A1.keep J17
 exact WS.retA X17 (WL' := [a19, a18, a1]) (FL' := []) hx hret rfl rfl hlk (hb w d56_12) (nle rfl) (nle rfl) ⟨a1, a18, a19, rfl, rfl, rfl, K29, ge27, ge28, ge2, F30, G20, G21, G24, G22, G23⟩
def Q_cj (Z : State) (kk : Int32) (k1 : Int32) (dd : Int32) (x : Addr) (al : Addr) (f : Addr) (ft : Addr) (fs : List Int32) (g : Addr) (gu : Addr) (qs : List Int32) (h : Heap) (v : Option Value) (h' : Heap) (WL' FL' : List Addr) : Prop := ∃ r : Addr, ∃ b : Addr, v = some (.ref r) ∧ WL' = [b] ∧ FL' = [] ∧ Keep h h' [x, al, f, ft] ∧ h.size ≤ b ∧ Fld Z h' x "com/example/estate4/estate4/jdbc/SelectText" "from" "Ljava/lang/StringBuilder;" (.ref f) ∧ SB Z h' f b (2 * 16 + 2) ((((fs ++ [(32 : Int32), 99, 114, 111, 115, 115, 32, 106, 111, 105, 110, 32]) ++ qs) ++ [(32 : Int32)]) ++ [(116 : Int32), dd])
theorem ct_cj_5 (cx : Cx a0 Z gC gF v_AL v_DO k_DO) (kk : Int32) (k1 : Int32) (dd : Int32) (x : Addr) (al : Addr) (f : Addr) (ft : Addr) (fs : List Int32) (g : Addr) (gu : Addr) (qs : List Int32) (h : Heap) (WL FL : List Addr) (P0 : Exa Z h x "com/example/estate4/estate4/jdbc/SelectText") (P1 : Fld Z h x "com/example/estate4/estate4/jdbc/SelectText" "aliases" "Lcom/example/estate4/estate4/jdbc/SelectText$Aliases;" (.ref al)) (P2 : Fld Z h x "com/example/estate4/estate4/jdbc/SelectText" "from" "Ljava/lang/StringBuilder;" (.ref f)) (P3 : Fld Z h x "com/example/estate4/estate4/jdbc/SelectText" "joins" "Z" (.int 0)) (P4 : Exa Z h al "com/example/estate4/estate4/jdbc/SelectText$Aliases") (P5 : Fld Z h al "com/example/estate4/estate4/jdbc/SelectText$Aliases" "handedOut" "I" (.int kk)) (P6 : SB Z h f ft 16 fs) (P7 : StrL Z h g gu qs) (P8 : x ∈ WL) (P9 : al ∈ WL) (P10 : f ∈ WL) (P11 : ft ∈ WL) (P12 : g ∈ FL) (P13 : gu ∈ FL) (hxal : x ≠ al) (hxf : x ≠ f) (hxft : x ≠ ft) (half : al ≠ f) (halft : al ≠ ft) (hfft : f ≠ ft) (hq : qs.length = 1) (h3 : 3 ≤ fs.length) (h5 : fs.length ≤ 5) (hkd : (kk = 0 ∧ k1 = 1 ∧ dd = 48) ∨ (kk = 1 ∧ k1 = 2 ∧ dd = 49) ∨ (kk = 2 ∧ k1 = 3 ∧ dd = 50)) (el : fs.length = 5) :
   Ct l Z EL1 n0 (⟨"com/example/estate4/estate4/jdbc/SelectText", "crossJoin", "(Ljava/lang/String;)Ljava/lang/String;"⟩ : MethodName) prog_6_method_11_code 3 (Option.some (FieldType.object "java/lang/String")) ({ frames := 7, cells := 9, slots := 224, locals := 104 } : Room) #[(.ref x), (.ref g)] h WL FL (Q_cj Z kk k1 dd x al f ft fs g gu qs h) := by
 refine Ct.of (plainFor_of_name pn11) ?_
 intro p e s m below meth c s1 hx w hml hnm hret hlk X0
 refine Wo.cast (f' := (mkF m 0 #[.val (.ref x), .val (.ref g), .unset] [])) (by rfl) ?_
 have K0 : Keep h h [x, al, f, ft] := Keep.refl _ _
 show Wo _ _ _ _ _ _ _ _ _ _ _ s1 (mkF m 0 #[.val (.ref x), .val (.ref g), .unset] [])
 refine P.aloadN X0 hx 1 (hb w d43_0) rfl rfl rfl ?_
 refine P.iconst X0 hx 2 1 (hb w d43_1) rfl rfl ?_
 refine X0.putF hx (host := "") (Or.inl (w250 cx)) Via.refl P3 P0 (Or.inl (w251 cx)) (w27 cx) (ty := .boolean) (by decide) rfl rfl P8 (hb w d43_2) ?_
 intro T1 h1 X1 W1 G1
 have K2 := K0.wr W1 (Or.inl (mg 0 rfl))
 refine P.aloadN X1 hx 6 (hb w d43_5) rfl rfl rfl ?_
 have F3 := P1.other W1 (Or.inr (slot_ne (Or.inr (w94 cx)) (Or.inl (w251 cx)) (by decide) (t := (.object "com/example/estate4/estate4/jdbc/SelectText$Aliases")) (t' := .boolean) (by decide) (by decide)))
 refine X1.getF hx (host := "") (Or.inl (w93 cx)) Via.refl F3 (hb w d43_6) ?_
 intro T4 X4
 have F5 := P4.wr W1
 have F6 := P5.other W1 (Or.inl (Ne.symm hxal))
 refine X4.callV hx (w97 cx) (w98 cx) (w100 cx) (w99 cx) (fun _ hZ => nf hZ (w100 cx)) (by decide) F5 (Ct.pay (W := 0) (ct_nextg cx al kk k1 dd h1 _ _ F5 F6 P9 hkd) (w101 cx) (w34 cx) (nle rfl) (nle rfl)) (by rw [hml]; rfl) (argsL := []) (rest := []) (lenOf pd24 rfl) rfl rfl (nle rfl) (hb w d43_9) (nle rfl) (nle rfl) ?_
 rintro T7 h7 _ _ _ X7 ⟨a8, a9, rfl, rfl, rfl, J7, g12, G10, G11⟩
 have ge13 := Nat.le_trans K2.1 g12
 have K14 := K2.trans J7 (allS (Or.inl (mg 1 rfl)) all0)
 have X15 := WS.drop (A := []) (B := WL) X7
 refine P.astoreN X15 hx 13 #[.val (.ref x), .val (.ref g), .val (.ref a8)] (hb w d43_12) rfl rfl rfl ?_
 refine P.aloadN X15 hx 14 (hb w d43_13) rfl rfl rfl ?_
 have F16 := (P2.other W1 (Or.inr (slot_ne (Or.inr (w92 cx)) (Or.inl (w251 cx)) (by decide) (t := (.object "java/lang/StringBuilder")) (t' := .boolean) (by decide) (by decide)))).keep J7 (ninS hxal nin0)
 refine X15.getF hx (host := "") (Or.inl (w91 cx)) Via.refl F16 (hb w d43_14) ?_
 intro T17 X17
 refine X17.ldc hx (w252 cx) (strAtoms cx) (by decide) (vs := [(.int 32), (.int 99), (.int 114), (.int 111), (.int 115), (.int 115), (.int 32), (.int 106), (.int 111), (.int 105), (.int 110), (.int 32)]) (z := (12 : Int32)) ⟨by decide, by decide⟩ (by decide) rfl (hb w d43_17) (n := 48) (nle rfl) (nle rfl) (nle rfl) (nle rfl) ?_
 intro T18 h18 a18 b18 k18 X18 E18 A18 C18 V18 B18
 have K19 := K14.ext E18
 have S20 : StrL Z h18 a18 b18 [(32 : Int32), 99, 114, 111, 115, 115, 32, 106, 111, 105, 110, 32] := ⟨A18, V18, C18, ⟨_, B18⟩, (by decide), nle rfl⟩
 have F21 := ((P6.1.wr W1).keep J7).ext E18
 have F22 := ((P6.wr W1 (Ne.symm hxf) (Ne.symm hxft)).keep J7 (ninS (Ne.symm half) nin0) (ninS (Ne.symm halft) nin0)).ext E18
 refine X18.callV hx (w220 cx) (w106 cx) (w108 cx) (w107 cx) (fun _ hZ => nf hZ (w108 cx)) (by decide) F21 (Ct.pay (W := 0) (ct_sbappA cx f a18 b18 ft 16 fs ([(32 : Int32), 99, 114, 111, 115, 115, 32, 106, 111, 105, 110, 32]) h18 _ _ F22 S20 P10 P11 hfft (mg 0 rfl) (mg 1 rfl) (by simp <;> omega) (by simp <;> omega) (nle rfl) (nle rfl)) (w109 cx) (w75 cx) (nle rfl) (nle rfl)) (by rw [hml]; rfl) (argsL := [.ref a18]) (rest := []) (lenOf pd26 rfl) rfl rfl (nle rfl) (hb w d43_19) (nle rfl) (nle rfl) ?_
 rintro T23 h23 _ _ _ X23 ⟨a24, rfl, rfl, rfl, J23, g26, G25⟩
 have ge27 := Nat.le_trans K19.1 g26
 have K28 := K19.trans J23 (allS (Or.inl (mg 2 rfl)) all0)
 refine P.aloadN X23 hx 23 (hb w d43_22) rfl rfl rfl ?_
 have F29 := (((P7.wr W1 (X23.neF (mc (mc (mc (mc P12)))) (mc P8)) (X23.neF (mc (mc (mc (mc P13)))) (mc P8))).keep J7 (ninS (X23.neF (mc (mc (mc (mc P12)))) (mc P9)) nin0) (ninS (X23.neF (mc (mc (mc (mc P13)))) (mc P9)) nin0)).ext E18).keep J23 (ninS (X23.neF (mc (mc (mc (mc P12)))) (mc P10)) nin0) (ninS (X23.neF (mc (mc (mc (mc P13)))) (mc P10)) nin0)
 refine X23.callV hx (w220 cx) (w106 cx) (w108 cx) (w107 cx) (fun _ hZ => nf hZ (w108 cx)) (by decide) G25.1 (Ct.pay (W := 0) (ct_sbappN cx f g gu a24 (2 * 16 + 2) (fs ++ [(32 : Int32), 99, 114, 111, 115, 115, 32, 106, 111, 105, 110, 32]) qs h23 _ _ G25 F29 (mc P10) (mg 0 rfl) (Ne.symm (X23.neT (A := [a24]) (B := WL) (mg 0 rfl) P10)) (by simp <;> omega)) (w109 cx) (w75 cx) (nle rfl) (nle rfl)) (by rw [hml]; rfl) (argsL := [.ref g]) (rest := []) (lenOf pd26 rfl) rfl rfl (nle rfl) (hb w d43_23) (nle rfl) (nle rfl) ?_
 rintro T30 h30 _ _ _ X30 ⟨rfl, rfl, rfl, J30, G31⟩
 have K32 := K28.trans J30 (allS (Or.inl (mg 2 rfl)) (allS (Or.inr ge27) all0))
 refine P.bipush X30 hx 28 32 (hb w d43_26) rfl rfl ?_
 refine X30.callV hx (w221 cx) (w222 cx) (w224 cx) (w223 cx) (fun _ hZ => nf hZ (w224 cx)) (by decide) G31.1 (Ct.pay (W := 0) (ct_sbapc cx f a24 (2 * 16 + 2) ((fs ++ [(32 : Int32), 99, 114, 111, 115, 115, 32, 106, 111, 105, 110, 32]) ++ qs) (32 : Int32) h30 _ _ G31 (mc P10) (mg 0 rfl) (Ne.symm (X30.neT (A := [a24]) (B := WL) (mg 0 rfl) P10)) (by simp <;> omega) (by decide)) (w225 cx) (w75 cx) (nle rfl) (nle rfl)) (by rw [hml]; rfl) (argsL := [.int 32]) (rest := []) (lenOf pd29 rfl) rfl rfl (nle rfl) (hb w d43_28) (nle rfl) (nle rfl) ?_
 rintro T33 h33 _ _ _ X33 ⟨rfl, rfl, rfl, J33, G34⟩
 have K35 := K32.trans J33 (allS (Or.inl (mg 2 rfl)) (allS (Or.inr ge27) all0))
 refine P.aloadN X33 hx 32 (hb w d43_31) rfl rfl rfl ?_
 have F36 := (((G10.ext E18).keep J23 (ninS (X33.neF (mg 2 rfl) (mc P10)) nin0) (ninS (X33.neF (mg 3 rfl) (mc P10)) nin0)).keep J30 (ninS (X33.neF (mg 2 rfl) (mc P10)) (ninS (X33.neF (mg 2 rfl) (mg 0 rfl)) nin0)) (ninS (X33.neF (mg 3 rfl) (mc P10)) (ninS (X33.neF (mg 3 rfl) (mg 0 rfl)) nin0))).keep J33 (ninS (X33.neF (mg 2 rfl) (mc P10)) (ninS (X33.neF (mg 2 rfl) (mg 0 rfl)) nin0)) (ninS (X33.neF (mg 3 rfl) (mc P10)) (ninS (X33.neF (mg 3 rfl) (mg 0 rfl)) nin0))
 refine X33.callV hx (w220 cx) (w106 cx) (w108 cx) (w107 cx) (fun _ hZ => nf hZ (w108 cx)) (by decide) G34.1 (Ct.pay (W := 0) (ct_sbappN cx f a8 a9 a24 (2 * 16 + 2) (((fs ++ [(32 : Int32), 99, 114, 111, 115, 115, 32, 106, 111, 105, 110, 32]) ++ qs) ++ [(32 : Int32)]) ([(116 : Int32), dd]) h33 _ _ G34 F36 (mc P10) (mg 0 rfl) (Ne.symm (X33.neT (A := [a24]) (B := WL) (mg 0 rfl) P10)) (by simp <;> omega)) (w109 cx) (w75 cx) (nle rfl) (nle rfl)) (by rw [hml]; rfl) (argsL := [.ref a8]) (rest := []) (lenOf pd26 rfl) rfl rfl (nle rfl) (hb w d43_32) (nle rfl) (nle rfl) ?_
 rintro T37 h37 _ _ _ X37 ⟨rfl, rfl, rfl, J37, G38⟩
 have K39 := K35.trans J37 (allS (Or.inl (mg 2 rfl)) (allS (Or.inr ge27) all0))
 refine P.pop X37 hx 36 (hb w d43_35) rfl rfl ?_
 refine P.aloadN X37 hx 37 (hb w d43_36) rfl rfl rfl ?_
 have F40 := ((((F16.ext E18).keep J23 (ninS hxf nin0)).keep J30 (ninS hxf (ninS (Ne.symm (X37.neT (A := [a24]) (B := WL) (mg 0 rfl) P8)) nin0))).keep J33 (ninS hxf (ninS (Ne.symm (X37.neT (A := [a24]) (B := WL) (mg 0 rfl) P8)) nin0))).keep J37 (ninS hxf (ninS (Ne.symm (X37.neT (A := [a24]) (B := WL) (mg 0 rfl) P8)) nin0))
 have X41 := WS.fl (FL2 := FL) X37 (fun y hy => (List.mem_append_right [a18, b18, a8, a9] hy))
 exact WS.retA X41 (WL' := [a24]) (FL' := []) hx hret rfl rfl hlk (hb w d43_37) (nle rfl) (nle rfl) ⟨a8, a24, rfl, rfl, rfl, K39, ge27, F40, G38⟩
theorem ct_cj_4 (cx : Cx a0 Z gC gF v_AL v_DO k_DO) (kk : Int32) (k1 : Int32) (dd : Int32) (x : Addr) (al : Addr) (f : Addr) (ft : Addr) (fs : List Int32) (g : Addr) (gu : Addr) (qs : List Int32) (h : Heap) (WL FL : List Addr) (P0 : Exa Z h x "com/example/estate4/estate4/jdbc/SelectText") (P1 : Fld Z h x "com/example/estate4/estate4/jdbc/SelectText" "aliases" "Lcom/example/estate4/estate4/jdbc/SelectText$Aliases;" (.ref al)) (P2 : Fld Z h x "com/example/estate4/estate4/jdbc/SelectText" "from" "Ljava/lang/StringBuilder;" (.ref f)) (P3 : Fld Z h x "com/example/estate4/estate4/jdbc/SelectText" "joins" "Z" (.int 0)) (P4 : Exa Z h al "com/example/estate4/estate4/jdbc/SelectText$Aliases") (P5 : Fld Z h al "com/example/estate4/estate4/jdbc/SelectText$Aliases" "handedOut" "I" (.int kk)) (P6 : SB Z h f ft 16 fs) (P7 : StrL Z h g gu qs) (P8 : x ∈ WL) (P9 : al ∈ WL) (P10 : f ∈ WL) (P11 : ft ∈ WL) (P12 : g ∈ FL) (P13 : gu ∈ FL) (hxal : x ≠ al) (hxf : x ≠ f) (hxft : x ≠ ft) (half : al ≠ f) (halft : al ≠ ft) (hfft : f ≠ ft) (hq : qs.length = 1) (h3 : 3 ≤ fs.length) (h5 : fs.length ≤ 5) (hkd : (kk = 0 ∧ k1 = 1 ∧ dd = 48) ∨ (kk = 1 ∧ k1 = 2 ∧ dd = 49) ∨ (kk = 2 ∧ k1 = 3 ∧ dd = 50)) (el : fs.length = 4) :
   Ct l Z EL1 n0 (⟨"com/example/estate4/estate4/jdbc/SelectText", "crossJoin", "(Ljava/lang/String;)Ljava/lang/String;"⟩ : MethodName) prog_6_method_11_code 3 (Option.some (FieldType.object "java/lang/String")) ({ frames := 7, cells := 9, slots := 224, locals := 104 } : Room) #[(.ref x), (.ref g)] h WL FL (Q_cj Z kk k1 dd x al f ft fs g gu qs h) := by
 refine Ct.of (plainFor_of_name pn11) ?_
 intro p e s m below meth c s1 hx w hml hnm hret hlk X0
 refine Wo.cast (f' := (mkF m 0 #[.val (.ref x), .val (.ref g), .unset] [])) (by rfl) ?_
 have K0 : Keep h h [x, al, f, ft] := Keep.refl _ _
 show Wo _ _ _ _ _ _ _ _ _ _ _ s1 (mkF m 0 #[.val (.ref x), .val (.ref g), .unset] [])
 refine P.aloadN X0 hx 1 (hb w d43_0) rfl rfl rfl ?_
 refine P.iconst X0 hx 2 1 (hb w d43_1) rfl rfl ?_
 refine X0.putF hx (host := "") (Or.inl (w250 cx)) Via.refl P3 P0 (Or.inl (w251 cx)) (w27 cx) (ty := .boolean) (by decide) rfl rfl P8 (hb w d43_2) ?_
 intro T1 h1 X1 W1 G1
 have K2 := K0.wr W1 (Or.inl (mg 0 rfl))
 refine P.aloadN X1 hx 6 (hb w d43_5) rfl rfl rfl ?_
 have F3 := P1.other W1 (Or.inr (slot_ne (Or.inr (w94 cx)) (Or.inl (w251 cx)) (by decide) (t := (.object "com/example/estate4/estate4/jdbc/SelectText$Aliases")) (t' := .boolean) (by decide) (by decide)))
 refine X1.getF hx (host := "") (Or.inl (w93 cx)) Via.refl F3 (hb w d43_6) ?_
 intro T4 X4
 have F5 := P4.wr W1
 have F6 := P5.other W1 (Or.inl (Ne.symm hxal))
 refine X4.callV hx (w97 cx) (w98 cx) (w100 cx) (w99 cx) (fun _ hZ => nf hZ (w100 cx)) (by decide) F5 (Ct.pay (W := 0) (ct_nextg cx al kk k1 dd h1 _ _ F5 F6 P9 hkd) (w101 cx) (w34 cx) (nle rfl) (nle rfl)) (by rw [hml]; rfl) (argsL := []) (rest := []) (lenOf pd24 rfl) rfl rfl (nle rfl) (hb w d43_9) (nle rfl) (nle rfl) ?_
 rintro T7 h7 _ _ _ X7 ⟨a8, a9, rfl, rfl, rfl, J7, g12, G10, G11⟩
 have ge13 := Nat.le_trans K2.1 g12
 have K14 := K2.trans J7 (allS (Or.inl (mg 1 rfl)) all0)
 have X15 := WS.drop (A := []) (B := WL) X7
 refine P.astoreN X15 hx 13 #[.val (.ref x), .val (.ref g), .val (.ref a8)] (hb w d43_12) rfl rfl rfl ?_
 refine P.aloadN X15 hx 14 (hb w d43_13) rfl rfl rfl ?_
 have F16 := (P2.other W1 (Or.inr (slot_ne (Or.inr (w92 cx)) (Or.inl (w251 cx)) (by decide) (t := (.object "java/lang/StringBuilder")) (t' := .boolean) (by decide) (by decide)))).keep J7 (ninS hxal nin0)
 refine X15.getF hx (host := "") (Or.inl (w91 cx)) Via.refl F16 (hb w d43_14) ?_
 intro T17 X17
 refine X17.ldc hx (w252 cx) (strAtoms cx) (by decide) (vs := [(.int 32), (.int 99), (.int 114), (.int 111), (.int 115), (.int 115), (.int 32), (.int 106), (.int 111), (.int 105), (.int 110), (.int 32)]) (z := (12 : Int32)) ⟨by decide, by decide⟩ (by decide) rfl (hb w d43_17) (n := 48) (nle rfl) (nle rfl) (nle rfl) (nle rfl) ?_
 intro T18 h18 a18 b18 k18 X18 E18 A18 C18 V18 B18
 have K19 := K14.ext E18
 have S20 : StrL Z h18 a18 b18 [(32 : Int32), 99, 114, 111, 115, 115, 32, 106, 111, 105, 110, 32] := ⟨A18, V18, C18, ⟨_, B18⟩, (by decide), nle rfl⟩
 have F21 := ((P6.1.wr W1).keep J7).ext E18
 have F22 := ((P6.wr W1 (Ne.symm hxf) (Ne.symm hxft)).keep J7 (ninS (Ne.symm half) nin0) (ninS (Ne.symm halft) nin0)).ext E18
 refine X18.callV hx (w220 cx) (w106 cx) (w108 cx) (w107 cx) (fun _ hZ => nf hZ (w108 cx)) (by decide) F21 (Ct.pay (W := 0) (ct_sbappN cx f a18 b18 ft 16 fs ([(32 : Int32), 99, 114, 111, 115, 115, 32, 106, 111, 105, 110, 32]) h18 _ _ F22 S20 P10 P11 hfft (by simp <;> omega)) (w109 cx) (w75 cx) (nle rfl) (nle rfl)) (by rw [hml]; rfl) (argsL := [.ref a18]) (rest := []) (lenOf pd26 rfl) rfl rfl (nle rfl) (hb w d43_19) (nle rfl) (nle rfl) ?_
 rintro T23 h23 _ _ _ X23 ⟨rfl, rfl, rfl, J23, G24⟩
 have K25 := K19.trans J23 (allS (Or.inl (mg 2 rfl)) (allS (Or.inl (mg 3 rfl)) all0))
 refine P.aloadN X23 hx 23 (hb w d43_22) rfl rfl rfl ?_
 have F26 := (((P7.wr W1 (X23.neF (mc (mc (mc (mc P12)))) P8) (X23.neF (mc (mc (mc (mc P13)))) P8)).keep J7 (ninS (X23.neF (mc (mc (mc (mc P12)))) P9) nin0) (ninS (X23.neF (mc (mc (mc (mc P13)))) P9) nin0)).ext E18).keep J23 (ninS (X23.neF (mc (mc (mc (mc P12)))) P10) (ninS (X23.neF (mc (mc (mc (mc P12)))) P11) nin0)) (ninS (X23.neF (mc (mc (mc (mc P13)))) P10) (ninS (X23.neF (mc (mc (mc (mc P13)))) P11) nin0))
 refine X23.callV hx (w220 cx) (w106 cx) (w108 cx) (w107 cx) (fun _ hZ => nf hZ (w108 cx)) (by decide) G24.1 (Ct.pay (W := 0) (ct_sbappA cx f g gu ft 16 (fs ++ [(32 : Int32), 99, 114, 111, 115, 115, 32, 106, 111, 105, 110, 32]) qs h23 _ _ G24 F26 P10 P11 hfft (mc (mc (mc (mc P12)))) (mc (mc (mc (mc P13)))) (by simp <;> omega) (by simp <;> omega) (nle rfl) (nle rfl)) (w109 cx) (w75 cx) (nle rfl) (nle rfl)) (by rw [hml]; rfl) (argsL := [.ref g]) (rest := []) (lenOf pd26 rfl) rfl rfl (nle rfl) (hb w d43_23) (nle rfl) (nle rfl) ?_
 rintro T27 h27 _ _ _ X27 ⟨a28, rfl, rfl, rfl, J27, g30, G29⟩
 have ge31 := Nat.le_trans K25.1 g30
 have K32 := K25.trans J27 (allS (Or.inl (mg 2 rfl)) all0)
 refine P.bipush X27 hx 28 32 (hb w d43_26) rfl rfl ?_
 refine X27.callV hx (w221 cx) (w222 cx) (w224 cx) (w223 cx) (fun _ hZ => nf hZ (w224 cx)) (by decide) G29.1 (Ct.pay (W := 0) (ct_sbapc cx f a28 (2 * 16 + 2) ((fs ++ [(32 : Int32), 99, 114, 111, 115, 115, 32, 106, 111, 105, 110, 32]) ++ qs) (32 : Int32) h27 _ _ G29 (mc P10) (mg 0 rfl) (Ne.symm (X27.neT (A := [a28]) (B := WL) (mg 0 rfl) P10)) (by simp <;> omega) (by decide)) (w225 cx) (w75 cx) (nle rfl) (nle rfl)) (by rw [hml]; rfl) (argsL := [.int 32]) (rest := []) (lenOf pd29 rfl) rfl rfl (nle rfl) (hb w d43_28) (nle rfl) (nle rfl) ?_
 rintro T33 h33 _ _ _ X33 ⟨rfl, rfl, rfl, J33, G34⟩
 have K35 := K32.trans J33 (allS (Or.inl (mg 2 rfl)) (allS (Or.inr ge31) all0))
 refine P.aloadN X33 hx 32 (hb w d43_31) rfl rfl rfl ?_
 have F36 := (((G10.ext E18).keep J23 (ninS (X33.neF (mg 2 rfl) (mc P10)) (ninS (X33.neF (mg 2 rfl) (mc P11)) nin0)) (ninS (X33.neF (mg 3 rfl) (mc P10)) (ninS (X33.neF (mg 3 rfl) (mc P11)) nin0))).keep J27 (ninS (X33.neF (mg 2 rfl) (mc P10)) nin0) (ninS (X33.neF (mg 3 rfl) (mc P10)) nin0)).keep J33 (ninS (X33.neF (mg 2 rfl) (mc P10)) (ninS (X33.neF (mg 2 rfl) (mg 0 rfl)) nin0)) (ninS (X33.neF (mg 3 rfl) (mc P10)) (ninS (X33.neF (mg 3 rfl) (mg 0 rfl)) nin0))
 refine X33.callV hx (w220 cx) (w106 cx) (w108 cx) (w107 cx) (fun _ hZ => nf hZ (w108 cx)) (by decide) G34.1 (Ct.pay (W := 0) (ct_sbappN cx f a8 a9 a28 (2 * 16 + 2) (((fs ++ [(32 : Int32), 99, 114, 111, 115, 115, 32, 106, 111, 105, 110, 32]) ++ qs) ++ [(32 : Int32)]) ([(116 : Int32), dd]) h33 _ _ G34 F36 (mc P10) (mg 0 rfl) (Ne.symm (X33.neT (A := [a28]) (B := WL) (mg 0 rfl) P10)) (by simp <;> omega)) (w109 cx) (w75 cx) (nle rfl) (nle rfl)) (by rw [hml]; rfl) (argsL := [.ref a8]) (rest := []) (lenOf pd26 rfl) rfl rfl (nle rfl) (hb w d43_32) (nle rfl) (nle rfl) ?_
 rintro T37 h37 _ _ _ X37 ⟨rfl, rfl, rfl, J37, G38⟩
 have K39 := K35.trans J37 (allS (Or.inl (mg 2 rfl)) (allS (Or.inr ge31) all0))
 refine P.pop X37 hx 36 (hb w d43_35) rfl rfl ?_
 refine P.aloadN X37 hx 37 (hb w d43_36) rfl rfl rfl ?_
 have F40 := ((((F16.ext E18).keep J23 (ninS hxf (ninS hxft nin0))).keep J27 (ninS hxf nin0)).keep J33 (ninS hxf (ninS (Ne.symm (X37.neT (A := [a28]) (B := WL) (mg 0 rfl) P8)) nin0))).keep J37 (ninS hxf (ninS (Ne.symm (X37.neT (A := [a28]) (B := WL) (mg 0 rfl) P8)) nin0))
 have X41 := WS.fl (FL2 := FL) X37 (fun y hy => (List.mem_append_right [a18, b18, a8, a9] hy))
 exact WS.retA X41 (WL' := [a28]) (FL' := []) hx hret rfl rfl hlk (hb w d43_37) (nle rfl) (nle rfl) ⟨a8, a28, rfl, rfl, rfl, K39, ge31, F40, G38⟩
theorem ct_cj_3 (cx : Cx a0 Z gC gF v_AL v_DO k_DO) (kk : Int32) (k1 : Int32) (dd : Int32) (x : Addr) (al : Addr) (f : Addr) (ft : Addr) (fs : List Int32) (g : Addr) (gu : Addr) (qs : List Int32) (h : Heap) (WL FL : List Addr) (P0 : Exa Z h x "com/example/estate4/estate4/jdbc/SelectText") (P1 : Fld Z h x "com/example/estate4/estate4/jdbc/SelectText" "aliases" "Lcom/example/estate4/estate4/jdbc/SelectText$Aliases;" (.ref al)) (P2 : Fld Z h x "com/example/estate4/estate4/jdbc/SelectText" "from" "Ljava/lang/StringBuilder;" (.ref f)) (P3 : Fld Z h x "com/example/estate4/estate4/jdbc/SelectText" "joins" "Z" (.int 0)) (P4 : Exa Z h al "com/example/estate4/estate4/jdbc/SelectText$Aliases") (P5 : Fld Z h al "com/example/estate4/estate4/jdbc/SelectText$Aliases" "handedOut" "I" (.int kk)) (P6 : SB Z h f ft 16 fs) (P7 : StrL Z h g gu qs) (P8 : x ∈ WL) (P9 : al ∈ WL) (P10 : f ∈ WL) (P11 : ft ∈ WL) (P12 : g ∈ FL) (P13 : gu ∈ FL) (hxal : x ≠ al) (hxf : x ≠ f) (hxft : x ≠ ft) (half : al ≠ f) (halft : al ≠ ft) (hfft : f ≠ ft) (hq : qs.length = 1) (h3 : 3 ≤ fs.length) (h5 : fs.length ≤ 5) (hkd : (kk = 0 ∧ k1 = 1 ∧ dd = 48) ∨ (kk = 1 ∧ k1 = 2 ∧ dd = 49) ∨ (kk = 2 ∧ k1 = 3 ∧ dd = 50)) (el : fs.length = 3) :
   Ct l Z EL1 n0 (⟨"com/example/estate4/estate4/jdbc/SelectText", "crossJoin", "(Ljava/lang/String;)Ljava/lang/String;"⟩ : MethodName) prog_6_method_11_code 3 (Option.some (FieldType.object "java/lang/String")) ({ frames := 7, cells := 9, slots := 224, locals := 104 } : Room) #[(.ref x), (.ref g)] h WL FL (Q_cj Z kk k1 dd x al f ft fs g gu qs h) := by
 refine Ct.of (plainFor_of_name pn11) ?_
 intro p e s m below meth c s1 hx w hml hnm hret hlk X0
 refine Wo.cast (f' := (mkF m 0 #[.val (.ref x), .val (.ref g), .unset] [])) (by rfl) ?_
 have K0 : Keep h h [x, al, f, ft] := Keep.refl _ _
 show Wo _ _ _ _ _ _ _ _ _ _ _ s1 (mkF m 0 #[.val (.ref x), .val (.ref g), .unset] [])
 refine P.aloadN X0 hx 1 (hb w d43_0) rfl rfl rfl ?_
 refine P.iconst X0 hx 2 1 (hb w d43_1) rfl rfl ?_
 refine X0.putF hx (host := "") (Or.inl (w250 cx)) Via.refl P3 P0 (Or.inl (w251 cx)) (w27 cx) (ty := .boolean) (by decide) rfl rfl P8 (hb w d43_2) ?_
 intro T1 h1 X1 W1 G1
 have K2 := K0.wr W1 (Or.inl (mg 0 rfl))
 refine P.aloadN X1 hx 6 (hb w d43_5) rfl rfl rfl ?_
 have F3 := P1.other W1 (Or.inr (slot_ne (Or.inr (w94 cx)) (Or.inl (w251 cx)) (by decide) (t := (.object "com/example/estate4/estate4/jdbc/SelectText$Aliases")) (t' := .boolean) (by decide) (by decide)))
 refine X1.getF hx (host := "") (Or.inl (w93 cx)) Via.refl F3 (hb w d43_6) ?_
 intro T4 X4
 have F5 := P4.wr W1
 have F6 := P5.other W1 (Or.inl (Ne.symm hxal))
 refine X4.callV hx (w97 cx) (w98 cx) (w100 cx) (w99 cx) (fun _ hZ => nf hZ (w100 cx)) (by decide) F5 (Ct.pay (W := 0) (ct_nextg cx al kk k1 dd h1 _ _ F5 F6 P9 hkd) (w101 cx) (w34 cx) (nle rfl) (nle rfl)) (by rw [hml]; rfl) (argsL := []) (rest := []) (lenOf pd24 rfl) rfl rfl (nle rfl) (hb w d43_9) (nle rfl) (nle rfl) ?_
 rintro T7 h7 _ _ _ X7 ⟨a8, a9, rfl, rfl, rfl, J7, g12, G10, G11⟩
 have ge13 := Nat.le_trans K2.1 g12
 have K14 := K2.trans J7 (allS (Or.inl (mg 1 rfl)) all0)
 have X15 := WS.drop (A := []) (B := WL) X7
 refine P.astoreN X15 hx 13 #[.val (.ref x), .val (.ref g), .val (.ref a8)] (hb w d43_12) rfl rfl rfl ?_
 refine P.aloadN X15 hx 14 (hb w d43_13) rfl rfl rfl ?_
 have F16 := (P2.other W1 (Or.inr (slot_ne (Or.inr (w92 cx)) (Or.inl (w251 cx)) (by decide) (t := (.object "java/lang/StringBuilder")) (t' := .boolean) (by decide) (by decide)))).keep J7 (ninS hxal nin0)
 refine X15.getF hx (host := "") (Or.inl (w91 cx)) Via.refl F16 (hb w d43_14) ?_
 intro T17 X17
 refine X17.ldc hx (w252 cx) (strAtoms cx) (by decide) (vs := [(.int 32), (.int 99), (.int 114), (.int 111), (.int 115), (.int 115), (.int 32), (.int 106), (.int 111), (.int 105), (.int 110), (.int 32)]) (z := (12 : Int32)) ⟨by decide, by decide⟩ (by decide) rfl (hb w d43_17) (n := 48) (nle rfl) (nle rfl) (nle rfl) (nle rfl) ?_
 intro T18 h18 a18 b18 k18 X18 E18 A18 C18 V18 B18
 have K19 := K14.ext E18
 have S20 : StrL Z h18 a18 b18 [(32 : Int32), 99, 114, 111, 115, 115, 32, 106, 111, 105, 110, 32] := ⟨A18, V18, C18, ⟨_, B18⟩, (by decide), nle rfl⟩
 have F21 := ((P6.1.wr W1).keep J7).ext E18
 have F22 := ((P6.wr W1 (Ne.symm hxf) (Ne.symm hxft)).keep J7 (ninS (Ne.symm half) nin0) (ninS (Ne.symm halft) nin0)).ext E18
 refine X18.callV hx (w220 cx) (w106 cx) (w108 cx) (w107 cx) (fun _ hZ => nf hZ (w108 cx)) (by decide) F21 (Ct.pay (W := 0) (ct_sbappN cx f a18 b18 ft 16 fs ([(32 : Int32), 99, 114, 111, 115, 115, 32, 106, 111, 105, 110, 32]) h18 _ _ F22 S20 P10 P11 hfft (by simp <;> omega)) (w109 cx) (w75 cx) (nle rfl) (nle rfl)) (by rw [hml]; rfl) (argsL := [.ref a18]) (rest := []) (lenOf pd26 rfl) rfl rfl (nle rfl) (hb w d43_19) (nle rfl) (nle rfl) ?_
 rintro T23 h23 _ _ _ X23 ⟨rfl, rfl, rfl, J23, G24⟩
 have K25 := K19.trans J23 (allS (Or.inl (mg 2 rfl)) (allS (Or.inl (mg 3 rfl)) all0))
 refine P.aloadN X23 hx 23 (hb w d43_22) rfl rfl rfl ?_
 have F26 := (((P7.wr W1 (X23.neF (mc (mc (mc (mc P12)))) P8) (X23.neF (mc (mc (mc (mc P13)))) P8)).keep J7 (ninS (X23.neF (mc (mc (mc (mc P12)))) P9) nin0) (ninS (X23.neF (mc (mc (mc (mc P13)))) P9) nin0)).ext E18).keep J23 (ninS (X23.neF (mc (mc (mc (mc P12)))) P10) (ninS (X23.neF (mc (mc (mc (mc P12)))) P11) nin0)) (ninS (X23.neF (mc (mc (mc (mc P13)))) P10) (ninS (X23.neF (mc (mc (mc (mc P13)))) P11) nin0))
 refine X23.callV hx (w220 cx) (w106 cx) (w108 cx) (w107 cx) (fun _ hZ => nf hZ (w108 cx)) (by decide) G24.1 (Ct.pay (W := 0) (ct_sbappN cx f g gu ft 16 (fs ++ [(32 : Int32), 99, 114, 111, 115, 115, 32, 106, 111, 105, 110, 32]) qs h23 _ _ G24 F26 P10 P11 hfft (by simp <;> omega)) (w109 cx) (w75 cx) (nle rfl) (nle rfl)) (by rw [hml]; rfl) (argsL := [.ref g]) (rest := []) (lenOf pd26 rfl) rfl rfl (nle rfl) (hb w d43_23) (nle rfl) (nle rfl) ?_
 rintro T27 h27 _ _ _ X27 ⟨rfl, rfl, rfl, J27, G28⟩
 have K29 := K25.trans J27 (allS (Or.inl (mg 2 rfl)) (allS (Or.inl (mg 3 rfl)) all0))
 refine P.bipush X27 hx 28 32 (hb w d43_26) rfl rfl ?_
 refine X27.callV hx (w221 cx) (w222 cx) (w224 cx) (w223 cx) (fun _ hZ => nf hZ (w224 cx)) (by decide) G28.1 (Ct.pay (W := 0) (ct_sbapcA cx f ft 16 ((fs ++ [(32 : Int32), 99, 114, 111, 115, 115, 32, 106, 111, 105, 110, 32]) ++ qs) (32 : Int32) h27 _ _ G28 P10 P11 hfft (by simp <;> omega) (by simp <;> omega) (nle rfl) (nle rfl) (by decide)) (w225 cx) (w75 cx) (nle rfl) (nle rfl)) (by rw [hml]; rfl) (argsL := [.int 32]) (rest := []) (lenOf pd29 rfl) rfl rfl (nle rfl) (hb w d43_28) (nle rfl) (nle rfl) ?_
 rintro T30 h30 _ _ _ X30 ⟨a31, rfl, rfl, rfl, J30, g33, G32⟩
 have ge34 := Nat.le_trans K29.1 g33
 have K35 := K29.trans J30 (allS (Or.inl (mg 2 rfl)) all0)
 refine P.aloadN X30 hx 32 (hb w d43_31) rfl rfl rfl ?_
 have F36 := (((G10.ext E18).keep J23 (ninS (X30.neF (mg 2 rfl) (mc P10)) (ninS (X30.neF (mg 2 rfl) (mc P11)) nin0)) (ninS (X30.neF (mg 3 rfl) (mc P10)) (ninS (X30.neF (mg 3 rfl) (mc P11)) nin0))).keep J27 (ninS (X30.neF (mg 2 rfl) (mc P10)) (ninS (X30.neF (mg 2 rfl) (mc P11)) nin0)) (ninS (X30.neF (mg 3 rfl) (mc P10)) (ninS (X30.neF (mg 3 rfl) (mc P11)) nin0))).keep J30 (ninS (X30.neF (mg 2 rfl) (mc P10)) nin0) (ninS (X30.neF (mg 3 rfl) (mc P10)) nin0)
 refine X30.callV hx (w220 cx) (w106 cx) (w108 cx) (w107 cx) (fun _ hZ => nf hZ (w108 cx)) (by decide) G32.1 (Ct.pay (W := 0) (ct_sbappN cx f a8 a9 a31 (2 * 16 + 2) (((fs ++ [(32 : Int32), 99, 114, 111, 115, 115, 32, 106, 111, 105, 110, 32]) ++ qs) ++ [(32 : Int32)]) ([(116 : Int32), dd]) h30 _ _ G32 F36 (mc P10) (mg 0 rfl) (Ne.symm (X30.neT (A := [a31]) (B := WL) (mg 0 rfl) P10)) (by simp <;> omega)) (w109 cx) (w75 cx) (nle rfl) (nle rfl)) (by rw [hml]; rfl) (argsL := [.ref a8]) (rest := []) (lenOf pd26 rfl) rfl rfl (nle rfl) (hb w d43_32) (nle rfl) (nle rfl) ?_
 rintro T37 h37 _ _ _ X37 ⟨rfl, rfl, rfl, J37, G38⟩
 have K39 := K35.trans J37 (allS (Or.inl (mg 2 rfl)) (allS (Or.inr ge34) all0))
 refine P.pop X37 hx 36 (hb w d43_35) rfl rfl ?_
 refine P.aloadN X37 hx 37 (hb w d43_36) rfl rfl rfl ?_
 have F40 := ((((F16.ext E18).keep J23 (ninS hxf (ninS hxft nin0))).keep J27 (ninS hxf (ninS hxft nin0))).keep J30 (ninS hxf nin0)).keep J37 (ninS hxf (ninS (Ne.symm (X37.neT (A := [a31]) (B := WL) (mg 0 rfl) P8)) nin0))
 have X41 := WS.fl (FL2 := FL) X37 (fun y hy => (List.mem_append_right [a18, b18, a8, a9] hy))
 exact WS.retA X41 (WL' := [a31]) (FL' := []) hx hret rfl rfl hlk (hb w d43_37) (nle rfl) (nle rfl) ⟨a8, a31, rfl, rfl, rfl, K39, ge34, F40, G38⟩
theorem ct_cj (cx : Cx a0 Z gC gF v_AL v_DO k_DO) (kk : Int32) (k1 : Int32) (dd : Int32) (x : Addr) (al : Addr) (f : Addr) (ft : Addr) (fs : List Int32) (g : Addr) (gu : Addr) (qs : List Int32) (h : Heap) (WL FL : List Addr) (P0 : Exa Z h x "com/example/estate4/estate4/jdbc/SelectText") (P1 : Fld Z h x "com/example/estate4/estate4/jdbc/SelectText" "aliases" "Lcom/example/estate4/estate4/jdbc/SelectText$Aliases;" (.ref al)) (P2 : Fld Z h x "com/example/estate4/estate4/jdbc/SelectText" "from" "Ljava/lang/StringBuilder;" (.ref f)) (P3 : Fld Z h x "com/example/estate4/estate4/jdbc/SelectText" "joins" "Z" (.int 0)) (P4 : Exa Z h al "com/example/estate4/estate4/jdbc/SelectText$Aliases") (P5 : Fld Z h al "com/example/estate4/estate4/jdbc/SelectText$Aliases" "handedOut" "I" (.int kk)) (P6 : SB Z h f ft 16 fs) (P7 : StrL Z h g gu qs) (P8 : x ∈ WL) (P9 : al ∈ WL) (P10 : f ∈ WL) (P11 : ft ∈ WL) (P12 : g ∈ FL) (P13 : gu ∈ FL) (hxal : x ≠ al) (hxf : x ≠ f) (hxft : x ≠ ft) (half : al ≠ f) (halft : al ≠ ft) (hfft : f ≠ ft) (hq : qs.length = 1) (h3 : 3 ≤ fs.length) (h5 : fs.length ≤ 5) (hkd : (kk = 0 ∧ k1 = 1 ∧ dd = 48) ∨ (kk = 1 ∧ k1 = 2 ∧ dd = 49) ∨ (kk = 2 ∧ k1 = 3 ∧ dd = 50)) :
   Ct l Z EL1 n0 (⟨"com/example/estate4/estate4/jdbc/SelectText", "crossJoin", "(Ljava/lang/String;)Ljava/lang/String;"⟩ : MethodName) prog_6_method_11_code 3 (Option.some (FieldType.object "java/lang/String")) ({ frames := 7, cells := 9, slots := 224, locals := 104 } : Room) #[(.ref x), (.ref g)] h WL FL (Q_cj Z kk k1 dd x al f ft fs g gu qs h) := by
 have hc : fs.length = 5 ∨ fs.length = 4 ∨ fs.length = 3 := by omega
 rcases hc with el | el | el
 · exact ct_cj_5 cx kk k1 dd x al f ft fs g gu qs h WL FL P0 P1 P2 P3 P4 P5 P6 P7 P8 P9 P10 P11 P12 P13 hxal hxf hxft half halft hfft hq h3 h5 hkd el
 · exact ct_cj_4 cx kk k1 dd x al f ft fs g gu qs h WL FL P0 P1 P2 P3 P4 P5 P6 P7 P8 P9 P10 P11 P12 P13 hxal hxf hxft half halft hfft hq h3 h5 hkd el
 · exact ct_cj_3 cx kk k1 dd x al f ft fs g gu qs h WL FL P0 P1 P2 P3 P4 P5 P6 P7 P8 P9 P10 P11 P12 P13 hxal hxf hxft half halft hfft hq h3 h5 hkd el
def Q_exi0 (Z : State) (x : Addr) (f : Addr) (ft : Addr) (fs : List Int32) (g : Addr) (gu : Addr) (ds : List Int32) (h : Heap) (v : Option Value) (h' : Heap) (WL' FL' : List Addr) : Prop := ∃ r : Addr, ∃ u : Addr, v = some (.ref r) ∧ WL' = [r] ∧ FL' = [u] ∧ Keep h h' [] ∧ h.size ≤ r ∧ StrL Z h' r u ((((([] ++ [(101 : Int32), 120, 105, 115, 116, 115, 32, 40, 115, 101, 108, 101, 99, 116, 32, 49, 32, 102, 114, 111, 109, 32]) ++ fs) ++ [(32 : Int32), 119, 104, 101, 114, 101, 32]) ++ ds) ++ [(41 : Int32)])
theorem ct_exi0_0 (cx : Cx a0 Z gC gF v_AL v_DO k_DO) (x : Addr) (f : Addr) (ft : Addr) (fs : List Int32) (g : Addr) (gu : Addr) (ds : List Int32) (h : Heap) (WL FL : List Addr) (P0 : Exa Z h x "com/example/estate4/estate4/jdbc/SelectText") (P1 : Fld Z h x "com/example/estate4/estate4/jdbc/SelectText" "from" "Ljava/lang/StringBuilder;" (.ref f)) (P2 : SB Z h f ft 16 fs) (P3 : StrL Z h g gu ds) (P4 : x ∈ WL) (P5 : f ∈ WL) (P6 : ft ∈ WL) (P7 : g ∈ FL) (P8 : gu ∈ FL) (hd : ds.length ≤ 2) (h3 : 3 ≤ fs.length) (h5 : fs.length ≤ 5) (el : fs.length + ds.length = 3) :
   Ct l Z EL1 n0 (⟨"com/example/estate4/estate4/jdbc/SelectText", "exists", "(Ljava/lang/String;)Ljava/lang/String;"⟩ : MethodName) prog_6_method_22_code 2 (Option.some (FieldType.object "java/lang/String")) ({ frames := 8, cells := 14, slots := 440, locals := 117 } : Room) #[(.ref x), (.ref g)] h WL FL (Q_exi0 Z x f ft fs g gu ds h) := by
 refine Ct.of (plainFor_of_name pn11) ?_
 intro p e s m below meth c s1 hx w hml hnm hret hlk X0
 refine Wo.cast (f' := (mkF m 0 #[.val (.ref x), .val (.ref g)] [])) (by rfl) ?_
 have K0 : Keep h h [] := Keep.refl _ _
 show Wo _ _ _ _ _ _ _ _ _ _ _ s1 (mkF m 0 #[.val (.ref x), .val (.ref g)] [])
 refine X0.newO hx (w73 cx) (w74 cx) (w75 cx) (hb w d48_0) (nle rfl) (nle rfl) ?_
 intro T1 h1 a1 X1 E1 g1 A1 D1
 have ge2 := Nat.le_trans K0.1 g1
 have K3 := K0.ext E1
 have D4 : Fld Z h1 a1 "java/lang/AbstractStringBuilder" "value" "[B" .null := D1 (Or.inl (w88 cx)) (ty := (.array .byte)) (by decide)
 have D5 : Fld Z h1 a1 "java/lang/AbstractStringBuilder" "coder" "B" (.int 0) := D1 (Or.inl (w90 cx)) (ty := .byte) (by decide)
 have D6 : Fld Z h1 a1 "java/lang/AbstractStringBuilder" "count" "I" (.int 0) := D1 (Or.inl (w127 cx)) (ty := .int) (by decide)
 refine P.dup X1 hx 4 (hb w d48_3) rfl rfl ?_
 refine X1.callC hx rfl (w76 cx) (w77 cx) (w78 cx) (by decide) (Ct.pay (W := 1) (ct_sbini cx a1 h1 _ _ A1 D4 D5 D6 (mg 0 rfl)) (w78 cx) (w75 cx) (nle rfl) (nle rfl)) (by rw [hml]; rfl) (argsL := []) (rest := [.ref a1]) (lenOf pd27 rfl) rfl rfl (nle rfl) (hb w d48_4) (nle rfl) (nle rfl) ?_
 rintro T7 h7 _ _ _ X7 ⟨a8, rfl, rfl, rfl, J7, g10, G9⟩
 have ge11 := Nat.le_trans K3.1 g10
 have K12 := K3.trans J7 (allS (Or.inr ge2) all0)
 refine X7.ldc hx (w275 cx) (strAtoms cx) (by decide) (vs := [(.int 101), (.int 120), (.int 105), (.int 115), (.int 116), (.int 115), (.int 32), (.int 40), (.int 115), (.int 101), (.int 108), (.int 101), (.int 99), (.int 116), (.int 32), (.int 49), (.int 32), (.int 102), (.int 114), (.int 111), (.int 109), (.int 32)]) (z := (22 : Int32)) ⟨by decide, by decide⟩ (by decide) rfl (hb w d48_7) (n := 88) (nle rfl) (nle rfl) (nle rfl) (nle rfl) ?_
 intro T13 h13 a13 b13 k13 X13 E13 A13 C13 V13 B13
 have K14 := K12.ext E13
 have S15 : StrL Z h13 a13 b13 [(101 : Int32), 120, 105, 115, 116, 115, 32, 40, 115, 101, 108, 101, 99, 116, 32, 49, 32, 102, 114, 111, 109, 32] := ⟨A13, V13, C13, ⟨_, B13⟩, (by decide), nle rfl⟩
 have F16 := G9.1.ext E13
 have F17 := G9.ext E13
 refine X13.callV hx (w220 cx) (w106 cx) (w108 cx) (w107 cx) (fun _ hZ => nf hZ (w108 cx)) (by decide) F16 (Ct.pay (W := 0) (ct_sbappA cx a1 a13 b13 a8 16 ([]) ([(101 : Int32), 120, 105, 115, 116, 115, 32, 40, 115, 101, 108, 101, 99, 116, 32, 49, 32, 102, 114, 111, 109, 32]) h13 _ _ F17 S15 (mg 1 rfl) (mg 0 rfl) (X13.ne (i := 1) (j := 0) rfl rfl (by decide)) (mg 0 rfl) (mg 1 rfl) (by simp <;> omega) (by simp <;> omega) (nle rfl) (nle rfl)) (w109 cx) (w75 cx) (nle rfl) (nle rfl)) (by rw [hml]; rfl) (argsL := [.ref a13]) (rest := []) (lenOf pd26 rfl) rfl rfl (nle rfl) (hb w d48_9) (nle rfl) (nle rfl) ?_
 rintro T18 h18 _ _ _ X18 ⟨a19, rfl, rfl, rfl, J18, g21, G20⟩
 have ge22 := Nat.le_trans K14.1 g21
 have K23 := K14.trans J18 (allS (Or.inr ge2) all0)
 refine P.aloadN X18 hx 13 (hb w d48_12) rfl rfl rfl ?_
 have F24 := (((P1.ext E1).keep J7 (ninS (Ne.symm (X18.neT (A := [a19, a8, a1]) (B := WL) (mg 2 rfl) P4)) nin0)).ext E13).keep J18 (ninS (Ne.symm (X18.neT (A := [a19, a8, a1]) (B := WL) (mg 2 rfl) P4)) nin0)
 refine X18.getF hx (host := "") (Or.inl (w91 cx)) Via.refl F24 (hb w d48_13) ?_
 intro T25 X25
 have F26 := (((P2.ext E1).keep J7 (ninS (Ne.symm (X25.neT (A := [a19, a8, a1]) (B := WL) (mg 2 rfl) P5)) nin0) (ninS (Ne.symm (X25.neT (A := [a19, a8, a1]) (B := WL) (mg 2 rfl) P6)) nin0)).ext E13).keep J18 (ninS (Ne.symm (X25.neT (A := [a19, a8, a1]) (B := WL) (mg 2 rfl) P5)) nin0) (ninS (Ne.symm (X25.neT (A := [a19, a8, a1]) (B := WL) (mg 2 rfl) P6)) nin0)
 refine X25.callV hx (w276 cx) (w277 cx) (w279 cx) (w278 cx) (fun _ hZ => nf hZ (w279 cx)) (by decide) G20.1 (Ct.pay (W := 0) (ct_sbapON cx a1 a19 (2 * 16 + 2) ([] ++ [(101 : Int32), 120, 105, 115, 116, 115, 32, 40, 115, 101, 108, 101, 99, 116, 32, 49, 32, 102, 114, 111, 109, 32]) f ft 16 fs h18 _ _ G20 (mg 2 rfl) (mg 0 rfl) (X25.ne (i := 2) (j := 0) rfl rfl (by decide)) F26 (mc (mc (mc P5))) (mc (mc (mc P6))) (by omega) (by omega) (by simp <;> omega)) (w280 cx) (w75 cx) (nle rfl) (nle rfl)) (by rw [hml]; rfl) (argsL := [.ref f]) (rest := []) (lenOf pd31 rfl) rfl rfl (nle rfl) (hb w d48_16) (nle rfl) (nle rfl) ?_
 rintro T27 h27 _ _ _ X27 ⟨rfl, rfl, rfl, J27, G28⟩
 have K29 := K23.trans J27 (allS (Or.inr ge2) (allS (Or.inr ge22) all0))
 refine X27.ldc hx (w289 cx) (strAtoms cx) (by decide) (vs := [(.int 32), (.int 119), (.int 104), (.int 101), (.int 114), (.int 101), (.int 32)]) (z := (7 : Int32)) ⟨by decide, by decide⟩ (by decide) rfl (hb w d48_19) (n := 28) (nle rfl) (nle rfl) (nle rfl) (nle rfl) ?_
 intro T30 h30 a30 b30 k30 X30 E30 A30 C30 V30 B30
 have K31 := K29.ext E30
 have S32 : StrL Z h30 a30 b30 [(32 : Int32), 119, 104, 101, 114, 101, 32] := ⟨A30, V30, C30, ⟨_, B30⟩, (by decide), nle rfl⟩
 have F33 := G28.1.ext E30
 have F34 := G28.ext E30
 refine X30.callV hx (w220 cx) (w106 cx) (w108 cx) (w107 cx) (fun _ hZ => nf hZ (w108 cx)) (by decide) F33 (Ct.pay (W := 0) (ct_sbappN cx a1 a30 b30 a19 (2 * 16 + 2) (([] ++ [(101 : Int32), 120, 105, 115, 116, 115, 32, 40, 115, 101, 108, 101, 99, 116, 32, 49, 32, 102, 114, 111, 109, 32]) ++ fs) ([(32 : Int32), 119, 104, 101, 114, 101, 32]) h30 _ _ F34 S32 (mg 2 rfl) (mg 0 rfl) (X30.ne (i := 2) (j := 0) rfl rfl (by decide)) (by simp <;> omega)) (w109 cx) (w75 cx) (nle rfl) (nle rfl)) (by rw [hml]; rfl) (argsL := [.ref a30]) (rest := []) (lenOf pd26 rfl) rfl rfl (nle rfl) (hb w d48_21) (nle rfl) (nle rfl) ?_
 rintro T35 h35 _ _ _ X35 ⟨rfl, rfl, rfl, J35, G36⟩
 have K37 := K31.trans J35 (allS (Or.inr ge2) (allS (Or.inr ge22) all0))
 refine P.aloadN X35 hx 25 (hb w d48_24) rfl rfl rfl ?_
 have F38 := ((((((P3.ext E1).keep J7 (ninS (X35.neF (mc (mc (mc (mc P7)))) (mg 2 rfl)) nin0) (ninS (X35.neF (mc (mc (mc (mc P8)))) (mg 2 rfl)) nin0)).ext E13).keep J18 (ninS (X35.neF (mc (mc (mc (mc P7)))) (mg 2 rfl)) nin0) (ninS (X35.neF (mc (mc (mc (mc P8)))) (mg 2 rfl)) nin0)).keep J27 (ninS (X35.neF (mc (mc (mc (mc P7)))) (mg 2 rfl)) (ninS (X35.neF (mc (mc (mc (mc P7)))) (mg 0 rfl)) nin0)) (ninS (X35.neF (mc (mc (mc (mc P8)))) (mg 2 rfl)) (ninS (X35.neF (mc (mc (mc (mc P8)))) (mg 0 rfl)) nin0))).ext E30).keep J35 (ninS (X35.neF (mc (mc (mc (mc P7)))) (mg 2 rfl)) (ninS (X35.neF (mc (mc (mc (mc P7)))) (mg 0 rfl)) nin0)) (ninS (X35.neF (mc (mc (mc (mc P8)))) (mg 2 rfl)) (ninS (X35.neF (mc (mc (mc (mc P8)))) (mg 0 rfl)) nin0))
 refine X35.callV hx (w220 cx) (w106 cx) (w108 cx) (w107 cx) (fun _ hZ => nf hZ (w108 cx)) (by decide) G36.1 (Ct.pay (W := 0) (ct_sbappN cx a1 g gu a19 (2 * 16 + 2) ((([] ++ [(101 : Int32), 120, 105, 115, 116, 115, 32, 40, 115, 101, 108, 101, 99, 116, 32, 49, 32, 102, 114, 111, 109, 32]) ++ fs) ++ [(32 : Int32), 119, 104, 101, 114, 101, 32]) ds h35 _ _ G36 F38 (mg 2 rfl) (mg 0 rfl) (X35.ne (i := 2) (j := 0) rfl rfl (by decide)) (by simp <;> omega)) (w109 cx) (w75 cx) (nle rfl) (nle rfl)) (by rw [hml]; rfl) (argsL := [.ref g]) (rest := []) (lenOf pd26 rfl) rfl rfl (nle rfl) (hb w d48_25) (nle rfl) (nle rfl) ?_
 rintro T39 h39 _ _ _ X39 ⟨rfl, rfl, rfl, J39, G40⟩
 have K41 := K37.trans J39 (allS (Or.inr ge2) (allS (Or.inr ge22) all0))
 refine X39.ldc hx (w290 cx) (strAtoms cx) (by decide) (vs := [(.int 41)]) (z := (1 : Int32)) ⟨by decide, by decide⟩ (by decide) rfl (hb w d48_28) (n := 4) (nle rfl) (nle rfl) (nle rfl) (nle rfl) ?_
 intro T42 h42 a42 b42 k42 X42 E42 A42 C42 V42 B42
 have K43 := K41.ext E42
 have S44 : StrL Z h42 a42 b42 [(41 : Int32)] := ⟨A42, V42, C42, ⟨_, B42⟩, (by decide), nle rfl⟩
 have F45 := G40.1.ext E42
 have F46 := G40.ext E42
 refine X42.callV hx (w220 cx) (w106 cx) (w108 cx) (w107 cx) (fun _ hZ => nf hZ (w108 cx)) (by decide) F45 (Ct.pay (W := 0) (ct_sbappN cx a1 a42 b42 a19 (2 * 16 + 2) (((([] ++ [(101 : Int32), 120, 105, 115, 116, 115, 32, 40, 115, 101, 108, 101, 99, 116, 32, 49, 32, 102, 114, 111, 109, 32]) ++ fs) ++ [(32 : Int32), 119, 104, 101, 114, 101, 32]) ++ ds) ([(41 : Int32)]) h42 _ _ F46 S44 (mg 2 rfl) (mg 0 rfl) (X42.ne (i := 2) (j := 0) rfl rfl (by decide)) (by simp <;> omega)) (w109 cx) (w75 cx) (nle rfl) (nle rfl)) (by rw [hml]; rfl) (argsL := [.ref a42]) (rest := []) (lenOf pd26 rfl) rfl rfl (nle rfl) (hb w d48_30) (nle rfl) (nle rfl) ?_
 rintro T47 h47 _ _ _ X47 ⟨rfl, rfl, rfl, J47, G48⟩
 have K49 := K43.trans J47 (allS (Or.inr ge2) (allS (Or.inr ge22) all0))
 refine X47.callV hx (w291 cx) (w178 cx) (w180 cx) (w179 cx) (fun _ hZ => nf hZ (w180 cx)) (by decide) G48.1 (Ct.pay (W := 0) (ct_sbstr cx a1 a19 (2 * 16 + 2) ((((([] ++ [(101 : Int32), 120, 105, 115, 116, 115, 32, 40, 115, 101, 108, 101, 99, 116, 32, 49, 32, 102, 114, 111, 109, 32]) ++ fs) ++ [(32 : Int32), 119, 104, 101, 114, 101, 32]) ++ ds) ++ [(41 : Int32)]) h47 _ _ G48 (mg 2 rfl) (mg 0 rfl) (by simp <;> omega) (by simp <;> omega)) (w181 cx) (w75 cx) (nle rfl) (nle rfl)) (by rw [hml]; rfl) (argsL := []) (rest := []) (lenOf pd24 rfl) rfl rfl (nle rfl) (hb w d48_33) (nle rfl) (nle rfl) ?_
 rintro T50 h50 _ _ _ X50 ⟨a51, a52, rfl, rfl, rfl, J50, g54, G53⟩
 have ge55 := Nat.le_trans K49.1 g54
 have K56 := K49.trans J50 all0
 have X57 := WS.drop (A := [a51]) (B := (a8 :: a1 :: WL)) X50
 have X58 := WS.drop (A := [a51]) (B := (a1 :: WL)) X57
 have X59 := WS.drop (A := [a51]) (B := WL) X58
 have X60 := WS.fl (FL2 := (a52 :: FL)) X59 (fun y hy => (List.mem_cons.mp hy).elim (fun q => q ▸ (mg 3 rfl)) (fun q0 => (List.mem_append_right [a1, a8, a19, a52, a42, b42, a30, b30, a13, b13] q0)))
 exact WS.retA X60 (WL' := [a51]) (FL' := [a52]) hx hret rfl rfl hlk (hb w d48_36) (nle rfl) (nle rfl) ⟨a51, a52, rfl, rfl, rfl, K56, ge55, G53⟩
theorem ct_exi0_1 (cx : Cx a0 Z gC gF v_AL v_DO k_DO) (x : Addr) (f : Addr) (ft : Addr) (fs : List Int32) (g : Addr) (gu : Addr) (ds : List Int32) (h : Heap) (WL FL : List Addr) (P0 : Exa Z h x "com/example/estate4/estate4/jdbc/SelectText") (P1 : Fld Z h x "com/example/estate4/estate4/jdbc/SelectText" "from" "Ljava/lang/StringBuilder;" (.ref f)) (P2 : SB Z h f ft 16 fs) (P3 : StrL Z h g gu ds) (P4 : x ∈ WL) (P5 : f ∈ WL) (P6 : ft ∈ WL) (P7 : g ∈ FL) (P8 : gu ∈ FL) (hd : ds.length ≤ 2) (h3 : 3 ≤ fs.length) (h5 : fs.length ≤ 5) (el : fs.length + ds.length = 4) :
   Ct l Z EL1 n0 (⟨"com/example/estate4/estate4/jdbc/SelectText", "exists", "(Ljava/lang/String;)Ljava/lang/String;"⟩ : MethodName) prog_6_method_22_code 2 (Option.some (FieldType.object "java/lang/String")) ({ frames := 8, cells := 14, slots := 440, locals := 117 } : Room) #[(.ref x), (.ref g)] h WL FL (Q_exi0 Z x f ft fs g gu ds h) := by
 refine Ct.of (plainFor_of_name pn11) ?_
 intro p e s m below meth c s1 hx w hml hnm hret hlk X0
 refine Wo.cast (f' := (mkF m 0 #[.val (.ref x), .val (.ref g)] [])) (by rfl) ?_
 have K0 : Keep h h [] := Keep.refl _ _
 show Wo _ _ _ _ _ _ _ _ _ _ _ s1 (mkF m 0 #[.val (.ref x), .val (.ref g)] [])
 refine X0.newO hx (w73 cx) (w74 cx) (w75 cx) (hb w d48_0) (nle rfl) (nle rfl) ?_
 intro T1 h1 a1 X1 E1 g1 A1 D1
 have ge2 := Nat.le_trans K0.1 g1
 have K3 := K0.ext E1
 have D4 : Fld Z h1 a1 "java/lang/AbstractStringBuilder" "value" "[B" .null := D1 (Or.inl (w88 cx)) (ty := (.array .byte)) (by decide)
 have D5 : Fld Z h1 a1 "java/lang/AbstractStringBuilder" "coder" "B" (.int 0) := D1 (Or.inl (w90 cx)) (ty := .byte) (by decide)
 have D6 : Fld Z h1 a1 "java/lang/AbstractStringBuilder" "count" "I" (.int 0) := D1 (Or.inl (w127 cx)) (ty := .int) (by decide)
 refine P.dup X1 hx 4 (hb w d48_3) rfl rfl ?_
 refine X1.callC hx rfl (w76 cx) (w77 cx) (w78 cx) (by decide) (Ct.pay (W := 1) (ct_sbini cx a1 h1 _ _ A1 D4 D5 D6 (mg 0 rfl)) (w78 cx) (w75 cx) (nle rfl) (nle rfl)) (by rw [hml]; rfl) (argsL := []) (rest := [.ref a1]) (lenOf pd27 rfl) rfl rfl (nle rfl) (hb w d48_4) (nle rfl) (nle rfl) ?_
 rintro T7 h7 _ _ _ X7 ⟨a8, rfl, rfl, rfl, J7, g10, G9⟩
 have ge11 := Nat.le_trans K3.1 g10
 have K12 := K3.trans J7 (allS (Or.inr ge2) all0)
 refine X7.ldc hx (w275 cx) (strAtoms cx) (by decide) (vs := [(.int 101), (.int 120), (.int 105), (.int 115), (.int 116), (.int 115), (.int 32), (.int 40), (.int 115), (.int 101), (.int 108), (.int 101), (.int 99), (.int 116), (.int 32), (.int 49), (.int 32), (.int 102), (.int 114), (.int 111), (.int 109), (.int 32)]) (z := (22 : Int32)) ⟨by decide, by decide⟩ (by decide) rfl (hb w d48_7) (n := 88) (nle rfl) (nle rfl) (nle rfl) (nle rfl) ?_
 intro T13 h13 a13 b13 k13 X13 E13 A13 C13 V13 B13
 have K14 := K12.ext E13
 have S15 : StrL Z h13 a13 b13 [(101 : Int32), 120, 105, 115, 116, 115, 32, 40, 115, 101, 108, 101, 99, 116, 32, 49, 32, 102, 114, 111, 109, 32] := ⟨A13, V13, C13, ⟨_, B13⟩, (by decide), nle rfl⟩
 have F16 := G9.1.ext E13
 have F17 := G9.ext E13
 refine X13.callV hx (w220 cx) (w106 cx) (w108 cx) (w107 cx) (fun _ hZ => nf hZ (w108 cx)) (by decide) F16 (Ct.pay (W := 0) (ct_sbappA cx a1 a13 b13 a8 16 ([]) ([(101 : Int32), 120, 105, 115, 116, 115, 32, 40, 115, 101, 108, 101, 99, 116, 32, 49, 32, 102, 114, 111, 109, 32]) h13 _ _ F17 S15 (mg 1 rfl) (mg 0 rfl) (X13.ne (i := 1) (j := 0) rfl rfl (by decide)) (mg 0 rfl) (mg 1 rfl) (by simp <;> omega) (by simp <;> omega) (nle rfl) (nle rfl)) (w109 cx) (w75 cx) (nle rfl) (nle rfl)) (by rw [hml]; rfl) (argsL := [.ref a13]) (rest := []) (lenOf pd26 rfl) rfl rfl (nle rfl) (hb w d48_9) (nle rfl) (nle rfl) ?_
 rintro T18 h18 _ _ _ X18 ⟨a19, rfl, rfl, rfl, J18, g21, G20⟩
 have ge22 := Nat.le_trans K14.1 g21
 have K23 := K14.trans J18 (allS (Or.inr ge2) all0)
 refine P.aloadN X18 hx 13 (hb w d48_12) rfl rfl rfl ?_
 have F24 := (((P1.ext E1).keep J7 (ninS (Ne.symm (X18.neT (A := [a19, a8, a1]) (B := WL) (mg 2 rfl) P4)) nin0)).ext E13).keep J18 (ninS (Ne.symm (X18.neT (A := [a19, a8, a1]) (B := WL) (mg 2 rfl) P4)) nin0)
 refine X18.getF hx (host := "") (Or.inl (w91 cx)) Via.refl F24 (hb w d48_13) ?_
 intro T25 X25
 have F26 := (((P2.ext E1).keep J7 (ninS (Ne.symm (X25.neT (A := [a19, a8, a1]) (B := WL) (mg 2 rfl) P5)) nin0) (ninS (Ne.symm (X25.neT (A := [a19, a8, a1]) (B := WL) (mg 2 rfl) P6)) nin0)).ext E13).keep J18 (ninS (Ne.symm (X25.neT (A := [a19, a8, a1]) (B := WL) (mg 2 rfl) P5)) nin0) (ninS (Ne.symm (X25.neT (A := [a19, a8, a1]) (B := WL) (mg 2 rfl) P6)) nin0)
 refine X25.callV hx (w276 cx) (w277 cx) (w279 cx) (w278 cx) (fun _ hZ => nf hZ (w279 cx)) (by decide) G20.1 (Ct.pay (W := 0) (ct_sbapON cx a1 a19 (2 * 16 + 2) ([] ++ [(101 : Int32), 120, 105, 115, 116, 115, 32, 40, 115, 101, 108, 101, 99, 116, 32, 49, 32, 102, 114, 111, 109, 32]) f ft 16 fs h18 _ _ G20 (mg 2 rfl) (mg 0 rfl) (X25.ne (i := 2) (j := 0) rfl rfl (by decide)) F26 (mc (mc (mc P5))) (mc (mc (mc P6))) (by omega) (by omega) (by simp <;> omega)) (w280 cx) (w75 cx) (nle rfl) (nle rfl)) (by rw [hml]; rfl) (argsL := [.ref f]) (rest := []) (lenOf pd31 rfl) rfl rfl (nle rfl) (hb w d48_16) (nle rfl) (nle rfl) ?_
 rintro T27 h27 _ _ _ X27 ⟨rfl, rfl, rfl, J27, G28⟩
 have K29 := K23.trans J27 (allS (Or.inr ge2) (allS (Or.inr ge22) all0))
 refine X27.ldc hx (w289 cx) (strAtoms cx) (by decide) (vs := [(.int 32), (.int 119), (.int 104), (.int 101), (.int 114), (.int 101), (.int 32)]) (z := (7 : Int32)) ⟨by decide, by decide⟩ (by decide) rfl (hb w d48_19) (n := 28) (nle rfl) (nle rfl) (nle rfl) (nle rfl) ?_
 intro T30 h30 a30 b30 k30 X30 E30 A30 C30 V30 B30
 have K31 := K29.ext E30
 have S32 : StrL Z h30 a30 b30 [(32 : Int32), 119, 104, 101, 114, 101, 32] := ⟨A30, V30, C30, ⟨_, B30⟩, (by decide), nle rfl⟩
 have F33 := G28.1.ext E30
 have F34 := G28.ext E30
 refine X30.callV hx (w220 cx) (w106 cx) (w108 cx) (w107 cx) (fun _ hZ => nf hZ (w108 cx)) (by decide) F33 (Ct.pay (W := 0) (ct_sbappN cx a1 a30 b30 a19 (2 * 16 + 2) (([] ++ [(101 : Int32), 120, 105, 115, 116, 115, 32, 40, 115, 101, 108, 101, 99, 116, 32, 49, 32, 102, 114, 111, 109, 32]) ++ fs) ([(32 : Int32), 119, 104, 101, 114, 101, 32]) h30 _ _ F34 S32 (mg 2 rfl) (mg 0 rfl) (X30.ne (i := 2) (j := 0) rfl rfl (by decide)) (by simp <;> omega)) (w109 cx) (w75 cx) (nle rfl) (nle rfl)) (by rw [hml]; rfl) (argsL := [.ref a30]) (rest := []) (lenOf pd26 rfl) rfl rfl (nle rfl) (hb w d48_21) (nle rfl) (nle rfl) ?_
 rintro T35 h35 _ _ _ X35 ⟨rfl, rfl, rfl, J35, G36⟩
 have K37 := K31.trans J35 (allS (Or.inr ge2) (allS (Or.inr ge22) all0))
 refine P.aloadN X35 hx 25 (hb w d48_24) rfl rfl rfl ?_
 have F38 := ((((((P3.ext E1).keep J7 (ninS (X35.neF (mc (mc (mc (mc P7)))) (mg 2 rfl)) nin0) (ninS (X35.neF (mc (mc (mc (mc P8)))) (mg 2 rfl)) nin0)).ext E13).keep J18 (ninS (X35.neF (mc (mc (mc (mc P7)))) (mg 2 rfl)) nin0) (ninS (X35.neF (mc (mc (mc (mc P8)))) (mg 2 rfl)) nin0)).keep J27 (ninS (X35.neF (mc (mc (mc (mc P7)))) (mg 2 rfl)) (ninS (X35.neF (mc (mc (mc (mc P7)))) (mg 0 rfl)) nin0)) (ninS (X35.neF (mc (mc (mc (mc P8)))) (mg 2 rfl)) (ninS (X35.neF (mc (mc (mc (mc P8)))) (mg 0 rfl)) nin0))).ext E30).keep J35 (ninS (X35.neF (mc (mc (mc (mc P7)))) (mg 2 rfl)) (ninS (X35.neF (mc (mc (mc (mc P7)))) (mg 0 rfl)) nin0)) (ninS (X35.neF (mc (mc (mc (mc P8)))) (mg 2 rfl)) (ninS (X35.neF (mc (mc (mc (mc P8)))) (mg 0 rfl)) nin0))
 refine X35.callV hx (w220 cx) (w106 cx) (w108 cx) (w107 cx) (fun _ hZ => nf hZ (w108 cx)) (by decide) G36.1 (Ct.pay (W := 0) (ct_sbappN cx a1 g gu a19 (2 * 16 + 2) ((([] ++ [(101 : Int32), 120, 105, 115, 116, 115, 32, 40, 115, 101, 108, 101, 99, 116, 32, 49, 32, 102, 114, 111, 109, 32]) ++ fs) ++ [(32 : Int32), 119, 104, 101, 114, 101, 32]) ds h35 _ _ G36 F38 (mg 2 rfl) (mg 0 rfl) (X35.ne (i := 2) (j := 0) rfl rfl (by decide)) (by simp <;> omega)) (w109 cx) (w75 cx) (nle rfl) (nle rfl)) (by rw [hml]; rfl) (argsL := [.ref g]) (rest := []) (lenOf pd26 rfl) rfl rfl (nle rfl) (hb w d48_25) (nle rfl) (nle rfl) ?_
 rintro T39 h39 _ _ _ X39 ⟨rfl, rfl, rfl, J39, G40⟩
 have K41 := K37.trans J39 (allS (Or.inr ge2) (allS (Or.inr ge22) all0))
 refine X39.ldc hx (w290 cx) (strAtoms cx) (by decide) (vs := [(.int 41)]) (z := (1 : Int32)) ⟨by decide, by decide⟩ (by decide) rfl (hb w d48_28) (n := 4) (nle rfl) (nle rfl) (nle rfl) (nle rfl) ?_
 intro T42 h42 a42 b42 k42 X42 E42 A42 C42 V42 B42
 have K43 := K41.ext E42
 have S44 : StrL Z h42 a42 b42 [(41 : Int32)] := ⟨A42, V42, C42, ⟨_, B42⟩, (by decide), nle rfl⟩
 have F45 := G40.1.ext E42
 have F46 := G40.ext E42
 refine X42.callV hx (w220 cx) (w106 cx) (w108 cx) (w107 cx) (fun _ hZ => nf hZ (w108 cx)) (by decide) F45 (Ct.pay (W := 0) (ct_sbappN cx a1 a42 b42 a19 (2 * 16 + 2) (((([] ++ [(101 : Int32), 120, 105, 115, 116, 115, 32, 40, 115, 101, 108, 101, 99, 116, 32, 49, 32, 102, 114, 111, 109, 32]) ++ fs) ++ [(32 : Int32), 119, 104, 101, 114, 101, 32]) ++ ds) ([(41 : Int32)]) h42 _ _ F46 S44 (mg 2 rfl) (mg 0 rfl) (X42.ne (i := 2) (j := 0) rfl rfl (by decide)) (by simp <;> omega)) (w109 cx) (w75 cx) (nle rfl) (nle rfl)) (by rw [hml]; rfl) (argsL := [.ref a42]) (rest := []) (lenOf pd26 rfl) rfl rfl (nle rfl) (hb w d48_30) (nle rfl) (nle rfl) ?_
 rintro T47 h47 _ _ _ X47 ⟨rfl, rfl, rfl, J47, G48⟩
 have K49 := K43.trans J47 (allS (Or.inr ge2) (allS (Or.inr ge22) all0))
 refine X47.callV hx (w291 cx) (w178 cx) (w180 cx) (w179 cx) (fun _ hZ => nf hZ (w180 cx)) (by decide) G48.1 (Ct.pay (W := 0) (ct_sbstrF cx a1 a19 (2 * 16 + 2) ((((([] ++ [(101 : Int32), 120, 105, 115, 116, 115, 32, 40, 115, 101, 108, 101, 99, 116, 32, 49, 32, 102, 114, 111, 109, 32]) ++ fs) ++ [(32 : Int32), 119, 104, 101, 114, 101, 32]) ++ ds) ++ [(41 : Int32)]) h47 _ _ G48 (mg 2 rfl) (mg 0 rfl) (by simp <;> omega) (by simp <;> omega)) (w181 cx) (w75 cx) (nle rfl) (nle rfl)) (by rw [hml]; rfl) (argsL := []) (rest := []) (lenOf pd24 rfl) rfl rfl (nle rfl) (hb w d48_33) (nle rfl) (nle rfl) ?_
 rintro T50 h50 _ _ _ X50 ⟨a51, a52, rfl, rfl, rfl, J50, g54, G53⟩
 have ge55 := Nat.le_trans K49.1 g54
 have K56 := K49.trans J50 all0
 have X57 := WS.drop (A := [a51]) (B := (a8 :: a1 :: WL)) X50
 have X58 := WS.drop (A := [a51]) (B := (a1 :: WL)) X57
 have X59 := WS.drop (A := [a51]) (B := WL) X58
 have X60 := WS.fl (FL2 := (a52 :: FL)) X59 (fun y hy => (List.mem_cons.mp hy).elim (fun q => q ▸ (mg 3 rfl)) (fun q0 => (List.mem_append_right [a1, a8, a19, a52, a42, b42, a30, b30, a13, b13] q0)))
 exact WS.retA X60 (WL' := [a51]) (FL' := [a52]) hx hret rfl rfl hlk (hb w d48_36) (nle rfl) (nle rfl) ⟨a51, a52, rfl, rfl, rfl, K56, ge55, G53⟩
theorem ct_exi0_2 (cx : Cx a0 Z gC gF v_AL v_DO k_DO) (x : Addr) (f : Addr) (ft : Addr) (fs : List Int32) (g : Addr) (gu : Addr) (ds : List Int32) (h : Heap) (WL FL : List Addr) (P0 : Exa Z h x "com/example/estate4/estate4/jdbc/SelectText") (P1 : Fld Z h x "com/example/estate4/estate4/jdbc/SelectText" "from" "Ljava/lang/StringBuilder;" (.ref f)) (P2 : SB Z h f ft 16 fs) (P3 : StrL Z h g gu ds) (P4 : x ∈ WL) (P5 : f ∈ WL) (P6 : ft ∈ WL) (P7 : g ∈ FL) (P8 : gu ∈ FL) (hd : ds.length ≤ 2) (h3 : 3 ≤ fs.length) (h5 : fs.length ≤ 5) (el : fs.length + ds.length = 5) :
   Ct l Z EL1 n0 (⟨"com/example/estate4/estate4/jdbc/SelectText", "exists", "(Ljava/lang/String;)Ljava/lang/String;"⟩ : MethodName) prog_6_method_22_code 2 (Option.some (FieldType.object "java/lang/String")) ({ frames := 8, cells := 14, slots := 440, locals := 117 } : Room) #[(.ref x), (.ref g)] h WL FL (Q_exi0 Z x f ft fs g gu ds h) := by
 refine Ct.of (plainFor_of_name pn11) ?_
 intro p e s m below meth c s1 hx w hml hnm hret hlk X0
 refine Wo.cast (f' := (mkF m 0 #[.val (.ref x), .val (.ref g)] [])) (by rfl) ?_
 have K0 : Keep h h [] := Keep.refl _ _
 show Wo _ _ _ _ _ _ _ _ _ _ _ s1 (mkF m 0 #[.val (.ref x), .val (.ref g)] [])
 refine X0.newO hx (w73 cx) (w74 cx) (w75 cx) (hb w d48_0) (nle rfl) (nle rfl) ?_
 intro T1 h1 a1 X1 E1 g1 A1 D1
 have ge2 := Nat.le_trans K0.1 g1
 have K3 := K0.ext E1
 have D4 : Fld Z h1 a1 "java/lang/AbstractStringBuilder" "value" "[B" .null := D1 (Or.inl (w88 cx)) (ty := (.array .byte)) (by decide)
 have D5 : Fld Z h1 a1 "java/lang/AbstractStringBuilder" "coder" "B" (.int 0) := D1 (Or.inl (w90 cx)) (ty := .byte) (by decide)
 have D6 : Fld Z h1 a1 "java/lang/AbstractStringBuilder" "count" "I" (.int 0) := D1 (Or.inl (w127 cx)) (ty := .int) (by decide)
 refine P.dup X1 hx 4 (hb w d48_3) rfl rfl ?_
 refine X1.callC hx rfl (w76 cx) (w77 cx) (w78 cx) (by decide) (Ct.pay (W := 1) (ct_sbini cx a1 h1 _ _ A1 D4 D5 D6 (mg 0 rfl)) (w78 cx) (w75 cx) (nle rfl) (nle rfl)) (by rw [hml]; rfl) (argsL := []) (rest := [.ref a1]) (lenOf pd27 rfl) rfl rfl (nle rfl) (hb w d48_4) (nle rfl) (nle rfl) ?_
 rintro T7 h7 _ _ _ X7 ⟨a8, rfl, rfl, rfl, J7, g10, G9⟩
 have ge11 := Nat.le_trans K3.1 g10
 have K12 := K3.trans J7 (allS (Or.inr ge2) all0)
 refine X7.ldc hx (w275 cx) (strAtoms cx) (by decide) (vs := [(.int 101), (.int 120), (.int 105), (.int 115), (.int 116), (.int 115), (.int 32), (.int 40), (.int 115), (.int 101), (.int 108), (.int 101), (.int 99), (.int 116), (.int 32), (.int 49), (.int 32), (.int 102), (.int 114), (.int 111), (.int 109), (.int 32)]) (z := (22 : Int32)) ⟨by decide, by decide⟩ (by decide) rfl (hb w d48_7) (n := 88) (nle rfl) (nle rfl) (nle rfl) (nle rfl) ?_
 intro T13 h13 a13 b13 k13 X13 E13 A13 C13 V13 B13
 have K14 := K12.ext E13
 have S15 : StrL Z h13 a13 b13 [(101 : Int32), 120, 105, 115, 116, 115, 32, 40, 115, 101, 108, 101, 99, 116, 32, 49, 32, 102, 114, 111, 109, 32] := ⟨A13, V13, C13, ⟨_, B13⟩, (by decide), nle rfl⟩
 have F16 := G9.1.ext E13
 have F17 := G9.ext E13
 refine X13.callV hx (w220 cx) (w106 cx) (w108 cx) (w107 cx) (fun _ hZ => nf hZ (w108 cx)) (by decide) F16 (Ct.pay (W := 0) (ct_sbappA cx a1 a13 b13 a8 16 ([]) ([(101 : Int32), 120, 105, 115, 116, 115, 32, 40, 115, 101, 108, 101, 99, 116, 32, 49, 32, 102, 114, 111, 109, 32]) h13 _ _ F17 S15 (mg 1 rfl) (mg 0 rfl) (X13.ne (i := 1) (j := 0) rfl rfl (by decide)) (mg 0 rfl) (mg 1 rfl) (by simp <;> omega) (by simp <;> omega) (nle rfl) (nle rfl)) (w109 cx) (w75 cx) (nle rfl) (nle rfl)) (by rw [hml]; rfl) (argsL := [.ref a13]) (rest := []) (lenOf pd26 rfl) rfl rfl (nle rfl) (hb w d48_9) (nle rfl) (nle rfl) ?_
 rintro T18 h18 _ _ _ X18 ⟨a19, rfl, rfl, rfl, J18, g21, G20⟩
 have ge22 := Nat.le_trans K14.1 g21
 have K23 := K14.trans J18 (allS (Or.inr ge2) all0)
 refine P.aloadN X18 hx 13 (hb w d48_12) rfl rfl rfl ?_
 have F24 := (((P1.ext E1).keep J7 (ninS (Ne.symm (X18.neT (A := [a19, a8, a1]) (B := WL) (mg 2 rfl) P4)) nin0)).ext E13).keep J18 (ninS (Ne.symm (X18.neT (A := [a19, a8, a1]) (B := WL) (mg 2 rfl) P4)) nin0)
 refine X18.getF hx (host := "") (Or.inl (w91 cx)) Via.refl F24 (hb w d48_13) ?_
 intro T25 X25
 have F26 := (((P2.ext E1).keep J7 (ninS (Ne.symm (X25.neT (A := [a19, a8, a1]) (B := WL) (mg 2 rfl) P5)) nin0) (ninS (Ne.symm (X25.neT (A := [a19, a8, a1]) (B := WL) (mg 2 rfl) P6)) nin0)).ext E13).keep J18 (ninS (Ne.symm (X25.neT (A := [a19, a8, a1]) (B := WL) (mg 2 rfl) P5)) nin0) (ninS (Ne.symm (X25.neT (A := [a19, a8, a1]) (B := WL) (mg 2 rfl) P6)) nin0)
 refine X25.callV hx (w276 cx) (w277 cx) (w279 cx) (w278 cx) (fun _ hZ => nf hZ (w279 cx)) (by decide) G20.1 (Ct.pay (W := 0) (ct_sbapON cx a1 a19 (2 * 16 + 2) ([] ++ [(101 : Int32), 120, 105, 115, 116, 115, 32, 40, 115, 101, 108, 101, 99, 116, 32, 49, 32, 102, 114, 111, 109, 32]) f ft 16 fs h18 _ _ G20 (mg 2 rfl) (mg 0 rfl) (X25.ne (i := 2) (j := 0) rfl rfl (by decide)) F26 (mc (mc (mc P5))) (mc (mc (mc P6))) (by omega) (by omega) (by simp <;> omega)) (w280 cx) (w75 cx) (nle rfl) (nle rfl)) (by rw [hml]; rfl) (argsL := [.ref f]) (rest := []) (lenOf pd31 rfl) rfl rfl (nle rfl) (hb w d48_16) (nle rfl) (nle rfl) ?_
 rintro T27 h27 _ _ _ X27 ⟨rfl, rfl, rfl, J27, G28⟩
 have K29 := K23.trans J27 (allS (Or.inr ge2) (allS (Or.inr ge22) all0))
 refine X27.ldc hx (w289 cx) (strAtoms cx) (by decide) (vs := [(.int 32), (.int 119), (.int 104), (.int 101), (.int 114), (.int 101), (.int 32)]) (z := (7 : Int32)) ⟨by decide, by decide⟩ (by decide) rfl (hb w d48_19) (n := 28) (nle rfl) (nle rfl) (nle rfl) (nle rfl) ?_
 intro T30 h30 a30 b30 k30 X30 E30 A30 C30 V30 B30
 have K31 := K29.ext E30
 have S32 : StrL Z h30 a30 b30 [(32 : Int32), 119, 104, 101, 114, 101, 32] := ⟨A30, V30, C30, ⟨_, B30⟩, (by decide), nle rfl⟩
 have F33 := G28.1.ext E30
 have F34 := G28.ext E30
 refine X30.callV hx (w220 cx) (w106 cx) (w108 cx) (w107 cx) (fun _ hZ => nf hZ (w108 cx)) (by decide) F33 (Ct.pay (W := 0) (ct_sbappN cx a1 a30 b30 a19 (2 * 16 + 2) (([] ++ [(101 : Int32), 120, 105, 115, 116, 115, 32, 40, 115, 101, 108, 101, 99, 116, 32, 49, 32, 102, 114, 111, 109, 32]) ++ fs) ([(32 : Int32), 119, 104, 101, 114, 101, 32]) h30 _ _ F34 S32 (mg 2 rfl) (mg 0 rfl) (X30.ne (i := 2) (j := 0) rfl rfl (by decide)) (by simp <;> omega)) (w109 cx) (w75 cx) (nle rfl) (nle rfl)) (by rw [hml]; rfl) (argsL := [.ref a30]) (rest := []) (lenOf pd26 rfl) rfl rfl (nle rfl) (hb w d48_21) (nle rfl) (nle rfl) ?_
 rintro T35 h35 _ _ _ X35 ⟨rfl, rfl, rfl, J35, G36⟩
 have K37 := K31.trans J35 (allS (Or.inr ge2) (allS (Or.inr ge22) all0))
 refine P.aloadN X35 hx 25 (hb w d48_24) rfl rfl rfl ?_
 have F38 := ((((((P3.ext E1).keep J7 (ninS (X35.neF (mc (mc (mc (mc P7)))) (mg 2 rfl)) nin0) (ninS (X35.neF (mc (mc (mc (mc P8)))) (mg 2 rfl)) nin0)).ext E13).keep J18 (ninS (X35.neF (mc (mc (mc (mc P7)))) (mg 2 rfl)) nin0) (ninS (X35.neF (mc (mc (mc (mc P8)))) (mg 2 rfl)) nin0)).keep J27 (ninS (X35.neF (mc (mc (mc (mc P7)))) (mg 2 rfl)) (ninS (X35.neF (mc (mc (mc (mc P7)))) (mg 0 rfl)) nin0)) (ninS (X35.neF (mc (mc (mc (mc P8)))) (mg 2 rfl)) (ninS (X35.neF (mc (mc (mc (mc P8)))) (mg 0 rfl)) nin0))).ext E30).keep J35 (ninS (X35.neF (mc (mc (mc (mc P7)))) (mg 2 rfl)) (ninS (X35.neF (mc (mc (mc (mc P7)))) (mg 0 rfl)) nin0)) (ninS (X35.neF (mc (mc (mc (mc P8)))) (mg 2 rfl)) (ninS (X35.neF (mc (mc (mc (mc P8)))) (mg 0 rfl)) nin0))
 refine X35.callV hx (w220 cx) (w106 cx) (w108 cx) (w107 cx) (fun _ hZ => nf hZ (w108 cx)) (by decide) G36.1 (Ct.pay (W := 0) (ct_sbappN cx a1 g gu a19 (2 * 16 + 2) ((([] ++ [(101 : Int32), 120, 105, 115, 116, 115, 32, 40, 115, 101, 108, 101, 99, 116, 32, 49, 32, 102, 114, 111, 109, 32]) ++ fs) ++ [(32 : Int32), 119, 104, 101, 114, 101, 32]) ds h35 _ _ G36 F38 (mg 2 rfl) (mg 0 rfl) (X35.ne (i := 2) (j := 0) rfl rfl (by decide)) (by simp <;> omega)) (w109 cx) (w75 cx) (nle rfl) (nle rfl)) (by rw [hml]; rfl) (argsL := [.ref g]) (rest := []) (lenOf pd26 rfl) rfl rfl (nle rfl) (hb w d48_25) (nle rfl) (nle rfl) ?_
 rintro T39 h39 _ _ _ X39 ⟨rfl, rfl, rfl, J39, G40⟩
 have K41 := K37.trans J39 (allS (Or.inr ge2) (allS (Or.inr ge22) all0))
 refine X39.ldc hx (w290 cx) (strAtoms cx) (by decide) (vs := [(.int 41)]) (z := (1 : Int32)) ⟨by decide, by decide⟩ (by decide) rfl (hb w d48_28) (n := 4) (nle rfl) (nle rfl) (nle rfl) (nle rfl) ?_
 intro T42 h42 a42 b42 k42 X42 E42 A42 C42 V42 B42
 have K43 := K41.ext E42
 have S44 : StrL Z h42 a42 b42 [(41 : Int32)] := ⟨A42, V42, C42, ⟨_, B42⟩, (by decide), nle rfl⟩
 have F45 := G40.1.ext E42
 have F46 := G40.ext E42
 refine X42.callV hx (w220 cx) (w106 cx) (w108 cx) (w107 cx) (fun _ hZ => nf hZ (w108 cx)) (by decide) F45 (Ct.pay (W := 0) (ct_sbappA cx a1 a42 b42 a19 (2 * 16 + 2) (((([] ++ [(101 : Int32), 120, 105, 115, 116, 115, 32, 40, 115, 101, 108, 101, 99, 116, 32, 49, 32, 102, 114, 111, 109, 32]) ++ fs) ++ [(32 : Int32), 119, 104, 101, 114, 101, 32]) ++ ds) ([(41 : Int32)]) h42 _ _ F46 S44 (mg 2 rfl) (mg 0 rfl) (X42.ne (i := 2) (j := 0) rfl rfl (by decide)) (mg 0 rfl) (mg 1 rfl) (by simp <;> omega) (by simp <;> omega) (nle rfl) (nle rfl)) (w109 cx) (w75 cx) (nle rfl) (nle rfl)) (by rw [hml]; rfl) (argsL := [.ref a42]) (rest := []) (lenOf pd26 rfl) rfl rfl (nle rfl) (hb w d48_30) (nle rfl) (nle rfl) ?_
 rintro T47 h47 _ _ _ X47 ⟨a48, rfl, rfl, rfl, J47, g50, G49⟩
 have ge51 := Nat.le_trans K43.1 g50
 have K52 := K43.trans J47 (allS (Or.inr ge2) all0)
 refine X47.callV hx (w291 cx) (w178 cx) (w180 cx) (w179 cx) (fun _ hZ => nf hZ (w180 cx)) (by decide) G49.1 (Ct.pay (W := 0) (ct_sbstr cx a1 a48 (2 * (2 * 16 + 2) + 2) ((((([] ++ [(101 : Int32), 120, 105, 115, 116, 115, 32, 40, 115, 101, 108, 101, 99, 116, 32, 49, 32, 102, 114, 111, 109, 32]) ++ fs) ++ [(32 : Int32), 119, 104, 101, 114, 101, 32]) ++ ds) ++ [(41 : Int32)]) h47 _ _ G49 (mg 3 rfl) (mg 0 rfl) (by simp <;> omega) (by simp <;> omega)) (w181 cx) (w75 cx) (nle rfl) (nle rfl)) (by rw [hml]; rfl) (argsL := []) (rest := []) (lenOf pd24 rfl) rfl rfl (nle rfl) (hb w d48_33) (nle rfl) (nle rfl) ?_
 rintro T53 h53 _ _ _ X53 ⟨a54, a55, rfl, rfl, rfl, J53, g57, G56⟩
 have ge58 := Nat.le_trans K52.1 g57
 have K59 := K52.trans J53 all0
 have X60 := WS.drop (A := [a54]) (B := (a19 :: a8 :: a1 :: WL)) X53
 have X61 := WS.drop (A := [a54]) (B := (a8 :: a1 :: WL)) X60
 have X62 := WS.drop (A := [a54]) (B := (a1 :: WL)) X61
 have X63 := WS.drop (A := [a54]) (B := WL) X62
 have X64 := WS.fl (FL2 := (a55 :: FL)) X63 (fun y hy => (List.mem_cons.mp hy).elim (fun q => q ▸ (mg 4 rfl)) (fun q0 => (List.mem_append_right [a1, a8, a19, a48, a55, a42, b42, a30, b30, a13, b13] q0)))
 exact WS.retA X64 (WL' := [a54]) (FL' := [a55]) hx hret rfl rfl hlk (hb w d48_36) (nle rfl) (nle rfl) ⟨a54, a55, rfl, rfl, rfl, K59, ge58, G56⟩
theorem ct_exi0_3 (cx : Cx a0 Z gC gF v_AL v_DO k_DO) (x : Addr) (f : Addr) (ft : Addr) (fs : List Int32) (g : Addr) (gu : Addr) (ds : List Int32) (h : Heap) (WL FL : List Addr) (P0 : Exa Z h x "com/example/estate4/estate4/jdbc/SelectText") (P1 : Fld Z h x "com/example/estate4/estate4/jdbc/SelectText" "from" "Ljava/lang/StringBuilder;" (.ref f)) (P2 : SB Z h f ft 16 fs) (P3 : StrL Z h g gu ds) (P4 : x ∈ WL) (P5 : f ∈ WL) (P6 : ft ∈ WL) (P7 : g ∈ FL) (P8 : gu ∈ FL) (hd : ds.length ≤ 2) (h3 : 3 ≤ fs.length) (h5 : fs.length ≤ 5) (el : 6 ≤ fs.length + ds.length) :
   Ct l Z EL1 n0 (⟨"com/example/estate4/estate4/jdbc/SelectText", "exists", "(Ljava/lang/String;)Ljava/lang/String;"⟩ : MethodName) prog_6_method_22_code 2 (Option.some (FieldType.object "java/lang/String")) ({ frames := 8, cells := 14, slots := 440, locals := 117 } : Room) #[(.ref x), (.ref g)] h WL FL (Q_exi0 Z x f ft fs g gu ds h) := by
 refine Ct.of (plainFor_of_name pn11) ?_
 intro p e s m below meth c s1 hx w hml hnm hret hlk X0
 refine Wo.cast (f' := (mkF m 0 #[.val (.ref x), .val (.ref g)] [])) (by rfl) ?_
 have K0 : Keep h h [] := Keep.refl _ _
 show Wo _ _ _ _ _ _ _ _ _ _ _ s1 (mkF m 0 #[.val (.ref x), .val (.ref g)] [])
 refine X0.newO hx (w73 cx) (w74 cx) (w75 cx) (hb w d48_0) (nle rfl) (nle rfl) ?_
 intro T1 h1 a1 X1 E1 g1 A1 D1
 have ge2 := Nat.le_trans K0.1 g1
 have K3 := K0.ext E1
 have D4 : Fld Z h1 a1 "java/lang/AbstractStringBuilder" "value" "[B" .null := D1 (Or.inl (w88 cx)) (ty := (.array .byte)) (by decide)
 have D5 : Fld Z h1 a1 "java/lang/AbstractStringBuilder" "coder" "B" (.int 0) := D1 (Or.inl (w90 cx)) (ty := .byte) (by decide)
 have D6 : Fld Z h1 a1 "java/lang/AbstractStringBuilder" "count" "I" (.int 0) := D1 (Or.inl (w127 cx)) (ty := .int) (by decide)
 refine P.dup X1 hx 4 (hb w d48_3) rfl rfl ?_
 refine X1.callC hx rfl (w76 cx) (w77 cx) (w78 cx) (by decide) (Ct.pay (W := 1) (ct_sbini cx a1 h1 _ _ A1 D4 D5 D6 (mg 0 rfl)) (w78 cx) (w75 cx) (nle rfl) (nle rfl)) (by rw [hml]; rfl) (argsL := []) (rest := [.ref a1]) (lenOf pd27 rfl) rfl rfl (nle rfl) (hb w d48_4) (nle rfl) (nle rfl) ?_
 rintro T7 h7 _ _ _ X7 ⟨a8, rfl, rfl, rfl, J7, g10, G9⟩
 have ge11 := Nat.le_trans K3.1 g10
 have K12 := K3.trans J7 (allS (Or.inr ge2) all0)
 refine X7.ldc hx (w275 cx) (strAtoms cx) (by decide) (vs := [(.int 101), (.int 120), (.int 105), (.int 115), (.int 116), (.int 115), (.int 32), (.int 40), (.int 115), (.int 101), (.int 108), (.int 101), (.int 99), (.int 116), (.int 32), (.int 49), (.int 32), (.int 102), (.int 114), (.int 111), (.int 109), (.int 32)]) (z := (22 : Int32)) ⟨by decide, by decide⟩ (by decide) rfl (hb w d48_7) (n := 88) (nle rfl) (nle rfl) (nle rfl) (nle rfl) ?_
 intro T13 h13 a13 b13 k13 X13 E13 A13 C13 V13 B13
 have K14 := K12.ext E13
 have S15 : StrL Z h13 a13 b13 [(101 : Int32), 120, 105, 115, 116, 115, 32, 40, 115, 101, 108, 101, 99, 116, 32, 49, 32, 102, 114, 111, 109, 32] := ⟨A13, V13, C13, ⟨_, B13⟩, (by decide), nle rfl⟩
 have F16 := G9.1.ext E13
 have F17 := G9.ext E13
 refine X13.callV hx (w220 cx) (w106 cx) (w108 cx) (w107 cx) (fun _ hZ => nf hZ (w108 cx)) (by decide) F16 (Ct.pay (W := 0) (ct_sbappA cx a1 a13 b13 a8 16 ([]) ([(101 : Int32), 120, 105, 115, 116, 115, 32, 40, 115, 101, 108, 101, 99, 116, 32, 49, 32, 102, 114, 111, 109, 32]) h13 _ _ F17 S15 (mg 1 rfl) (mg 0 rfl) (X13.ne (i := 1) (j := 0) rfl rfl (by decide)) (mg 0 rfl) (mg 1 rfl) (by simp <;> omega) (by simp <;> omega) (nle rfl) (nle rfl)) (w109 cx) (w75 cx) (nle rfl) (nle rfl)) (by rw [hml]; rfl) (argsL := [.ref a13]) (rest := []) (lenOf pd26 rfl) rfl rfl (nle rfl) (hb w d48_9) (nle rfl) (nle rfl) ?_
 rintro T18 h18 _ _ _ X18 ⟨a19, rfl, rfl, rfl, J18, g21, G20⟩
 have ge22 := Nat.le_trans K14.1 g21
 have K23 := K14.trans J18 (allS (Or.inr ge2) all0)
 refine P.aloadN X18 hx 13 (hb w d48_12) rfl rfl rfl ?_
 have F24 := (((P1.ext E1).keep J7 (ninS (Ne.symm (X18.neT (A := [a19, a8, a1]) (B := WL) (mg 2 rfl) P4)) nin0)).ext E13).keep J18 (ninS (Ne.symm (X18.neT (A := [a19, a8, a1]) (B := WL) (mg 2 rfl) P4)) nin0)
 refine X18.getF hx (host := "") (Or.inl (w91 cx)) Via.refl F24 (hb w d48_13) ?_
 intro T25 X25
 have F26 := (((P2.ext E1).keep J7 (ninS (Ne.symm (X25.neT (A := [a19, a8, a1]) (B := WL) (mg 2 rfl) P5)) nin0) (ninS (Ne.symm (X25.neT (A := [a19, a8, a1]) (B := WL) (mg 2 rfl) P6)) nin0)).ext E13).keep J18 (ninS (Ne.symm (X25.neT (A := [a19, a8, a1]) (B := WL) (mg 2 rfl) P5)) nin0) (ninS (Ne.symm (X25.neT (A := [a19, a8, a1]) (B := WL) (mg 2 rfl) P6)) nin0)
 refine X25.callV hx (w276 cx) (w277 cx) (w279 cx) (w278 cx) (fun _ hZ => nf hZ (w279 cx)) (by decide) G20.1 (Ct.pay (W := 0) (ct_sbapON cx a1 a19 (2 * 16 + 2) ([] ++ [(101 : Int32), 120, 105, 115, 116, 115, 32, 40, 115, 101, 108, 101, 99, 116, 32, 49, 32, 102, 114, 111, 109, 32]) f ft 16 fs h18 _ _ G20 (mg 2 rfl) (mg 0 rfl) (X25.ne (i := 2) (j := 0) rfl rfl (by decide)) F26 (mc (mc (mc P5))) (mc (mc (mc P6))) (by omega) (by omega) (by simp <;> omega)) (w280 cx) (w75 cx) (nle rfl) (nle rfl)) (by rw [hml]; rfl) (argsL := [.ref f]) (rest := []) (lenOf pd31 rfl) rfl rfl (nle rfl) (hb w d48_16) (nle rfl) (nle rfl) ?_
 rintro T27 h27 _ _ _ X27 ⟨rfl, rfl, rfl, J27, G28⟩
 have K29 := K23.trans J27 (allS (Or.inr ge2) (allS (Or.inr ge22) all0))
 refine X27.ldc hx (w289 cx) (strAtoms cx) (by decide) (vs := [(.int 32), (.int 119), (.int 104), (.int 101), (.int 114), (.int 101), (.int 32)]) (z := (7 : Int32)) ⟨by decide, by decide⟩ (by decide) rfl (hb w d48_19) (n := 28) (nle rfl) (nle rfl) (nle rfl) (nle rfl) ?_
 intro T30 h30 a30 b30 k30 X30 E30 A30 C30 V30 B30
 have K31 := K29.ext E30
 have S32 : StrL Z h30 a30 b30 [(32 : Int32), 119, 104, 101, 114, 101, 32] := ⟨A30, V30, C30, ⟨_, B30⟩, (by decide), nle rfl⟩
 have F33 := G28.1.ext E30
 have F34 := G28.ext E30
 refine X30.callV hx (w220 cx) (w106 cx) (w108 cx) (w107 cx) (fun _ hZ => nf hZ (w108 cx)) (by decide) F33 (Ct.pay (W := 0) (ct_sbappN cx a1 a30 b30 a19 (2 * 16 + 2) (([] ++ [(101 : Int32), 120, 105, 115, 116, 115, 32, 40, 115, 101, 108, 101, 99, 116, 32, 49, 32, 102, 114, 111, 109, 32]) ++ fs) ([(32 : Int32), 119, 104, 101, 114, 101, 32]) h30 _ _ F34 S32 (mg 2 rfl) (mg 0 rfl) (X30.ne (i := 2) (j := 0) rfl rfl (by decide)) (by simp <;> omega)) (w109 cx) (w75 cx) (nle rfl) (nle rfl)) (by rw [hml]; rfl) (argsL := [.ref a30]) (rest := []) (lenOf pd26 rfl) rfl rfl (nle rfl) (hb w d48_21) (nle rfl) (nle rfl) ?_
 rintro T35 h35 _ _ _ X35 ⟨rfl, rfl, rfl, J35, G36⟩
 have K37 := K31.trans J35 (allS (Or.inr ge2) (allS (Or.inr ge22) all0))
 refine P.aloadN X35 hx 25 (hb w d48_24) rfl rfl rfl ?_
 have F38 := ((((((P3.ext E1).keep J7 (ninS (X35.neF (mc (mc (mc (mc P7)))) (mg 2 rfl)) nin0) (ninS (X35.neF (mc (mc (mc (mc P8)))) (mg 2 rfl)) nin0)).ext E13).keep J18 (ninS (X35.neF (mc (mc (mc (mc P7)))) (mg 2 rfl)) nin0) (ninS (X35.neF (mc (mc (mc (mc P8)))) (mg 2 rfl)) nin0)).keep J27 (ninS (X35.neF (mc (mc (mc (mc P7)))) (mg 2 rfl)) (ninS (X35.neF (mc (mc (mc (mc P7)))) (mg 0 rfl)) nin0)) (ninS (X35.neF (mc (mc (mc (mc P8)))) (mg 2 rfl)) (ninS (X35.neF (mc (mc (mc (mc P8)))) (mg 0 rfl)) nin0))).ext E30).keep J35 (ninS (X35.neF (mc (mc (mc (mc P7)))) (mg 2 rfl)) (ninS (X35.neF (mc (mc (mc (mc P7)))) (mg 0 rfl)) nin0)) (ninS (X35.neF (mc (mc (mc (mc P8)))) (mg 2 rfl)) (ninS (X35.neF (mc (mc (mc (mc P8)))) (mg 0 rfl)) nin0))
 refine X35.callV hx (w220 cx) (w106 cx) (w108 cx) (w107 cx) (fun _ hZ => nf hZ (w108 cx)) (by decide) G36.1 (Ct.pay (W := 0) (ct_sbappA cx a1 g gu a19 (2 * 16 + 2) ((([] ++ [(101 : Int32), 120, 105, 115, 116, 115, 32, 40, 115, 101, 108, 101, 99, 116, 32, 49, 32, 102, 114, 111, 109, 32]) ++ fs) ++ [(32 : Int32), 119, 104, 101, 114, 101, 32]) ds h35 _ _ G36 F38 (mg 2 rfl) (mg 0 rfl) (X35.ne (i := 2) (j := 0) rfl rfl (by decide)) (mc (mc (mc (mc P7)))) (mc (mc (mc (mc P8)))) (by simp <;> omega) (by simp <;> omega) (nle rfl) (nle rfl)) (w109 cx) (w75 cx) (nle rfl) (nle rfl)) (by rw [hml]; rfl) (argsL := [.ref g]) (rest := []) (lenOf pd26 rfl) rfl rfl (nle rfl) (hb w d48_25) (nle rfl) (nle rfl) ?_
 rintro T39 h39 _ _ _ X39 ⟨a40, rfl, rfl, rfl, J39, g42, G41⟩
 have ge43 := Nat.le_trans K37.1 g42
 have K44 := K37.trans J39 (allS (Or.inr ge2) all0)
 refine X39.ldc hx (w290 cx) (strAtoms cx) (by decide) (vs := [(.int 41)]) (z := (1 : Int32)) ⟨by decide, by decide⟩ (by decide) rfl (hb w d48_28) (n := 4) (nle rfl) (nle rfl) (nle rfl) (nle rfl) ?_
 intro T45 h45 a45 b45 k45 X45 E45 A45 C45 V45 B45
 have K46 := K44.ext E45
 have S47 : StrL Z h45 a45 b45 [(41 : Int32)] := ⟨A45, V45, C45, ⟨_, B45⟩, (by decide), nle rfl⟩
 have F48 := G41.1.ext E45
 have F49 := G41.ext E45
 refine X45.callV hx (w220 cx) (w106 cx) (w108 cx) (w107 cx) (fun _ hZ => nf hZ (w108 cx)) (by decide) F48 (Ct.pay (W := 0) (ct_sbappN cx a1 a45 b45 a40 (2 * (2 * 16 + 2) + 2) (((([] ++ [(101 : Int32), 120, 105, 115, 116, 115, 32, 40, 115, 101, 108, 101, 99, 116, 32, 49, 32, 102, 114, 111, 109, 32]) ++ fs) ++ [(32 : Int32), 119, 104, 101, 114, 101, 32]) ++ ds) ([(41 : Int32)]) h45 _ _ F49 S47 (mg 3 rfl) (mg 0 rfl) (X45.ne (i := 3) (j := 0) rfl rfl (by decide)) (by simp <;> omega)) (w109 cx) (w75 cx) (nle rfl) (nle rfl)) (by rw [hml]; rfl) (argsL := [.ref a45]) (rest := []) (lenOf pd26 rfl) rfl rfl (nle rfl) (hb w d48_30) (nle rfl) (nle rfl) ?_
 rintro T50 h50 _ _ _ X50 ⟨rfl, rfl, rfl, J50, G51⟩
 have K52 := K46.trans J50 (allS (Or.inr ge2) (allS (Or.inr ge43) all0))
 refine X50.callV hx (w291 cx) (w178 cx) (w180 cx) (w179 cx) (fun _ hZ => nf hZ (w180 cx)) (by decide) G51.1 (Ct.pay (W := 0) (ct_sbstr cx a1 a40 (2 * (2 * 16 + 2) + 2) ((((([] ++ [(101 : Int32), 120, 105, 115, 116, 115, 32, 40, 115, 101, 108, 101, 99, 116, 32, 49, 32, 102, 114, 111, 109, 32]) ++ fs) ++ [(32 : Int32), 119, 104, 101, 114, 101, 32]) ++ ds) ++ [(41 : Int32)]) h50 _ _ G51 (mg 3 rfl) (mg 0 rfl) (by simp <;> omega) (by simp <;> omega)) (w181 cx) (w75 cx) (nle rfl) (nle rfl)) (by rw [hml]; rfl) (argsL := []) (rest := []) (lenOf pd24 rfl) rfl rfl (nle rfl) (hb w d48_33) (nle rfl) (nle rfl) ?_
 rintro T53 h53 _ _ _ X53 ⟨a54, a55, rfl, rfl, rfl, J53, g57, G56⟩
 have ge58 := Nat.le_trans K52.1 g57
 have K59 := K52.trans J53 all0
 have X60 := WS.drop (A := [a54]) (B := (a19 :: a8 :: a1 :: WL)) X53
 have X61 := WS.drop (A := [a54]) (B := (a8 :: a1 :: WL)) X60
 have X62 := WS.drop (A := [a54]) (B := (a1 :: WL)) X61
 have X63 := WS.drop (A := [a54]) (B := WL) X62
 have X64 := WS.fl (FL2 := (a55 :: FL)) X63 (fun y hy => (List.mem_cons.mp hy).elim (fun q => q ▸ (mg 4 rfl)) (fun q0 => (List.mem_append_right [a1, a8, a19, a40, a55, a45, b45, a30, b30, a13, b13] q0)))
 exact WS.retA X64 (WL' := [a54]) (FL' := [a55]) hx hret rfl rfl hlk (hb w d48_36) (nle rfl) (nle rfl) ⟨a54, a55, rfl, rfl, rfl, K59, ge58, G56⟩
theorem ct_exi0 (cx : Cx a0 Z gC gF v_AL v_DO k_DO) (x : Addr) (f : Addr) (ft : Addr) (fs : List Int32) (g : Addr) (gu : Addr) (ds : List Int32) (h : Heap) (WL FL : List Addr) (P0 : Exa Z h x "com/example/estate4/estate4/jdbc/SelectText") (P1 : Fld Z h x "com/example/estate4/estate4/jdbc/SelectText" "from" "Ljava/lang/StringBuilder;" (.ref f)) (P2 : SB Z h f ft 16 fs) (P3 : StrL Z h g gu ds) (P4 : x ∈ WL) (P5 : f ∈ WL) (P6 : ft ∈ WL) (P7 : g ∈ FL) (P8 : gu ∈ FL) (hd : ds.length ≤ 2) (h3 : 3 ≤ fs.length) (h5 : fs.length ≤ 5) :
   Ct l Z EL1 n0 (⟨"com/example/estate4/estate4/jdbc/SelectText", "exists", "(Ljava/lang/String;)Ljava/lang/String;"⟩ : MethodName) prog_6_method_22_code 2 (Option.some (FieldType.object "java/lang/String")) ({ frames := 8, cells := 14, slots := 440, locals := 117 } : Room) #[(.ref x), (.ref g)] h WL FL (Q_exi0 Z x f ft fs g gu ds h) := by
 have hc : fs.length + ds.length = 3 ∨ fs.length + ds.length = 4 ∨ fs.length + ds.length = 5 ∨ 6 ≤ fs.length + ds.length := by omega
 rcases hc with el | el | el | el
 · exact ct_exi0_0 cx x f ft fs g gu ds h WL FL P0 P1 P2 P3 P4 P5 P6 P7 P8 hd h3 h5 el
 · exact ct_exi0_1 cx x f ft fs g gu ds h WL FL P0 P1 P2 P3 P4 P5 P6 P7 P8 hd h3 h5 el
 · exact ct_exi0_2 cx x f ft fs g gu ds h WL FL P0 P1 P2 P3 P4 P5 P6 P7 P8 hd h3 h5 el
 · exact ct_exi0_3 cx x f ft fs g gu ds h WL FL P0 P1 P2 P3 P4 P5 P6 P7 P8 hd h3 h5 el
def Q_exi1 (Z : State) (x : Addr) (f : Addr) (ft : Addr) (fs : List Int32) (g : Addr) (gu : Addr) (ds : List Int32) (h : Heap) (v : Option Value) (h' : Heap) (WL' FL' : List Addr) : Prop := ∃ r : Addr, ∃ u : Addr, v = some (.ref r) ∧ WL' = [r] ∧ FL' = [u] ∧ Keep h h' [] ∧ h.size ≤ r ∧ StrL Z h' r u ((((([] ++ [(101 : Int32), 120, 105, 115, 116, 115, 32, 40, 115, 101, 108, 101, 99, 116, 32, 49, 32, 102, 114, 111, 109, 32]) ++ fs) ++ [(32 : Int32), 119, 104, 101, 114, 101, 32]) ++ ds) ++ [(41 : Int32)])
theorem ct_exi1_c (cx : Cx a0 Z gC gF v_AL v_DO k_DO) (x : Addr) (f : Addr) (ft : Addr) (fs : List Int32) (g : Addr) (gu : Addr) (ds : List Int32) (h : Heap) (WL FL : List Addr) (P0 : Exa Z h x "com/example/estate4/estate4/jdbc/SelectText") (P1 : Fld Z h x "com/example/estate4/estate4/jdbc/SelectText" "from" "Ljava/lang/StringBuilder;" (.ref f)) (P2 : SB Z h f ft (2 * 16 + 2) fs) (P3 : StrL Z h g gu ds) (P4 : x ∈ WL) (P5 : f ∈ WL) (P6 : ft ∈ WL) (P7 : g ∈ FL) (P8 : gu ∈ FL) (hd : ds.length ≤ 2) (h3 : 19 ≤ fs.length) (h5 : fs.length ≤ 21) (el : True) :
   Ct l Z EL1 n0 (⟨"com/example/estate4/estate4/jdbc/SelectText", "exists", "(Ljava/lang/String;)Ljava/lang/String;"⟩ : MethodName) prog_6_method_22_code 2 (Option.some (FieldType.object "java/lang/String")) ({ frames := 8, cells := 14, slots := 440, locals := 117 } : Room) #[(.ref x), (.ref g)] h WL FL (Q_exi1 Z x f ft fs g gu ds h) := by
 refine Ct.of (plainFor_of_name pn11) ?_
 intro p e s m below meth c s1 hx w hml hnm hret hlk X0
 refine Wo.cast (f' := (mkF m 0 #[.val (.ref x), .val (.ref g)] [])) (by rfl) ?_
 have K0 : Keep h h [] := Keep.refl _ _
 show Wo _ _ _ _ _ _ _ _ _ _ _ s1 (mkF m 0 #[.val (.ref x), .val (.ref g)] [])
 refine X0.newO hx (w73 cx) (w74 cx) (w75 cx) (hb w d48_0) (nle rfl) (nle rfl) ?_
 intro T1 h1 a1 X1 E1 g1 A1 D1
 have ge2 := Nat.le_trans K0.1 g1
 have K3 := K0.ext E1
 have D4 : Fld Z h1 a1 "java/lang/AbstractStringBuilder" "value" "[B" .null := D1 (Or.inl (w88 cx)) (ty := (.array .byte)) (by decide)
 have D5 : Fld Z h1 a1 "java/lang/AbstractStringBuilder" "coder" "B" (.int 0) := D1 (Or.inl (w90 cx)) (ty := .byte) (by decide)
 have D6 : Fld Z h1 a1 "java/lang/AbstractStringBuilder" "count" "I" (.int 0) := D1 (Or.inl (w127 cx)) (ty := .int) (by decide)
 refine P.dup X1 hx 4 (hb w d48_3) rfl rfl ?_
 refine X1.callC hx rfl (w76 cx) (w77 cx) (w78 cx) (by decide) (Ct.pay (W := 1) (ct_sbini cx a1 h1 _ _ A1 D4 D5 D6 (mg 0 rfl)) (w78 cx) (w75 cx) (nle rfl) (nle rfl)) (by rw [hml]; rfl) (argsL := []) (rest := [.ref a1]) (lenOf pd27 rfl) rfl rfl (nle rfl) (hb w d48_4) (nle rfl) (nle rfl) ?_
 rintro T7 h7 _ _ _ X7 ⟨a8, rfl, rfl, rfl, J7, g10, G9⟩
 have ge11 := Nat.le_trans K3.1 g10
 have K12 := K3.trans J7 (allS (Or.inr ge2) all0)
 refine X7.ldc hx (w275 cx) (strAtoms cx) (by decide) (vs := [(.int 101), (.int 120), (.int 105), (.int 115), (.int 116), (.int 115), (.int 32), (.int 40), (.int 115), (.int 101), (.int 108), (.int 101), (.int 99), (.int 116), (.int 32), (.int 49), (.int 32), (.int 102), (.int 114), (.int 111), (.int 109), (.int 32)]) (z := (22 : Int32)) ⟨by decide, by decide⟩ (by decide) rfl (hb w d48_7) (n := 88) (nle rfl) (nle rfl) (nle rfl) (nle rfl) ?_
 intro T13 h13 a13 b13 k13 X13 E13 A13 C13 V13 B13
 have K14 := K12.ext E13
 have S15 : StrL Z h13 a13 b13 [(101 : Int32), 120, 105, 115, 116, 115, 32, 40, 115, 101, 108, 101, 99, 116, 32, 49, 32, 102, 114, 111, 109, 32] := ⟨A13, V13, C13, ⟨_, B13⟩, (by decide), nle rfl⟩
 have F16 := G9.1.ext E13
 have F17 := G9.ext E13
 refine X13.callV hx (w220 cx) (w106 cx) (w108 cx) (w107 cx) (fun _ hZ => nf hZ (w108 cx)) (by decide) F16 (Ct.pay (W := 0) (ct_sbappA cx a1 a13 b13 a8 16 ([]) ([(101 : Int32), 120, 105, 115, 116, 115, 32, 40, 115, 101, 108, 101, 99, 116, 32, 49, 32, 102, 114, 111, 109, 32]) h13 _ _ F17 S15 (mg 1 rfl) (mg 0 rfl) (X13.ne (i := 1) (j := 0) rfl rfl (by decide)) (mg 0 rfl) (mg 1 rfl) (by simp <;> omega) (by simp <;> omega) (nle rfl) (nle rfl)) (w109 cx) (w75 cx) (nle rfl) (nle rfl)) (by rw [hml]; rfl) (argsL := [.ref a13]) (rest := []) (lenOf pd26 rfl) rfl rfl (nle rfl) (hb w d48_9) (nle rfl) (nle rfl) ?_
 rintro T18 h18 _ _ _ X18 ⟨a19, rfl, rfl, rfl, J18, g21, G20⟩
 have ge22 := Nat.le_trans K14.1 g21
 have K23 := K14.trans J18 (allS (Or.inr ge2) all0)
 refine P.aloadN X18 hx 13 (hb w d48_12) rfl rfl rfl ?_
 have F24 := (((P1.ext E1).keep J7 (ninS (Ne.symm (X18.neT (A := [a19, a8, a1]) (B := WL) (mg 2 rfl) P4)) nin0)).ext E13).keep J18 (ninS (Ne.symm (X18.neT (A := [a19, a8, a1]) (B := WL) (mg 2 rfl) P4)) nin0)
 refine X18.getF hx (host := "") (Or.inl (w91 cx)) Via.refl F24 (hb w d48_13) ?_
 intro T25 X25
 have F26 := (((P2.ext E1).keep J7 (ninS (Ne.symm (X25.neT (A := [a19, a8, a1]) (B := WL) (mg 2 rfl) P5)) nin0) (ninS (Ne.symm (X25.neT (A := [a19, a8, a1]) (B := WL) (mg 2 rfl) P6)) nin0)).ext E13).keep J18 (ninS (Ne.symm (X25.neT (A := [a19, a8, a1]) (B := WL) (mg 2 rfl) P5)) nin0) (ninS (Ne.symm (X25.neT (A := [a19, a8, a1]) (B := WL) (mg 2 rfl) P6)) nin0)
 refine X25.callV hx (w276 cx) (w277 cx) (w279 cx) (w278 cx) (fun _ hZ => nf hZ (w279 cx)) (by decide) G20.1 (Ct.pay (W := 0) (ct_sbapOA cx a1 a19 (2 * 16 + 2) ([] ++ [(101 : Int32), 120, 105, 115, 116, 115, 32, 40, 115, 101, 108, 101, 99, 116, 32, 49, 32, 102, 114, 111, 109, 32]) f ft (2 * 16 + 2) fs h18 _ _ G20 (mg 2 rfl) (mg 0 rfl) (X25.ne (i := 2) (j := 0) rfl rfl (by decide)) F26 (mc (mc (mc P5))) (mc (mc (mc P6))) (by omega) (by omega) (by simp <;> omega) (by simp <;> omega) (nle rfl) (nle rfl)) (w280 cx) (w75 cx) (nle rfl) (nle rfl)) (by rw [hml]; rfl) (argsL := [.ref f]) (rest := []) (lenOf pd31 rfl) rfl rfl (nle rfl) (hb w d48_16) (nle rfl) (nle rfl) ?_
 rintro T27 h27 _ _ _ X27 ⟨a28, rfl, rfl, rfl, J27, g30, G29⟩
 have ge31 := Nat.le_trans K23.1 g30
 have K32 := K23.trans J27 (allS (Or.inr ge2) all0)
 refine X27.ldc hx (w289 cx) (strAtoms cx) (by decide) (vs := [(.int 32), (.int 119), (.int 104), (.int 101), (.int 114), (.int 101), (.int 32)]) (z := (7 : Int32)) ⟨by decide, by decide⟩ (by decide) rfl (hb w d48_19) (n := 28) (nle rfl) (nle rfl) (nle rfl) (nle rfl) ?_
 intro T33 h33 a33 b33 k33 X33 E33 A33 C33 V33 B33
 have K34 := K32.ext E33
 have S35 : StrL Z h33 a33 b33 [(32 : Int32), 119, 104, 101, 114, 101, 32] := ⟨A33, V33, C33, ⟨_, B33⟩, (by decide), nle rfl⟩
 have F36 := G29.1.ext E33
 have F37 := G29.ext E33
 refine X33.callV hx (w220 cx) (w106 cx) (w108 cx) (w107 cx) (fun _ hZ => nf hZ (w108 cx)) (by decide) F36 (Ct.pay (W := 0) (ct_sbappN cx a1 a33 b33 a28 (2 * (2 * 16 + 2) + 2) (([] ++ [(101 : Int32), 120, 105, 115, 116, 115, 32, 40, 115, 101, 108, 101, 99, 116, 32, 49, 32, 102, 114, 111, 109, 32]) ++ fs) ([(32 : Int32), 119, 104, 101, 114, 101, 32]) h33 _ _ F37 S35 (mg 3 rfl) (mg 0 rfl) (X33.ne (i := 3) (j := 0) rfl rfl (by decide)) (by simp <;> omega)) (w109 cx) (w75 cx) (nle rfl) (nle rfl)) (by rw [hml]; rfl) (argsL := [.ref a33]) (rest := []) (lenOf pd26 rfl) rfl rfl (nle rfl) (hb w d48_21) (nle rfl) (nle rfl) ?_
 rintro T38 h38 _ _ _ X38 ⟨rfl, rfl, rfl, J38, G39⟩
 have K40 := K34.trans J38 (allS (Or.inr ge2) (allS (Or.inr ge31) all0))
 refine P.aloadN X38 hx 25 (hb w d48_24) rfl rfl rfl ?_
 have F41 := ((((((P3.ext E1).keep J7 (ninS (X38.neF (mc (mc (mc (mc P7)))) (mg 3 rfl)) nin0) (ninS (X38.neF (mc (mc (mc (mc P8)))) (mg 3 rfl)) nin0)).ext E13).keep J18 (ninS (X38.neF (mc (mc (mc (mc P7)))) (mg 3 rfl)) nin0) (ninS (X38.neF (mc (mc (mc (mc P8)))) (mg 3 rfl)) nin0)).keep J27 (ninS (X38.neF (mc (mc (mc (mc P7)))) (mg 3 rfl)) nin0) (ninS (X38.neF (mc (mc (mc (mc P8)))) (mg 3 rfl)) nin0)).ext E33).keep J38 (ninS (X38.neF (mc (mc (mc (mc P7)))) (mg 3 rfl)) (ninS (X38.neF (mc (mc (mc (mc P7)))) (mg 0 rfl)) nin0)) (ninS (X38.neF (mc (mc (mc (mc P8)))) (mg 3 rfl)) (ninS (X38.neF (mc (mc (mc (mc P8)))) (mg 0 rfl)) nin0))
 refine X38.callV hx (w220 cx) (w106 cx) (w108 cx) (w107 cx) (fun _ hZ => nf hZ (w108 cx)) (by decide) G39.1 (Ct.pay (W := 0) (ct_sbappN cx a1 g gu a28 (2 * (2 * 16 + 2) + 2) ((([] ++ [(101 : Int32), 120, 105, 115, 116, 115, 32, 40, 115, 101, 108, 101, 99, 116, 32, 49, 32, 102, 114, 111, 109, 32]) ++ fs) ++ [(32 : Int32), 119, 104, 101, 114, 101, 32]) ds h38 _ _ G39 F41 (mg 3 rfl) (mg 0 rfl) (X38.ne (i := 3) (j := 0) rfl rfl (by decide)) (by simp <;> omega)) (w109 cx) (w75 cx) (nle rfl) (nle rfl)) (by rw [hml]; rfl) (argsL := [.ref g]) (rest := []) (lenOf pd26 rfl) rfl rfl (nle rfl) (hb w d48_25) (nle rfl) (nle rfl) ?_
 rintro T42 h42 _ _ _ X42 ⟨rfl, rfl, rfl, J42, G43⟩
 have K44 := K40.trans J42 (allS (Or.inr ge2) (allS (Or.inr ge31) all0))
 refine X42.ldc hx (w290 cx) (strAtoms cx) (by decide) (vs := [(.int 41)]) (z := (1 : Int32)) ⟨by decide, by decide⟩ (by decide) rfl (hb w d48_28) (n := 4) (nle rfl) (nle rfl) (nle rfl) (nle rfl) ?_
 intro T45 h45 a45 b45 k45 X45 E45 A45 C45 V45 B45
 have K46 := K44.ext E45
 have S47 : StrL Z h45 a45 b45 [(41 : Int32)] := ⟨A45, V45, C45, ⟨_, B45⟩, (by decide), nle rfl⟩
 have F48 := G43.1.ext E45
 have F49 := G43.ext E45
 refine X45.callV hx (w220 cx) (w106 cx) (w108 cx) (w107 cx) (fun _ hZ => nf hZ (w108 cx)) (by decide) F48 (Ct.pay (W := 0) (ct_sbappN cx a1 a45 b45 a28 (2 * (2 * 16 + 2) + 2) (((([] ++ [(101 : Int32), 120, 105, 115, 116, 115, 32, 40, 115, 101, 108, 101, 99, 116, 32, 49, 32, 102, 114, 111, 109, 32]) ++ fs) ++ [(32 : Int32), 119, 104, 101, 114, 101, 32]) ++ ds) ([(41 : Int32)]) h45 _ _ F49 S47 (mg 3 rfl) (mg 0 rfl) (X45.ne (i := 3) (j := 0) rfl rfl (by decide)) (by simp <;> omega)) (w109 cx) (w75 cx) (nle rfl) (nle rfl)) (by rw [hml]; rfl) (argsL := [.ref a45]) (rest := []) (lenOf pd26 rfl) rfl rfl (nle rfl) (hb w d48_30) (nle rfl) (nle rfl) ?_
 rintro T50 h50 _ _ _ X50 ⟨rfl, rfl, rfl, J50, G51⟩
 have K52 := K46.trans J50 (allS (Or.inr ge2) (allS (Or.inr ge31) all0))
 refine X50.callV hx (w291 cx) (w178 cx) (w180 cx) (w179 cx) (fun _ hZ => nf hZ (w180 cx)) (by decide) G51.1 (Ct.pay (W := 0) (ct_sbstr cx a1 a28 (2 * (2 * 16 + 2) + 2) ((((([] ++ [(101 : Int32), 120, 105, 115, 116, 115, 32, 40, 115, 101, 108, 101, 99, 116, 32, 49, 32, 102, 114, 111, 109, 32]) ++ fs) ++ [(32 : Int32), 119, 104, 101, 114, 101, 32]) ++ ds) ++ [(41 : Int32)]) h50 _ _ G51 (mg 3 rfl) (mg 0 rfl) (by simp <;> omega) (by simp <;> omega)) (w181 cx) (w75 cx) (nle rfl) (nle rfl)) (by rw [hml]; rfl) (argsL := []) (rest := []) (lenOf pd24 rfl) rfl rfl (nle rfl) (hb w d48_33) (nle rfl) (nle rfl) ?_
 rintro T53 h53 _ _ _ X53 ⟨a54, a55, rfl, rfl, rfl, J53, g57, G56⟩
 have ge58 := Nat.le_trans K52.1 g57
 have K59 := K52.trans J53 all0
 have X60 := WS.drop (A := [a54]) (B := (a19 :: a8 :: a1 :: WL)) X53
 have X61 := WS.drop (A := [a54]) (B := (a8 :: a1 :: WL)) X60
 have X62 := WS.drop (A := [a54]) (B := (a1 :: WL)) X61
 have X63 := WS.drop (A := [a54]) (B := WL) X62
 have X64 := WS.fl (FL2 := (a55 :: FL)) X63 (fun y hy => (List.mem_cons.mp hy).elim (fun q => q ▸ (mg 4 rfl)) (fun q0 => (List.mem_append_right [a1, a8, a19, a28, a55, a45, b45, a33, b33, a13, b13] q0)))
 exact WS.retA X64 (WL' := [a54]) (FL' := [a55]) hx hret rfl rfl hlk (hb w d48_36) (nle rfl) (nle rfl) ⟨a54, a55, rfl, rfl, rfl, K59, ge58, G56⟩
theorem ct_exi1 (cx : Cx a0 Z gC gF v_AL v_DO k_DO) (x : Addr) (f : Addr) (ft : Addr) (fs : List Int32) (g : Addr) (gu : Addr) (ds : List Int32) (h : Heap) (WL FL : List Addr) (P0 : Exa Z h x "com/example/estate4/estate4/jdbc/SelectText") (P1 : Fld Z h x "com/example/estate4/estate4/jdbc/SelectText" "from" "Ljava/lang/StringBuilder;" (.ref f)) (P2 : SB Z h f ft (2 * 16 + 2) fs) (P3 : StrL Z h g gu ds) (P4 : x ∈ WL) (P5 : f ∈ WL) (P6 : ft ∈ WL) (P7 : g ∈ FL) (P8 : gu ∈ FL) (hd : ds.length ≤ 2) (h3 : 19 ≤ fs.length) (h5 : fs.length ≤ 21) :
   Ct l Z EL1 n0 (⟨"com/example/estate4/estate4/jdbc/SelectText", "exists", "(Ljava/lang/String;)Ljava/lang/String;"⟩ : MethodName) prog_6_method_22_code 2 (Option.some (FieldType.object "java/lang/String")) ({ frames := 8, cells := 14, slots := 440, locals := 117 } : Room) #[(.ref x), (.ref g)] h WL FL (Q_exi1 Z x f ft fs g gu ds h) := by
 exact ct_exi1_c cx x f ft fs g gu ds h WL FL P0 P1 P2 P3 P4 P5 P6 P7 P8 hd h3 h5 trivial
def Q_str (Z : State) (k : Int32) (ca : Int32) (cb : Int32) (h : Heap) (v : Option Value) (h' : Heap) (WL' FL' : List Addr) : Prop := ∃ x : Addr, ∃ t : Addr, ∃ L : List Int32, v = some (.ref x) ∧ WL' = [x] ∧ FL' = [t] ∧ Keep h h' [] ∧ h.size ≤ x ∧ StrL Z h' x t L ∧ ((k = 0 ∧ L = []) ∨ (k = 1 ∧ L = [ca]) ∨ (k = 2 ∧ L = [ca, cb]))
theorem ct_str_0 (cx : Cx a0 Z gC gF v_AL v_DO k_DO) (k : Int32) (ca : Int32) (cb : Int32) (h : Heap) (WL FL : List Addr) (hk : k = 0 ∨ k = 1 ∨ k = 2) (hr_ca : ¬ ca < 0 ∧ ¬ (255 : Int32) < ca) (hr_cb : ¬ cb < 0 ∧ ¬ (255 : Int32) < cb) (ek : k = (0 : Int32)) :
   Ct l Z EL1 n0 (⟨"com/example/estate4/estate4/jdbc/SelectTextExistsPinLaw", "str", "(ICC)Ljava/lang/String;"⟩ : MethodName) method_2_code 3 (Option.some (FieldType.object "java/lang/String")) ({ frames := 4, cells := 6, slots := 12, locals := 66 } : Room) #[(.int k), (.int ca), (.int cb)] h WL FL (Q_str Z k ca cb h) := by
 refine Ct.of (plainFor_of_name pn12) ?_
 intro p e s m below meth c s1 hx w hml hnm hret hlk X0
 refine Wo.cast (f' := (mkF m 0 #[.val (.int k), .val (.int ca), .val (.int cb)] [])) (by rfl) ?_
 have K0 : Keep h h [] := Keep.refl _ _
 show Wo _ _ _ _ _ _ _ _ _ _ _ s1 (mkF m 0 #[.val (.int k), .val (.int ca), .val (.int cb)] [])
 refine P.iloadN X0 hx 1 (hb w d1_0) rfl rfl ?_
 refine P.ifNo X0 hx 4 (hb w d1_1) ((if0 _ _).trans (teq ek).2) rfl ?_
 refine X0.newO hx (w4 cx) (w5 cx) (w6 cx) (hb w d1_4) (nle rfl) (nle rfl) ?_
 intro T1 h1 a1 X1 E1 g1 A1 D1
 have ge2 := Nat.le_trans K0.1 g1
 have K3 := K0.ext E1
 have D4 : Fld Z h1 a1 "java/lang/String" "value" "[B" .null := D1 (Or.inr (w20 cx)) (ty := (.array .byte)) (by decide)
 have D5 : Fld Z h1 a1 "java/lang/String" "coder" "B" (.int 0) := D1 (Or.inr (w21 cx)) (ty := .byte) (by decide)
 refine P.dup X1 hx 8 (hb w d1_7) rfl rfl ?_
 refine P.iconst X1 hx 9 0 (hb w d1_8) rfl rfl ?_
 refine X1.newP (aty := .char) hx (w7 cx) (hb w d1_9) (by decide) (cap := 0) (nle rfl) (nle rfl) (nle rfl) (nle rfl) ?_
 intro T6 h6 a6 k6 X6 E6 g6 A6
 have ge7 := Nat.le_trans K3.1 g6
 have K8 := K3.ext E6
 have V9 : Arv Z h6 a6 k6 .char (0 : Int32) [] (.int 0) := A6
 have F10 := A1.ext E6
 have F11 := D4.ext E6
 have F12 := D5.ext E6
 refine X6.callC hx rfl (w8 cx) (w9 cx) (w10 cx) (by decide) (Ct.pay (W := 1) (ct_s1e cx a1 a6 _ _ h6 _ _ F10 F11 F12 (mg 1 rfl) V9) (w10 cx) (w6 cx) (nle rfl) (nle rfl)) (by rw [hml]; rfl) (argsL := [.ref a6]) (rest := [.ref a1]) (lenOf pd32 rfl) rfl rfl (nle rfl) (hb w d1_11) (nle rfl) (nle rfl) ?_
 rintro T13 h13 _ _ _ X13 ⟨a14, rfl, rfl, rfl, J13, G15⟩
 have K16 := K8.trans J13 (allS (Or.inr ge2) all0)
 have X17 := WS.drop (A := []) (B := (a1 :: WL)) X13
 have X18 := WS.fl (FL2 := (a14 :: FL)) X17 (fun y hy => (List.mem_cons.mp hy).elim (fun q => q ▸ (mg 1 rfl)) (fun q0 => (List.mem_append_right [a6, a14] q0)))
 exact WS.retA X18 (WL' := [a1]) (FL' := [a14]) hx hret rfl rfl hlk (hb w d1_14) (nle rfl) (nle rfl) ⟨a1, a14, [], rfl, rfl, rfl, K16, ge2, G15, (Or.inl ⟨ek, rfl⟩)⟩
theorem ct_str_1 (cx : Cx a0 Z gC gF v_AL v_DO k_DO) (k : Int32) (ca : Int32) (cb : Int32) (h : Heap) (WL FL : List Addr) (hk : k = 0 ∨ k = 1 ∨ k = 2) (hr_ca : ¬ ca < 0 ∧ ¬ (255 : Int32) < ca) (hr_cb : ¬ cb < 0 ∧ ¬ (255 : Int32) < cb) (ek : k = (1 : Int32)) :
   Ct l Z EL1 n0 (⟨"com/example/estate4/estate4/jdbc/SelectTextExistsPinLaw", "str", "(ICC)Ljava/lang/String;"⟩ : MethodName) method_2_code 3 (Option.some (FieldType.object "java/lang/String")) ({ frames := 4, cells := 6, slots := 12, locals := 66 } : Room) #[(.int k), (.int ca), (.int cb)] h WL FL (Q_str Z k ca cb h) := by
 refine Ct.of (plainFor_of_name pn12) ?_
 intro p e s m below meth c s1 hx w hml hnm hret hlk X0
 refine Wo.cast (f' := (mkF m 0 #[.val (.int k), .val (.int ca), .val (.int cb)] [])) (by rfl) ?_
 have K0 : Keep h h [] := Keep.refl _ _
 show Wo _ _ _ _ _ _ _ _ _ _ _ s1 (mkF m 0 #[.val (.int k), .val (.int ca), .val (.int cb)] [])
 refine P.iloadN X0 hx 1 (hb w d1_0) rfl rfl ?_
 refine P.ifYes X0 hx 15 (hb w d1_1) ((if0 _ _).trans (feq (by rw [ek]; decide)).2) (by decide) (by decide) ?_
 refine P.iloadN X0 hx 16 (hb w d1_15) rfl rfl ?_
 refine P.iconst X0 hx 17 1 (hb w d1_16) rfl rfl ?_
 refine P.icmpNo X0 hx 20 (hb w d1_17) (teq ek).2 rfl ?_
 refine X0.newO hx (w4 cx) (w5 cx) (w6 cx) (hb w d1_20) (nle rfl) (nle rfl) ?_
 intro T1 h1 a1 X1 E1 g1 A1 D1
 have ge2 := Nat.le_trans K0.1 g1
 have K3 := K0.ext E1
 have D4 : Fld Z h1 a1 "java/lang/String" "value" "[B" .null := D1 (Or.inr (w20 cx)) (ty := (.array .byte)) (by decide)
 have D5 : Fld Z h1 a1 "java/lang/String" "coder" "B" (.int 0) := D1 (Or.inr (w21 cx)) (ty := .byte) (by decide)
 refine P.dup X1 hx 24 (hb w d1_23) rfl rfl ?_
 refine P.iconst X1 hx 25 1 (hb w d1_24) rfl rfl ?_
 refine X1.newP (aty := .char) hx (w7 cx) (hb w d1_25) (by decide) (cap := 1) (nle rfl) (nle rfl) (nle rfl) (nle rfl) ?_
 intro T6 h6 a6 k6 X6 E6 g6 A6
 have ge7 := Nat.le_trans K3.1 g6
 have K8 := K3.ext E6
 have V9 : Arv Z h6 a6 k6 .char (1 : Int32) [(.int 0)] (.int 0) := Arv.pad A6 (pad_rep [] _ 1)
 refine P.dup X6 hx 28 (hb w d1_27) rfl rfl ?_
 refine P.iconst X6 hx 29 0 (hb w d1_28) rfl rfl ?_
 refine P.iloadN X6 hx 30 (hb w d1_29) rfl rfl ?_
 refine X6.stC hx V9 (j := (0 : Int32)) (x := ca) (i := 0) (by decide) rfl (nlt rfl) (mg 0 rfl) (hb w d1_30) ?_
 intro T10 h10 X10 W10 G10
 have K11 := K8.wr W10 (Or.inr ge7)
 have V12 : Arv Z h10 a6 k6 .char (1 : Int32) [(.int ca)] (.int 0) := by have q := G10; rw [narR hr_ca] at q; exact q
 have F13 := (A1.ext E6).wr W10
 have F14 := (D4.ext E6).other W10 (Or.inl (X10.ne (i := 1) (j := 0) rfl rfl (by decide)))
 have F15 := (D5.ext E6).other W10 (Or.inl (X10.ne (i := 1) (j := 0) rfl rfl (by decide)))
 refine X10.callC hx rfl (w8 cx) (w9 cx) (w10 cx) (by decide) (pay_new (W := 1) (hws cx) (w5 cx) (cs := [ca]) (n := 1) (X10.ge (mg 1 rfl)) X10.n0le (mg 1 rfl) F13 F14 F15 V12 (X10.sta (S_C cx)) (N_C cx) rfl rfl (nle rfl) (nle rfl) (fcS hr_ca fc0) (nle rfl) (nle rfl)) (by rw [hml]; rfl) (argsL := [.ref a6]) (rest := [.ref a1]) (lenOf pd32 rfl) rfl rfl (nle rfl) (hb w d1_31) (nle rfl) (nle rfl) ?_
 rintro T16 h16 _ _ _ X16 ⟨a17, rfl, rfl, rfl, J16, G18⟩
 have K19 := K11.trans J16 (allS (Or.inr ge2) all0)
 have X20 := WS.drop (A := []) (B := (a1 :: WL)) X16
 have X21 := WS.fl (FL2 := (a17 :: FL)) X20 (fun y hy => (List.mem_cons.mp hy).elim (fun q => q ▸ (mg 1 rfl)) (fun q0 => (List.mem_append_right [a6, a17] q0)))
 exact WS.retA X21 (WL' := [a1]) (FL' := [a17]) hx hret rfl rfl hlk (hb w d1_34) (nle rfl) (nle rfl) ⟨a1, a17, [ca], rfl, rfl, rfl, K19, ge2, G18, (Or.inr (Or.inl ⟨ek, rfl⟩))⟩
theorem ct_str_2 (cx : Cx a0 Z gC gF v_AL v_DO k_DO) (k : Int32) (ca : Int32) (cb : Int32) (h : Heap) (WL FL : List Addr) (hk : k = 0 ∨ k = 1 ∨ k = 2) (hr_ca : ¬ ca < 0 ∧ ¬ (255 : Int32) < ca) (hr_cb : ¬ cb < 0 ∧ ¬ (255 : Int32) < cb) (ek : k = (2 : Int32)) :
   Ct l Z EL1 n0 (⟨"com/example/estate4/estate4/jdbc/SelectTextExistsPinLaw", "str", "(ICC)Ljava/lang/String;"⟩ : MethodName) method_2_code 3 (Option.some (FieldType.object "java/lang/String")) ({ frames := 4, cells := 6, slots := 12, locals := 66 } : Room) #[(.int k), (.int ca), (.int cb)] h WL FL (Q_str Z k ca cb h) := by
 refine Ct.of (plainFor_of_name pn12) ?_
 intro p e s m below meth c s1 hx w hml hnm hret hlk X0
 refine Wo.cast (f' := (mkF m 0 #[.val (.int k), .val (.int ca), .val (.int cb)] [])) (by rfl) ?_
 have K0 : Keep h h [] := Keep.refl _ _
 show Wo _ _ _ _ _ _ _ _ _ _ _ s1 (mkF m 0 #[.val (.int k), .val (.int ca), .val (.int cb)] [])
 refine P.iloadN X0 hx 1 (hb w d1_0) rfl rfl ?_
 refine P.ifYes X0 hx 15 (hb w d1_1) ((if0 _ _).trans (feq (by rw [ek]; decide)).2) (by decide) (by decide) ?_
 refine P.iloadN X0 hx 16 (hb w d1_15) rfl rfl ?_
 refine P.iconst X0 hx 17 1 (hb w d1_16) rfl rfl ?_
 refine P.icmpYes X0 hx 35 (hb w d1_17) (feq (by rw [ek]; decide)).2 (by decide) (by decide) ?_
 refine X0.newO hx (w4 cx) (w5 cx) (w6 cx) (hb w d1_35) (nle rfl) (nle rfl) ?_
 intro T1 h1 a1 X1 E1 g1 A1 D1
 have ge2 := Nat.le_trans K0.1 g1
 have K3 := K0.ext E1
 have D4 : Fld Z h1 a1 "java/lang/String" "value" "[B" .null := D1 (Or.inr (w20 cx)) (ty := (.array .byte)) (by decide)
 have D5 : Fld Z h1 a1 "java/lang/String" "coder" "B" (.int 0) := D1 (Or.inr (w21 cx)) (ty := .byte) (by decide)
 refine P.dup X1 hx 39 (hb w d1_38) rfl rfl ?_
 refine P.iconst X1 hx 40 2 (hb w d1_39) rfl rfl ?_
 refine X1.newP (aty := .char) hx (w7 cx) (hb w d1_40) (by decide) (cap := 2) (nle rfl) (nle rfl) (nle rfl) (nle rfl) ?_
 intro T6 h6 a6 k6 X6 E6 g6 A6
 have ge7 := Nat.le_trans K3.1 g6
 have K8 := K3.ext E6
 have V9 : Arv Z h6 a6 k6 .char (2 : Int32) [(.int 0), (.int 0)] (.int 0) := Arv.pad A6 (pad_rep [] _ 2)
 refine P.dup X6 hx 43 (hb w d1_42) rfl rfl ?_
 refine P.iconst X6 hx 44 0 (hb w d1_43) rfl rfl ?_
 refine P.iloadN X6 hx 45 (hb w d1_44) rfl rfl ?_
 refine X6.stC hx V9 (j := (0 : Int32)) (x := ca) (i := 0) (by decide) rfl (nlt rfl) (mg 0 rfl) (hb w d1_45) ?_
 intro T10 h10 X10 W10 G10
 have K11 := K8.wr W10 (Or.inr ge7)
 have V12 : Arv Z h10 a6 k6 .char (2 : Int32) [(.int ca), (.int 0)] (.int 0) := by have q := G10; rw [narR hr_ca] at q; exact q
 refine P.dup X10 hx 47 (hb w d1_46) rfl rfl ?_
 refine P.iconst X10 hx 48 1 (hb w d1_47) rfl rfl ?_
 refine P.iloadN X10 hx 49 (hb w d1_48) rfl rfl ?_
 refine X10.stC hx V12 (j := (1 : Int32)) (x := cb) (i := 1) (by decide) rfl (nlt rfl) (mg 0 rfl) (hb w d1_49) ?_
 intro T13 h13 X13 W13 G13
 have K14 := K11.wr W13 (Or.inr ge7)
 have V15 : Arv Z h13 a6 k6 .char (2 : Int32) [(.int ca), (.int cb)] (.int 0) := by have q := G13; rw [narR hr_cb] at q; exact q
 have F16 := ((A1.ext E6).wr W10).wr W13
 have F17 := ((D4.ext E6).other W10 (Or.inl (X13.ne (i := 1) (j := 0) rfl rfl (by decide)))).other W13 (Or.inl (X13.ne (i := 1) (j := 0) rfl rfl (by decide)))
 have F18 := ((D5.ext E6).other W10 (Or.inl (X13.ne (i := 1) (j := 0) rfl rfl (by decide)))).other W13 (Or.inl (X13.ne (i := 1) (j := 0) rfl rfl (by decide)))
 refine X13.callC hx rfl (w8 cx) (w9 cx) (w10 cx) (by decide) (pay_new (W := 1) (hws cx) (w5 cx) (cs := [ca, cb]) (n := 2) (X13.ge (mg 1 rfl)) X13.n0le (mg 1 rfl) F16 F17 F18 V15 (X13.sta (S_C cx)) (N_C cx) rfl rfl (nle rfl) (nle rfl) (fcS hr_ca (fcS hr_cb fc0)) (nle rfl) (nle rfl)) (by rw [hml]; rfl) (argsL := [.ref a6]) (rest := [.ref a1]) (lenOf pd32 rfl) rfl rfl (nle rfl) (hb w d1_50) (nle rfl) (nle rfl) ?_
 rintro T19 h19 _ _ _ X19 ⟨a20, rfl, rfl, rfl, J19, G21⟩
 have K22 := K14.trans J19 (allS (Or.inr ge2) all0)
 have X23 := WS.drop (A := []) (B := (a1 :: WL)) X19
 have X24 := WS.fl (FL2 := (a20 :: FL)) X23 (fun y hy => (List.mem_cons.mp hy).elim (fun q => q ▸ (mg 1 rfl)) (fun q0 => (List.mem_append_right [a6, a20] q0)))
 exact WS.retA X24 (WL' := [a1]) (FL' := [a20]) hx hret rfl rfl hlk (hb w d1_53) (nle rfl) (nle rfl) ⟨a1, a20, [ca, cb], rfl, rfl, rfl, K22, ge2, G21, (Or.inr (Or.inr ⟨ek, rfl⟩))⟩
theorem ct_str (cx : Cx a0 Z gC gF v_AL v_DO k_DO) (k : Int32) (ca : Int32) (cb : Int32) (h : Heap) (WL FL : List Addr) (hk : k = 0 ∨ k = 1 ∨ k = 2) (hr_ca : ¬ ca < 0 ∧ ¬ (255 : Int32) < ca) (hr_cb : ¬ cb < 0 ∧ ¬ (255 : Int32) < cb) :
   Ct l Z EL1 n0 (⟨"com/example/estate4/estate4/jdbc/SelectTextExistsPinLaw", "str", "(ICC)Ljava/lang/String;"⟩ : MethodName) method_2_code 3 (Option.some (FieldType.object "java/lang/String")) ({ frames := 4, cells := 6, slots := 12, locals := 66 } : Room) #[(.int k), (.int ca), (.int cb)] h WL FL (Q_str Z k ca cb h) := by
 have hk2 := hk
 rcases hk2 with ek | ek | ek
 · exact ct_str_0 cx k ca cb h WL FL hk hr_ca hr_cb ek
 · exact ct_str_1 cx k ca cb h WL FL hk hr_ca hr_cb ek
 · exact ct_str_2 cx k ca cb h WL FL hk hr_ca hr_cb ek
def Q_law (Z : State) (p0 : Int32) (p1 : Int32) (p2 : Int32) (h : Heap) (v : Option Value) (h' : Heap) (WL' FL' : List Addr) : Prop := v = some (.int 1) ∧ WL' = [] ∧ FL' = [] ∧ Keep h h' []
theorem mid_law0 (cx : Cx a0 Z gC gF v_AL v_DO k_DO) {p : Program} {e : Env} {s : State} {m : MethodId} {as' : Array Value} {below : List Frame} {meth : Method} {c : Code} {T0 : State} {h hm : Heap} {WL FL : List Addr} (p0 : Int32) (p1 : Int32) (p2 : Int32) (tl : Int32) (ta : Int32) (tb : Int32) (kl : Int32) (ca : Int32) (cb : Int32) (b1 : Int32) (qq : Int32) (d0 : Int32) (d1 : Int32) (v12 : Value) (v13 : Value) (v14 : Value) (r : Addr) (u : Addr) (ts : List Int32) (cs : List Int32) (zs : List Int32) (hx : p.tables.exec = Jvm.exec) (w : c.code = code) (hml : c.maxLocals = maxLocals) (hnm : meth.name = (x).name) (hret : meth.sig.returnType = ret) (hlk : meth.locks = false) (X0 : WS p l e room_1 s m as' below meth c Z EL1 n0 (x).cls T0 hm WL (r :: u :: FL) 80 1400) (K0 : Keep h hm []) (P0 : StrL Z hm r u zs) (gt : (tl = 0 ∧ ts = []) ∨ (tl = 1 ∧ ts = [ta]) ∨ (tl = 2 ∧ ts = [ta, tb])) (gc : (kl = 0 ∧ cs = []) ∨ (kl = 1 ∧ cs = [ca]) ∨ (kl = 2 ∧ cs = [ca, cb])) (hr_ta : ¬ ta < 0 ∧ ¬ (255 : Int32) < ta) (hr_tb : ¬ tb < 0 ∧ ¬ (255 : Int32) < tb) (hr_ca : ¬ ca < 0 ∧ ¬ (255 : Int32) < ca) (hr_cb : ¬ cb < 0 ∧ ¬ (255 : Int32) < cb) (hr_qq : ¬ qq < 0 ∧ ¬ (255 : Int32) < qq) (hr_d0 : ¬ d0 < 0 ∧ ¬ (255 : Int32) < d0) (hr_d1 : ¬ d1 < 0 ∧ ¬ (255 : Int32) < d1) (hts : ∀ c ∈ ts, ¬ c < 0 ∧ ¬ (255 : Int32) < c) (hcs : ∀ c ∈ cs, ¬ c < 0 ∧ ¬ (255 : Int32) < c) (ez : zs = ((((((((((((((((((((((((((((((((((([] ++ [(101 : Int32)]) ++ [(120 : Int32)]) ++ [(105 : Int32)]) ++ [(115 : Int32)]) ++ [(116 : Int32)]) ++ [(115 : Int32)]) ++ [(32 : Int32)]) ++ [(40 : Int32)]) ++ [(115 : Int32)]) ++ [(101 : Int32)]) ++ [(108 : Int32)]) ++ [(101 : Int32)]) ++ [(99 : Int32)]) ++ [(116 : Int32)]) ++ [(32 : Int32)]) ++ [(49 : Int32)]) ++ [(32 : Int32)]) ++ [(102 : Int32)]) ++ [(114 : Int32)]) ++ [(111 : Int32)]) ++ [(109 : Int32)]) ++ [(32 : Int32)]) ++ ts) ++ [(32 : Int32)]) ++ [(116 : Int32)]) ++ [d0]) ++ [(32 : Int32)]) ++ [(119 : Int32)]) ++ [(104 : Int32)]) ++ [(101 : Int32)]) ++ [(114 : Int32)]) ++ [(101 : Int32)]) ++ [(32 : Int32)]) ++ cs) ++ [(41 : Int32)])) :
   Wo p e s below Z EL1 n0 WL FL room_1 (Q_law Z p0 p1 p2 h) T0 (mkF m 204 #[.val (.int p0), .val (.int p1), .val (.int p2), .val (.int tl), .val (.int ta), .val (.int tb), .val (.int kl), .val (.int ca), .val (.int cb), .val (.int b1), .val (.int 0), .val (.int qq), .val v12, .val v13, .val v14, .val (.int d0), .val (.int d1), .val (.ref r), .unset, .unset, .unset] []) := by
 obtain ⟨eT, lT⟩ := strL gt
 obtain ⟨eC, lC⟩ := strL gc
 refine P.iload X0 hx 206 (hb w at_204) rfl rfl ?_
 refine P.ifYes X0 hx 214 (hb w at_206) (by decide) (by decide) (by decide) ?_
 refine P.iconst X0 hx 215 0 (hb w at_214) rfl rfl ?_
 refine P.istore X0 hx 217 #[.val (.int p0), .val (.int p1), .val (.int p2), .val (.int tl), .val (.int ta), .val (.int tb), .val (.int kl), .val (.int ca), .val (.int cb), .val (.int b1), .val (.int 0), .val (.int qq), .val v12, .val v13, .val v14, .val (.int d0), .val (.int d1), .val (.ref r), .val (.int 0), .unset, .unset] (hb w at_215) rfl rfl ?_
 refine P.bipush X0 hx 219 33 (hb w at_217) rfl rfl ?_
 refine P.iloadN X0 hx 220 (hb w at_219) rfl rfl ?_
 refine P.iadd X0 hx 221 (z := ((33 : Int32) + tl)) (hb w at_220) rfl rfl ?_
 refine P.iload X0 hx 223 (hb w at_221) rfl rfl ?_
 refine P.iadd X0 hx 224 (z := (((33 : Int32) + tl) + kl)) (hb w at_223) rfl rfl ?_
 refine P.iload X0 hx 226 (hb w at_224) rfl rfl ?_
 refine P.iadd X0 hx 227 (z := (Int32.ofNat (33 + ts.length + cs.length + 0))) (hb w at_226) (by rw [show ((((33 : Int32) + tl) + kl) + (0 : Int32)) = Int32.ofNat (33 + ts.length + cs.length + 0) from nT0 eT eC]) rfl ?_
 refine X0.newP (aty := .char) hx (w7 cx) (hb w at_227) (oNn (by omega)) (cap := 53) (by rw [oC (by omega)]; omega) (nle rfl) (nle rfl) (nle rfl) ?_
 intro T1 h1 a1 k1 X1 E1 g1 A1
 have ge2 := Nat.le_trans K0.1 g1
 have K3 := K0.ext E1
 have V4 : Arv Z h1 a1 k1 .char (Int32.ofNat (33 + ts.length + cs.length + 0)) [] (.int 0) := A1
 refine P.astore X1 hx 231 #[.val (.int p0), .val (.int p1), .val (.int p2), .val (.int tl), .val (.int ta), .val (.int tb), .val (.int kl), .val (.int ca), .val (.int cb), .val (.int b1), .val (.int 0), .val (.int qq), .val v12, .val v13, .val v14, .val (.int d0), .val (.int d1), .val (.ref r), .val (.int 0), .val (.ref a1), .unset] (hb w at_229) rfl rfl rfl ?_
 refine P.aload X1 hx 233 (hb w at_231) rfl rfl rfl ?_
 refine P.iconst X1 hx 234 0 (hb w at_233) rfl rfl ?_
 refine P.bipush X1 hx 236 101 (hb w at_234) rfl rfl ?_
 refine X1.stCL hx (cs := []) V4 (j := (0 : Int32)) (x := (101 : Int32)) (cap := (33 + ts.length + cs.length + 0)) rfl rfl rfl (by simp <;> omega) (by omega) (mg 0 rfl) (hb w at_236) ?_
 intro T5 h5 X5 J5 G5
 have K6 := K3.trans J5 (allS (Or.inr ge2) all0)
 refine P.aload X5 hx 239 (hb w at_237) rfl rfl rfl ?_
 refine P.iconst X5 hx 240 1 (hb w at_239) rfl rfl ?_
 refine P.bipush X5 hx 242 120 (hb w at_240) rfl rfl ?_
 refine X5.stCL hx G5 (j := (1 : Int32)) (x := (120 : Int32)) (cap := (33 + ts.length + cs.length + 0)) rfl rfl rfl (by simp <;> omega) (by omega) (mg 0 rfl) (hb w at_242) ?_
 intro T7 h7 X7 J7 G7
 have K8 := K6.trans J7 (allS (Or.inr ge2) all0)
 refine P.aload X7 hx 245 (hb w at_243) rfl rfl rfl ?_
 refine P.iconst X7 hx 246 2 (hb w at_245) rfl rfl ?_
 refine P.bipush X7 hx 248 105 (hb w at_246) rfl rfl ?_
 refine X7.stCL hx G7 (j := (2 : Int32)) (x := (105 : Int32)) (cap := (33 + ts.length + cs.length + 0)) rfl rfl rfl (by simp <;> omega) (by omega) (mg 0 rfl) (hb w at_248) ?_
 intro T9 h9 X9 J9 G9
 have K10 := K8.trans J9 (allS (Or.inr ge2) all0)
 refine P.aload X9 hx 251 (hb w at_249) rfl rfl rfl ?_
 refine P.iconst X9 hx 252 3 (hb w at_251) rfl rfl ?_
 refine P.bipush X9 hx 254 115 (hb w at_252) rfl rfl ?_
 refine X9.stCL hx G9 (j := (3 : Int32)) (x := (115 : Int32)) (cap := (33 + ts.length + cs.length + 0)) rfl rfl rfl (by simp <;> omega) (by omega) (mg 0 rfl) (hb w at_254) ?_
 intro T11 h11 X11 J11 G11
 have K12 := K10.trans J11 (allS (Or.inr ge2) all0)
 refine P.aload X11 hx 257 (hb w at_255) rfl rfl rfl ?_
 refine P.iconst X11 hx 258 4 (hb w at_257) rfl rfl ?_
 refine P.bipush X11 hx 260 116 (hb w at_258) rfl rfl ?_
 refine X11.stCL hx G11 (j := (4 : Int32)) (x := (116 : Int32)) (cap := (33 + ts.length + cs.length + 0)) rfl rfl rfl (by simp <;> omega) (by omega) (mg 0 rfl) (hb w at_260) ?_
 intro T13 h13 X13 J13 G13
 have K14 := K12.trans J13 (allS (Or.inr ge2) all0)
 refine P.aload X13 hx 263 (hb w at_261) rfl rfl rfl ?_
 refine P.iconst X13 hx 264 5 (hb w at_263) rfl rfl ?_
 refine P.bipush X13 hx 266 115 (hb w at_264) rfl rfl ?_
 refine X13.stCL hx G13 (j := (5 : Int32)) (x := (115 : Int32)) (cap := (33 + ts.length + cs.length + 0)) rfl rfl rfl (by simp <;> omega) (by omega) (mg 0 rfl) (hb w at_266) ?_
 intro T15 h15 X15 J15 G15
 have K16 := K14.trans J15 (allS (Or.inr ge2) all0)
 refine P.aload X15 hx 269 (hb w at_267) rfl rfl rfl ?_
 refine P.bipush X15 hx 271 6 (hb w at_269) rfl rfl ?_
 refine P.bipush X15 hx 273 32 (hb w at_271) rfl rfl ?_
 refine X15.stCL hx G15 (j := (6 : Int32)) (x := (32 : Int32)) (cap := (33 + ts.length + cs.length + 0)) rfl rfl rfl (by simp <;> omega) (by omega) (mg 0 rfl) (hb w at_273) ?_
 intro T17 h17 X17 J17 G17
 have K18 := K16.trans J17 (allS (Or.inr ge2) all0)
 refine P.aload X17 hx 276 (hb w at_274) rfl rfl rfl ?_
 refine P.bipush X17 hx 278 7 (hb w at_276) rfl rfl ?_
 refine P.bipush X17 hx 280 40 (hb w at_278) rfl rfl ?_
 refine X17.stCL hx G17 (j := (7 : Int32)) (x := (40 : Int32)) (cap := (33 + ts.length + cs.length + 0)) rfl rfl rfl (by simp <;> omega) (by omega) (mg 0 rfl) (hb w at_280) ?_
 intro T19 h19 X19 J19 G19
 have K20 := K18.trans J19 (allS (Or.inr ge2) all0)
 refine P.aload X19 hx 283 (hb w at_281) rfl rfl rfl ?_
 refine P.bipush X19 hx 285 8 (hb w at_283) rfl rfl ?_
 refine P.bipush X19 hx 287 115 (hb w at_285) rfl rfl ?_
 refine X19.stCL hx G19 (j := (8 : Int32)) (x := (115 : Int32)) (cap := (33 + ts.length + cs.length + 0)) rfl rfl rfl (by simp <;> omega) (by omega) (mg 0 rfl) (hb w at_287) ?_
 intro T21 h21 X21 J21 G21
 have K22 := K20.trans J21 (allS (Or.inr ge2) all0)
 refine P.aload X21 hx 290 (hb w at_288) rfl rfl rfl ?_
 refine P.bipush X21 hx 292 9 (hb w at_290) rfl rfl ?_
 refine P.bipush X21 hx 294 101 (hb w at_292) rfl rfl ?_
 refine X21.stCL hx G21 (j := (9 : Int32)) (x := (101 : Int32)) (cap := (33 + ts.length + cs.length + 0)) rfl rfl rfl (by simp <;> omega) (by omega) (mg 0 rfl) (hb w at_294) ?_
 intro T23 h23 X23 J23 G23
 have K24 := K22.trans J23 (allS (Or.inr ge2) all0)
 refine P.aload X23 hx 297 (hb w at_295) rfl rfl rfl ?_
 refine P.bipush X23 hx 299 10 (hb w at_297) rfl rfl ?_
 refine P.bipush X23 hx 301 108 (hb w at_299) rfl rfl ?_
 refine X23.stCL hx G23 (j := (10 : Int32)) (x := (108 : Int32)) (cap := (33 + ts.length + cs.length + 0)) rfl rfl rfl (by simp <;> omega) (by omega) (mg 0 rfl) (hb w at_301) ?_
 intro T25 h25 X25 J25 G25
 have K26 := K24.trans J25 (allS (Or.inr ge2) all0)
 refine P.aload X25 hx 304 (hb w at_302) rfl rfl rfl ?_
 refine P.bipush X25 hx 306 11 (hb w at_304) rfl rfl ?_
 refine P.bipush X25 hx 308 101 (hb w at_306) rfl rfl ?_
 refine X25.stCL hx G25 (j := (11 : Int32)) (x := (101 : Int32)) (cap := (33 + ts.length + cs.length + 0)) rfl rfl rfl (by simp <;> omega) (by omega) (mg 0 rfl) (hb w at_308) ?_
 intro T27 h27 X27 J27 G27
 have K28 := K26.trans J27 (allS (Or.inr ge2) all0)
 refine P.aload X27 hx 311 (hb w at_309) rfl rfl rfl ?_
 refine P.bipush X27 hx 313 12 (hb w at_311) rfl rfl ?_
 refine P.bipush X27 hx 315 99 (hb w at_313) rfl rfl ?_
 refine X27.stCL hx G27 (j := (12 : Int32)) (x := (99 : Int32)) (cap := (33 + ts.length + cs.length + 0)) rfl rfl rfl (by simp <;> omega) (by omega) (mg 0 rfl) (hb w at_315) ?_
 intro T29 h29 X29 J29 G29
 have K30 := K28.trans J29 (allS (Or.inr ge2) all0)
 refine P.aload X29 hx 318 (hb w at_316) rfl rfl rfl ?_
 refine P.bipush X29 hx 320 13 (hb w at_318) rfl rfl ?_
 refine P.bipush X29 hx 322 116 (hb w at_320) rfl rfl ?_
 refine X29.stCL hx G29 (j := (13 : Int32)) (x := (116 : Int32)) (cap := (33 + ts.length + cs.length + 0)) rfl rfl rfl (by simp <;> omega) (by omega) (mg 0 rfl) (hb w at_322) ?_
 intro T31 h31 X31 J31 G31
 have K32 := K30.trans J31 (allS (Or.inr ge2) all0)
 refine P.aload X31 hx 325 (hb w at_323) rfl rfl rfl ?_
 refine P.bipush X31 hx 327 14 (hb w at_325) rfl rfl ?_
 refine P.bipush X31 hx 329 32 (hb w at_327) rfl rfl ?_
 refine X31.stCL hx G31 (j := (14 : Int32)) (x := (32 : Int32)) (cap := (33 + ts.length + cs.length + 0)) rfl rfl rfl (by simp <;> omega) (by omega) (mg 0 rfl) (hb w at_329) ?_
 intro T33 h33 X33 J33 G33
 have K34 := K32.trans J33 (allS (Or.inr ge2) all0)
 refine P.aload X33 hx 332 (hb w at_330) rfl rfl rfl ?_
 refine P.bipush X33 hx 334 15 (hb w at_332) rfl rfl ?_
 refine P.bipush X33 hx 336 49 (hb w at_334) rfl rfl ?_
 refine X33.stCL hx G33 (j := (15 : Int32)) (x := (49 : Int32)) (cap := (33 + ts.length + cs.length + 0)) rfl rfl rfl (by simp <;> omega) (by omega) (mg 0 rfl) (hb w at_336) ?_
 intro T35 h35 X35 J35 G35
 have K36 := K34.trans J35 (allS (Or.inr ge2) all0)
 refine P.aload X35 hx 339 (hb w at_337) rfl rfl rfl ?_
 refine P.bipush X35 hx 341 16 (hb w at_339) rfl rfl ?_
 refine P.bipush X35 hx 343 32 (hb w at_341) rfl rfl ?_
 refine X35.stCL hx G35 (j := (16 : Int32)) (x := (32 : Int32)) (cap := (33 + ts.length + cs.length + 0)) rfl rfl rfl (by simp <;> omega) (by omega) (mg 0 rfl) (hb w at_343) ?_
 intro T37 h37 X37 J37 G37
 have K38 := K36.trans J37 (allS (Or.inr ge2) all0)
 refine P.aload X37 hx 346 (hb w at_344) rfl rfl rfl ?_
 refine P.bipush X37 hx 348 17 (hb w at_346) rfl rfl ?_
 refine P.bipush X37 hx 350 102 (hb w at_348) rfl rfl ?_
 refine X37.stCL hx G37 (j := (17 : Int32)) (x := (102 : Int32)) (cap := (33 + ts.length + cs.length + 0)) rfl rfl rfl (by simp <;> omega) (by omega) (mg 0 rfl) (hb w at_350) ?_
 intro T39 h39 X39 J39 G39
 have K40 := K38.trans J39 (allS (Or.inr ge2) all0)
 refine P.aload X39 hx 353 (hb w at_351) rfl rfl rfl ?_
 refine P.bipush X39 hx 355 18 (hb w at_353) rfl rfl ?_
 refine P.bipush X39 hx 357 114 (hb w at_355) rfl rfl ?_
 refine X39.stCL hx G39 (j := (18 : Int32)) (x := (114 : Int32)) (cap := (33 + ts.length + cs.length + 0)) rfl rfl rfl (by simp <;> omega) (by omega) (mg 0 rfl) (hb w at_357) ?_
 intro T41 h41 X41 J41 G41
 have K42 := K40.trans J41 (allS (Or.inr ge2) all0)
 refine P.aload X41 hx 360 (hb w at_358) rfl rfl rfl ?_
 refine P.bipush X41 hx 362 19 (hb w at_360) rfl rfl ?_
 refine P.bipush X41 hx 364 111 (hb w at_362) rfl rfl ?_
 refine X41.stCL hx G41 (j := (19 : Int32)) (x := (111 : Int32)) (cap := (33 + ts.length + cs.length + 0)) rfl rfl rfl (by simp <;> omega) (by omega) (mg 0 rfl) (hb w at_364) ?_
 intro T43 h43 X43 J43 G43
 have K44 := K42.trans J43 (allS (Or.inr ge2) all0)
 refine P.aload X43 hx 367 (hb w at_365) rfl rfl rfl ?_
 refine P.bipush X43 hx 369 20 (hb w at_367) rfl rfl ?_
 refine P.bipush X43 hx 371 109 (hb w at_369) rfl rfl ?_
 refine X43.stCL hx G43 (j := (20 : Int32)) (x := (109 : Int32)) (cap := (33 + ts.length + cs.length + 0)) rfl rfl rfl (by simp <;> omega) (by omega) (mg 0 rfl) (hb w at_371) ?_
 intro T45 h45 X45 J45 G45
 have K46 := K44.trans J45 (allS (Or.inr ge2) all0)
 refine P.aload X45 hx 374 (hb w at_372) rfl rfl rfl ?_
 refine P.bipush X45 hx 376 21 (hb w at_374) rfl rfl ?_
 refine P.bipush X45 hx 378 32 (hb w at_376) rfl rfl ?_
 refine X45.stCL hx G45 (j := (21 : Int32)) (x := (32 : Int32)) (cap := (33 + ts.length + cs.length + 0)) rfl rfl rfl (by simp <;> omega) (by omega) (mg 0 rfl) (hb w at_378) ?_
 intro T47 h47 X47 J47 G47
 have K48 := K46.trans J47 (allS (Or.inr ge2) all0)
 refine P.bipush X47 hx 381 22 (hb w at_379) rfl rfl ?_
 refine P.istore X47 hx 383 #[.val (.int p0), .val (.int p1), .val (.int p2), .val (.int tl), .val (.int ta), .val (.int tb), .val (.int kl), .val (.int ca), .val (.int cb), .val (.int b1), .val (.int 0), .val (.int qq), .val v12, .val v13, .val v14, .val (.int d0), .val (.int d1), .val (.ref r), .val (.int 0), .val (.ref a1), .val (.int 22)] (hb w at_381) rfl rfl ?_
 refine WS.join X47 (Φ := fun _ h' => Keep h47 h' [a1] ∧ Arv Z h' a1 k1 .char (Int32.ofNat (33 + ts.length + cs.length + 0)) (((((((((((((((((((((((([] ++ [(101 : Int32)]) ++ [(120 : Int32)]) ++ [(105 : Int32)]) ++ [(115 : Int32)]) ++ [(116 : Int32)]) ++ [(115 : Int32)]) ++ [(32 : Int32)]) ++ [(40 : Int32)]) ++ [(115 : Int32)]) ++ [(101 : Int32)]) ++ [(108 : Int32)]) ++ [(101 : Int32)]) ++ [(99 : Int32)]) ++ [(116 : Int32)]) ++ [(32 : Int32)]) ++ [(49 : Int32)]) ++ [(32 : Int32)]) ++ [(102 : Int32)]) ++ [(114 : Int32)]) ++ [(111 : Int32)]) ++ [(109 : Int32)]) ++ [(32 : Int32)]) ++ ts).map Value.int) (.int 0)) (f2 := (mkF m 408 #[.val (.int p0), .val (.int p1), .val (.int p2), .val (.int tl), .val (.int ta), .val (.int tb), .val (.int kl), .val (.int ca), .val (.int cb), .val (.int b1), .val (.int 0), .val (.int qq), .val v12, .val v13, .val v14, .val (.int d0), .val (.int d1), .val (.ref r), .val (.int 0), .val (.ref a1), .val (.int 22)] [])) ?_ ?_
 · intro J
   rcases gt with ⟨e1, e2⟩ | ⟨e1, e2⟩ | ⟨e1, e2⟩
   · skip
     refine P.iloadN X47 hx 384 (hb w at_383) rfl rfl ?_
     refine P.ifYes X47 hx 394 (hb w at_384) ((if0 _ _).trans (flt (by rw [e1]; decide)).2.2.2) (by decide) (by decide) ?_
     refine P.iloadN X47 hx 395 (hb w at_394) rfl rfl ?_
     refine P.iconst X47 hx 396 1 (hb w at_395) rfl rfl ?_
     refine P.icmpYes X47 hx 408 (hb w at_396) (flt (by rw [e1]; decide)).2.2.2 (by decide) (by decide) ?_
     exact J _ _ X47 ⟨(Keep.refl _ _), (by have q := G47; rw [e2] at q ⊢; rw [List.append_nil]; exact q)⟩
   · skip
     refine P.iloadN X47 hx 384 (hb w at_383) rfl rfl ?_
     refine P.ifNo X47 hx 387 (hb w at_384) ((if0 _ _).trans (tlt (by rw [e1]; decide)).2.2.2) rfl ?_
     refine P.aload X47 hx 389 (hb w at_387) rfl rfl rfl ?_
     refine P.iload X47 hx 391 (hb w at_389) rfl rfl ?_
     refine P.iload X47 hx 393 (hb w at_391) rfl rfl ?_
     refine X47.stCL hx G47 (j := (22 : Int32)) (x := ta) (cap := (33 + ts.length + cs.length + 0)) rfl rfl (by rw [narR hr_ta]) (by simp <;> omega) (by omega) (mg 0 rfl) (hb w at_393) ?_
     intro T49 h49 X49 J49 G49
     have K50 := K48.trans J49 (allS (Or.inr ge2) all0)
     refine P.iloadN X49 hx 395 (hb w at_394) rfl rfl ?_
     refine P.iconst X49 hx 396 1 (hb w at_395) rfl rfl ?_
     refine P.icmpYes X49 hx 408 (hb w at_396) (flt (by rw [e1]; decide)).2.2.2 (by decide) (by decide) ?_
     exact J _ _ X49 ⟨J49, (by have q := G49; rw [e2] at q ⊢; exact q)⟩
   · skip
     refine P.iloadN X47 hx 384 (hb w at_383) rfl rfl ?_
     refine P.ifNo X47 hx 387 (hb w at_384) ((if0 _ _).trans (tlt (by rw [e1]; decide)).2.2.2) rfl ?_
     refine P.aload X47 hx 389 (hb w at_387) rfl rfl rfl ?_
     refine P.iload X47 hx 391 (hb w at_389) rfl rfl ?_
     refine P.iload X47 hx 393 (hb w at_391) rfl rfl ?_
     refine X47.stCL hx G47 (j := (22 : Int32)) (x := ta) (cap := (33 + ts.length + cs.length + 0)) rfl rfl (by rw [narR hr_ta]) (by simp <;> omega) (by omega) (mg 0 rfl) (hb w at_393) ?_
     intro T51 h51 X51 J51 G51
     have K52 := K48.trans J51 (allS (Or.inr ge2) all0)
     refine P.iloadN X51 hx 395 (hb w at_394) rfl rfl ?_
     refine P.iconst X51 hx 396 1 (hb w at_395) rfl rfl ?_
     refine P.icmpNo X51 hx 399 (hb w at_396) (tlt (by rw [e1]; decide)).2.2.2 rfl ?_
     refine P.aload X51 hx 401 (hb w at_399) rfl rfl rfl ?_
     refine P.iload X51 hx 403 (hb w at_401) rfl rfl ?_
     refine P.iconst X51 hx 404 1 (hb w at_403) rfl rfl ?_
     refine P.iadd X51 hx 405 (z := (23 : Int32)) (hb w at_404) rfl rfl ?_
     refine P.iload X51 hx 407 (hb w at_405) rfl rfl ?_
     refine X51.stCL hx G51 (j := (23 : Int32)) (x := tb) (cap := (33 + ts.length + cs.length + 0)) rfl rfl (by rw [narR hr_tb]) (by simp <;> omega) (by omega) (mg 0 rfl) (hb w at_407) ?_
     intro T53 h53 X53 J53 G53
     have K54 := K52.trans J53 (allS (Or.inr ge2) all0)
     exact J _ _ X53 ⟨(J51.trans J53 (allS (Or.inl (mg 0 rfl)) all0)), (by have q := G53; rw [e2] at q ⊢; rw [List.append_assoc] at q; exact q)⟩
 intro T55 h55 X55 ⟨J55, A55⟩
 have K56 := K48.trans J55 (allS (Or.inr ge2) all0)
 show Wo _ _ _ _ _ _ _ _ _ _ _ T55 (mkF m 408 #[.val (.int p0), .val (.int p1), .val (.int p2), .val (.int tl), .val (.int ta), .val (.int tb), .val (.int kl), .val (.int ca), .val (.int cb), .val (.int b1), .val (.int 0), .val (.int qq), .val v12, .val v13, .val v14, .val (.int d0), .val (.int d1), .val (.ref r), .val (.int 0), .val (.ref a1), .val (.int 22)] [])
 refine P.iload X55 hx 410 (hb w at_408) rfl rfl ?_
 refine P.iloadN X55 hx 411 (hb w at_410) rfl rfl ?_
 refine P.iadd X55 hx 412 (z := (Int32.ofNat (22 + ts.length))) (hb w at_411) (nP eT) rfl ?_
 refine P.istore X55 hx 414 #[.val (.int p0), .val (.int p1), .val (.int p2), .val (.int tl), .val (.int ta), .val (.int tb), .val (.int kl), .val (.int ca), .val (.int cb), .val (.int b1), .val (.int 0), .val (.int qq), .val v12, .val v13, .val v14, .val (.int d0), .val (.int d1), .val (.ref r), .val (.int 0), .val (.ref a1), .val (.int (Int32.ofNat (22 + ts.length)))] (hb w at_412) rfl rfl ?_
 refine P.aload X55 hx 416 (hb w at_414) rfl rfl rfl ?_
 refine P.iload X55 hx 418 (hb w at_416) rfl rfl ?_
 refine P.bipush X55 hx 420 32 (hb w at_418) rfl rfl ?_
 refine X55.stCL hx A55 (j := (Int32.ofNat (22 + ts.length))) (x := (32 : Int32)) (cap := (33 + ts.length + cs.length + 0)) rfl (congrArg Int32.ofNat (by simp <;> omega)) rfl (by simp <;> omega) (by omega) (mg 0 rfl) (hb w at_420) ?_
 intro T57 h57 X57 J57 G57
 have K58 := K56.trans J57 (allS (Or.inr ge2) all0)
 refine P.aload X57 hx 423 (hb w at_421) rfl rfl rfl ?_
 refine P.iload X57 hx 425 (hb w at_423) rfl rfl ?_
 refine P.iconst X57 hx 426 1 (hb w at_425) rfl rfl ?_
 refine P.iadd X57 hx 427 (z := (Int32.ofNat ((22 + ts.length) + 1))) (hb w at_426) (oAd _ 1) rfl ?_
 refine P.bipush X57 hx 429 116 (hb w at_427) rfl rfl ?_
 refine X57.stCL hx G57 (j := (Int32.ofNat ((22 + ts.length) + 1))) (x := (116 : Int32)) (cap := (33 + ts.length + cs.length + 0)) rfl (congrArg Int32.ofNat (by simp <;> omega)) rfl (by simp <;> omega) (by omega) (mg 0 rfl) (hb w at_429) ?_
 intro T59 h59 X59 J59 G59
 have K60 := K58.trans J59 (allS (Or.inr ge2) all0)
 refine P.aload X59 hx 432 (hb w at_430) rfl rfl rfl ?_
 refine P.iload X59 hx 434 (hb w at_432) rfl rfl ?_
 refine P.iconst X59 hx 435 2 (hb w at_434) rfl rfl ?_
 refine P.iadd X59 hx 436 (z := (Int32.ofNat ((22 + ts.length) + 2))) (hb w at_435) (oAd _ 2) rfl ?_
 refine P.iload X59 hx 438 (hb w at_436) rfl rfl ?_
 refine X59.stCL hx G59 (j := (Int32.ofNat ((22 + ts.length) + 2))) (x := d0) (cap := (33 + ts.length + cs.length + 0)) rfl (congrArg Int32.ofNat (by simp <;> omega)) (by rw [narR hr_d0]) (by simp <;> omega) (by omega) (mg 0 rfl) (hb w at_438) ?_
 intro T61 h61 X61 J61 G61
 have K62 := K60.trans J61 (allS (Or.inr ge2) all0)
 refine P.iload X61 hx 441 (hb w at_439) rfl rfl ?_
 refine P.iconst X61 hx 442 3 (hb w at_441) rfl rfl ?_
 refine P.iadd X61 hx 443 (z := (Int32.ofNat ((22 + ts.length) + 3))) (hb w at_442) (oAd _ 3) rfl ?_
 refine P.istore X61 hx 445 #[.val (.int p0), .val (.int p1), .val (.int p2), .val (.int tl), .val (.int ta), .val (.int tb), .val (.int kl), .val (.int ca), .val (.int cb), .val (.int b1), .val (.int 0), .val (.int qq), .val v12, .val v13, .val v14, .val (.int d0), .val (.int d1), .val (.ref r), .val (.int 0), .val (.ref a1), .val (.int (Int32.ofNat ((22 + ts.length) + 3)))] (hb w at_443) rfl rfl ?_
 refine P.iload X61 hx 447 (hb w at_445) rfl rfl ?_
 refine P.ifYes X61 hx 609 (hb w at_447) (by decide) (by decide) (by decide) ?_
 refine P.aload X61 hx 611 (hb w at_609) rfl rfl rfl ?_
 refine P.iload X61 hx 613 (hb w at_611) rfl rfl ?_
 refine P.bipush X61 hx 615 32 (hb w at_613) rfl rfl ?_
 refine X61.stCL hx G61 (j := (Int32.ofNat ((22 + ts.length) + 3))) (x := (32 : Int32)) (cap := (33 + ts.length + cs.length + 0)) rfl (congrArg Int32.ofNat (by simp <;> omega)) rfl (by simp <;> omega) (by omega) (mg 0 rfl) (hb w at_615) ?_
 intro T63 h63 X63 J63 G63
 have K64 := K62.trans J63 (allS (Or.inr ge2) all0)
 refine P.aload X63 hx 618 (hb w at_616) rfl rfl rfl ?_
 refine P.iload X63 hx 620 (hb w at_618) rfl rfl ?_
 refine P.iconst X63 hx 621 1 (hb w at_620) rfl rfl ?_
 refine P.iadd X63 hx 622 (z := (Int32.ofNat (((22 + ts.length) + 3) + 1))) (hb w at_621) (oAd _ 1) rfl ?_
 refine P.bipush X63 hx 624 119 (hb w at_622) rfl rfl ?_
 refine X63.stCL hx G63 (j := (Int32.ofNat (((22 + ts.length) + 3) + 1))) (x := (119 : Int32)) (cap := (33 + ts.length + cs.length + 0)) rfl (congrArg Int32.ofNat (by simp <;> omega)) rfl (by simp <;> omega) (by omega) (mg 0 rfl) (hb w at_624) ?_
 intro T65 h65 X65 J65 G65
 have K66 := K64.trans J65 (allS (Or.inr ge2) all0)
 refine P.aload X65 hx 627 (hb w at_625) rfl rfl rfl ?_
 refine P.iload X65 hx 629 (hb w at_627) rfl rfl ?_
 refine P.iconst X65 hx 630 2 (hb w at_629) rfl rfl ?_
 refine P.iadd X65 hx 631 (z := (Int32.ofNat (((22 + ts.length) + 3) + 2))) (hb w at_630) (oAd _ 2) rfl ?_
 refine P.bipush X65 hx 633 104 (hb w at_631) rfl rfl ?_
 refine X65.stCL hx G65 (j := (Int32.ofNat (((22 + ts.length) + 3) + 2))) (x := (104 : Int32)) (cap := (33 + ts.length + cs.length + 0)) rfl (congrArg Int32.ofNat (by simp <;> omega)) rfl (by simp <;> omega) (by omega) (mg 0 rfl) (hb w at_633) ?_
 intro T67 h67 X67 J67 G67
 have K68 := K66.trans J67 (allS (Or.inr ge2) all0)
 refine P.aload X67 hx 636 (hb w at_634) rfl rfl rfl ?_
 refine P.iload X67 hx 638 (hb w at_636) rfl rfl ?_
 refine P.iconst X67 hx 639 3 (hb w at_638) rfl rfl ?_
 refine P.iadd X67 hx 640 (z := (Int32.ofNat (((22 + ts.length) + 3) + 3))) (hb w at_639) (oAd _ 3) rfl ?_
 refine P.bipush X67 hx 642 101 (hb w at_640) rfl rfl ?_
 refine X67.stCL hx G67 (j := (Int32.ofNat (((22 + ts.length) + 3) + 3))) (x := (101 : Int32)) (cap := (33 + ts.length + cs.length + 0)) rfl (congrArg Int32.ofNat (by simp <;> omega)) rfl (by simp <;> omega) (by omega) (mg 0 rfl) (hb w at_642) ?_
 intro T69 h69 X69 J69 G69
 have K70 := K68.trans J69 (allS (Or.inr ge2) all0)
 refine P.aload X69 hx 645 (hb w at_643) rfl rfl rfl ?_
 refine P.iload X69 hx 647 (hb w at_645) rfl rfl ?_
 refine P.iconst X69 hx 648 4 (hb w at_647) rfl rfl ?_
 refine P.iadd X69 hx 649 (z := (Int32.ofNat (((22 + ts.length) + 3) + 4))) (hb w at_648) (oAd _ 4) rfl ?_
 refine P.bipush X69 hx 651 114 (hb w at_649) rfl rfl ?_
 refine X69.stCL hx G69 (j := (Int32.ofNat (((22 + ts.length) + 3) + 4))) (x := (114 : Int32)) (cap := (33 + ts.length + cs.length + 0)) rfl (congrArg Int32.ofNat (by simp <;> omega)) rfl (by simp <;> omega) (by omega) (mg 0 rfl) (hb w at_651) ?_
 intro T71 h71 X71 J71 G71
 have K72 := K70.trans J71 (allS (Or.inr ge2) all0)
 refine P.aload X71 hx 654 (hb w at_652) rfl rfl rfl ?_
 refine P.iload X71 hx 656 (hb w at_654) rfl rfl ?_
 refine P.iconst X71 hx 657 5 (hb w at_656) rfl rfl ?_
 refine P.iadd X71 hx 658 (z := (Int32.ofNat (((22 + ts.length) + 3) + 5))) (hb w at_657) (oAd _ 5) rfl ?_
 refine P.bipush X71 hx 660 101 (hb w at_658) rfl rfl ?_
 refine X71.stCL hx G71 (j := (Int32.ofNat (((22 + ts.length) + 3) + 5))) (x := (101 : Int32)) (cap := (33 + ts.length + cs.length + 0)) rfl (congrArg Int32.ofNat (by simp <;> omega)) rfl (by simp <;> omega) (by omega) (mg 0 rfl) (hb w at_660) ?_
 intro T73 h73 X73 J73 G73
 have K74 := K72.trans J73 (allS (Or.inr ge2) all0)
 refine P.aload X73 hx 663 (hb w at_661) rfl rfl rfl ?_
 refine P.iload X73 hx 665 (hb w at_663) rfl rfl ?_
 refine P.bipush X73 hx 667 6 (hb w at_665) rfl rfl ?_
 refine P.iadd X73 hx 668 (z := (Int32.ofNat (((22 + ts.length) + 3) + 6))) (hb w at_667) (oAd _ 6) rfl ?_
 refine P.bipush X73 hx 670 32 (hb w at_668) rfl rfl ?_
 refine X73.stCL hx G73 (j := (Int32.ofNat (((22 + ts.length) + 3) + 6))) (x := (32 : Int32)) (cap := (33 + ts.length + cs.length + 0)) rfl (congrArg Int32.ofNat (by simp <;> omega)) rfl (by simp <;> omega) (by omega) (mg 0 rfl) (hb w at_670) ?_
 intro T75 h75 X75 J75 G75
 have K76 := K74.trans J75 (allS (Or.inr ge2) all0)
 refine P.iload X75 hx 673 (hb w at_671) rfl rfl ?_
 refine P.bipush X75 hx 675 7 (hb w at_673) rfl rfl ?_
 refine P.iadd X75 hx 676 (z := (Int32.ofNat (((22 + ts.length) + 3) + 7))) (hb w at_675) (oAd _ 7) rfl ?_
 refine P.istore X75 hx 678 #[.val (.int p0), .val (.int p1), .val (.int p2), .val (.int tl), .val (.int ta), .val (.int tb), .val (.int kl), .val (.int ca), .val (.int cb), .val (.int b1), .val (.int 0), .val (.int qq), .val v12, .val v13, .val v14, .val (.int d0), .val (.int d1), .val (.ref r), .val (.int 0), .val (.ref a1), .val (.int (Int32.ofNat (((22 + ts.length) + 3) + 7)))] (hb w at_676) rfl rfl ?_
 refine WS.join X75 (Φ := fun _ h' => Keep h75 h' [a1] ∧ Arv Z h' a1 k1 .char (Int32.ofNat (33 + ts.length + cs.length + 0)) ((((((((((((((((((((((((((((((((((([] ++ [(101 : Int32)]) ++ [(120 : Int32)]) ++ [(105 : Int32)]) ++ [(115 : Int32)]) ++ [(116 : Int32)]) ++ [(115 : Int32)]) ++ [(32 : Int32)]) ++ [(40 : Int32)]) ++ [(115 : Int32)]) ++ [(101 : Int32)]) ++ [(108 : Int32)]) ++ [(101 : Int32)]) ++ [(99 : Int32)]) ++ [(116 : Int32)]) ++ [(32 : Int32)]) ++ [(49 : Int32)]) ++ [(32 : Int32)]) ++ [(102 : Int32)]) ++ [(114 : Int32)]) ++ [(111 : Int32)]) ++ [(109 : Int32)]) ++ [(32 : Int32)]) ++ ts) ++ [(32 : Int32)]) ++ [(116 : Int32)]) ++ [d0]) ++ [(32 : Int32)]) ++ [(119 : Int32)]) ++ [(104 : Int32)]) ++ [(101 : Int32)]) ++ [(114 : Int32)]) ++ [(101 : Int32)]) ++ [(32 : Int32)]) ++ cs).map Value.int) (.int 0)) (f2 := (mkF m 705 #[.val (.int p0), .val (.int p1), .val (.int p2), .val (.int tl), .val (.int ta), .val (.int tb), .val (.int kl), .val (.int ca), .val (.int cb), .val (.int b1), .val (.int 0), .val (.int qq), .val v12, .val v13, .val v14, .val (.int d0), .val (.int d1), .val (.ref r), .val (.int 0), .val (.ref a1), .val (.int (Int32.ofNat (((22 + ts.length) + 3) + 7)))] [])) ?_ ?_
 · intro J
   rcases gc with ⟨e1, e2⟩ | ⟨e1, e2⟩ | ⟨e1, e2⟩
   · skip
     refine P.iload X75 hx 680 (hb w at_678) rfl rfl ?_
     refine P.ifYes X75 hx 690 (hb w at_680) ((if0 _ _).trans (flt (by rw [e1]; decide)).2.2.2) (by decide) (by decide) ?_
     refine P.iload X75 hx 692 (hb w at_690) rfl rfl ?_
     refine P.iconst X75 hx 693 1 (hb w at_692) rfl rfl ?_
     refine P.icmpYes X75 hx 705 (hb w at_693) (flt (by rw [e1]; decide)).2.2.2 (by decide) (by decide) ?_
     exact J _ _ X75 ⟨(Keep.refl _ _), (by have q := G75; rw [e2] at q ⊢; rw [List.append_nil]; exact q)⟩
   · skip
     refine P.iload X75 hx 680 (hb w at_678) rfl rfl ?_
     refine P.ifNo X75 hx 683 (hb w at_680) ((if0 _ _).trans (tlt (by rw [e1]; decide)).2.2.2) rfl ?_
     refine P.aload X75 hx 685 (hb w at_683) rfl rfl rfl ?_
     refine P.iload X75 hx 687 (hb w at_685) rfl rfl ?_
     refine P.iload X75 hx 689 (hb w at_687) rfl rfl ?_
     refine X75.stCL hx G75 (j := (Int32.ofNat (((22 + ts.length) + 3) + 7))) (x := ca) (cap := (33 + ts.length + cs.length + 0)) rfl (congrArg Int32.ofNat (by simp <;> omega)) (by rw [narR hr_ca]) (by simp [e2] <;> omega) (by omega) (mg 0 rfl) (hb w at_689) ?_
     intro T77 h77 X77 J77 G77
     have K78 := K76.trans J77 (allS (Or.inr ge2) all0)
     refine P.iload X77 hx 692 (hb w at_690) rfl rfl ?_
     refine P.iconst X77 hx 693 1 (hb w at_692) rfl rfl ?_
     refine P.icmpYes X77 hx 705 (hb w at_693) (flt (by rw [e1]; decide)).2.2.2 (by decide) (by decide) ?_
     exact J _ _ X77 ⟨J77, (by have q := G77; rw [e2] at q ⊢; exact q)⟩
   · skip
     refine P.iload X75 hx 680 (hb w at_678) rfl rfl ?_
     refine P.ifNo X75 hx 683 (hb w at_680) ((if0 _ _).trans (tlt (by rw [e1]; decide)).2.2.2) rfl ?_
     refine P.aload X75 hx 685 (hb w at_683) rfl rfl rfl ?_
     refine P.iload X75 hx 687 (hb w at_685) rfl rfl ?_
     refine P.iload X75 hx 689 (hb w at_687) rfl rfl ?_
     refine X75.stCL hx G75 (j := (Int32.ofNat (((22 + ts.length) + 3) + 7))) (x := ca) (cap := (33 + ts.length + cs.length + 0)) rfl (congrArg Int32.ofNat (by simp <;> omega)) (by rw [narR hr_ca]) (by simp [e2] <;> omega) (by omega) (mg 0 rfl) (hb w at_689) ?_
     intro T79 h79 X79 J79 G79
     have K80 := K76.trans J79 (allS (Or.inr ge2) all0)
     refine P.iload X79 hx 692 (hb w at_690) rfl rfl ?_
     refine P.iconst X79 hx 693 1 (hb w at_692) rfl rfl ?_
     refine P.icmpNo X79 hx 696 (hb w at_693) (tlt (by rw [e1]; decide)).2.2.2 rfl ?_
     refine P.aload X79 hx 698 (hb w at_696) rfl rfl rfl ?_
     refine P.iload X79 hx 700 (hb w at_698) rfl rfl ?_
     refine P.iconst X79 hx 701 1 (hb w at_700) rfl rfl ?_
     refine P.iadd X79 hx 702 (z := (Int32.ofNat ((((22 + ts.length) + 3) + 7) + 1))) (hb w at_701) (oAd _ 1) rfl ?_
     refine P.iload X79 hx 704 (hb w at_702) rfl rfl ?_
     refine X79.stCL hx G79 (j := (Int32.ofNat ((((22 + ts.length) + 3) + 7) + 1))) (x := cb) (cap := (33 + ts.length + cs.length + 0)) rfl (congrArg Int32.ofNat (by simp <;> omega)) (by rw [narR hr_cb]) (by simp [e2] <;> omega) (by omega) (mg 0 rfl) (hb w at_704) ?_
     intro T81 h81 X81 J81 G81
     have K82 := K80.trans J81 (allS (Or.inr ge2) all0)
     exact J _ _ X81 ⟨(J79.trans J81 (allS (Or.inl (mg 0 rfl)) all0)), (by have q := G81; rw [e2] at q ⊢; rw [List.append_assoc] at q; exact q)⟩
 intro T83 h83 X83 ⟨J83, A83⟩
 have K84 := K76.trans J83 (allS (Or.inr ge2) all0)
 show Wo _ _ _ _ _ _ _ _ _ _ _ T83 (mkF m 705 #[.val (.int p0), .val (.int p1), .val (.int p2), .val (.int tl), .val (.int ta), .val (.int tb), .val (.int kl), .val (.int ca), .val (.int cb), .val (.int b1), .val (.int 0), .val (.int qq), .val v12, .val v13, .val v14, .val (.int d0), .val (.int d1), .val (.ref r), .val (.int 0), .val (.ref a1), .val (.int (Int32.ofNat (((22 + ts.length) + 3) + 7)))] [])
 refine P.iload X83 hx 707 (hb w at_705) rfl rfl ?_
 refine P.iload X83 hx 709 (hb w at_707) rfl rfl ?_
 refine P.iadd X83 hx 710 (z := (Int32.ofNat ((((22 + ts.length) + 3) + 7) + cs.length))) (hb w at_709) (nQ eC) rfl ?_
 refine P.istore X83 hx 712 #[.val (.int p0), .val (.int p1), .val (.int p2), .val (.int tl), .val (.int ta), .val (.int tb), .val (.int kl), .val (.int ca), .val (.int cb), .val (.int b1), .val (.int 0), .val (.int qq), .val v12, .val v13, .val v14, .val (.int d0), .val (.int d1), .val (.ref r), .val (.int 0), .val (.ref a1), .val (.int (Int32.ofNat ((((22 + ts.length) + 3) + 7) + cs.length)))] (hb w at_710) rfl rfl ?_
 refine P.aload X83 hx 714 (hb w at_712) rfl rfl rfl ?_
 refine P.iload X83 hx 716 (hb w at_714) rfl rfl ?_
 refine P.bipush X83 hx 718 41 (hb w at_716) rfl rfl ?_
 refine X83.stCL hx A83 (j := (Int32.ofNat ((((22 + ts.length) + 3) + 7) + cs.length))) (x := (41 : Int32)) (cap := (33 + ts.length + cs.length + 0)) rfl (congrArg Int32.ofNat (by simp <;> omega)) rfl (by simp <;> omega) (by omega) (mg 0 rfl) (hb w at_718) ?_
 intro T85 h85 X85 J85 G85
 have K86 := K84.trans J85 (allS (Or.inr ge2) all0)
 have hP : ∀ c ∈ ((((((((((((((((((((((((((((((((((([] ++ [(101 : Int32)]) ++ [(120 : Int32)]) ++ [(105 : Int32)]) ++ [(115 : Int32)]) ++ [(116 : Int32)]) ++ [(115 : Int32)]) ++ [(32 : Int32)]) ++ [(40 : Int32)]) ++ [(115 : Int32)]) ++ [(101 : Int32)]) ++ [(108 : Int32)]) ++ [(101 : Int32)]) ++ [(99 : Int32)]) ++ [(116 : Int32)]) ++ [(32 : Int32)]) ++ [(49 : Int32)]) ++ [(32 : Int32)]) ++ [(102 : Int32)]) ++ [(114 : Int32)]) ++ [(111 : Int32)]) ++ [(109 : Int32)]) ++ [(32 : Int32)]) ++ ts) ++ [(32 : Int32)]) ++ [(116 : Int32)]) ++ [d0]) ++ [(32 : Int32)]) ++ [(119 : Int32)]) ++ [(104 : Int32)]) ++ [(101 : Int32)]) ++ [(114 : Int32)]) ++ [(101 : Int32)]) ++ [(32 : Int32)]) ++ cs) ++ [(41 : Int32)]), ¬ c < 0 ∧ ¬ (255 : Int32) < c := (appR (appR (appR (appR (appR (appR (appR (appR (appR (appR (appR (appR (appR (appR (appR (appR (appR (appR (appR (appR (appR (appR (appR (appR (appR (appR (appR (appR (appR (appR (appR (appR (appR (appR (appR fc0 (fcS (by decide) fc0)) (fcS (by decide) fc0)) (fcS (by decide) fc0)) (fcS (by decide) fc0)) (fcS (by decide) fc0)) (fcS (by decide) fc0)) (fcS (by decide) fc0)) (fcS (by decide) fc0)) (fcS (by decide) fc0)) (fcS (by decide) fc0)) (fcS (by decide) fc0)) (fcS (by decide) fc0)) (fcS (by decide) fc0)) (fcS (by decide) fc0)) (fcS (by decide) fc0)) (fcS (by decide) fc0)) (fcS (by decide) fc0)) (fcS (by decide) fc0)) (fcS (by decide) fc0)) (fcS (by decide) fc0)) (fcS (by decide) fc0)) (fcS (by decide) fc0)) hts) (fcS (by decide) fc0)) (fcS (by decide) fc0)) (fcS hr_d0 fc0)) (fcS (by decide) fc0)) (fcS (by decide) fc0)) (fcS (by decide) fc0)) (fcS (by decide) fc0)) (fcS (by decide) fc0)) (fcS (by decide) fc0)) (fcS (by decide) fc0)) hcs) (fcS (by decide) fc0))
 have hL : ((((((((((((((((((((((((((((((((((([] ++ [(101 : Int32)]) ++ [(120 : Int32)]) ++ [(105 : Int32)]) ++ [(115 : Int32)]) ++ [(116 : Int32)]) ++ [(115 : Int32)]) ++ [(32 : Int32)]) ++ [(40 : Int32)]) ++ [(115 : Int32)]) ++ [(101 : Int32)]) ++ [(108 : Int32)]) ++ [(101 : Int32)]) ++ [(99 : Int32)]) ++ [(116 : Int32)]) ++ [(32 : Int32)]) ++ [(49 : Int32)]) ++ [(32 : Int32)]) ++ [(102 : Int32)]) ++ [(114 : Int32)]) ++ [(111 : Int32)]) ++ [(109 : Int32)]) ++ [(32 : Int32)]) ++ ts) ++ [(32 : Int32)]) ++ [(116 : Int32)]) ++ [d0]) ++ [(32 : Int32)]) ++ [(119 : Int32)]) ++ [(104 : Int32)]) ++ [(101 : Int32)]) ++ [(114 : Int32)]) ++ [(101 : Int32)]) ++ [(32 : Int32)]) ++ cs) ++ [(41 : Int32)]).length = (33 + ts.length + cs.length + 0) := by simp <;> omega
 refine P.aload X85 hx 721 (hb w at_719) rfl rfl rfl ?_
 refine X85.newO hx (w4 cx) (w5 cx) (w6 cx) (hb w at_721) (nle rfl) (nle rfl) ?_
 intro T87 h87 a87 X87 E87 g87 A87 D87
 have ge88 := Nat.le_trans K86.1 g87
 have K89 := K86.ext E87
 have D90 : Fld Z h87 a87 "java/lang/String" "value" "[B" .null := D87 (Or.inr (w20 cx)) (ty := (.array .byte)) (by decide)
 have D91 : Fld Z h87 a87 "java/lang/String" "coder" "B" (.int 0) := D87 (Or.inr (w21 cx)) (ty := .byte) (by decide)
 refine P.dup X87 hx 725 (hb w at_724) rfl rfl ?_
 refine P.aload X87 hx 727 (hb w at_725) rfl rfl rfl ?_
 have F92 := G85.ext E87
 refine X87.callC hx rfl (w8 cx) (w9 cx) (w10 cx) (by decide) (Pay.room (n' := 53) (pay_new (W := 2) (hws cx) (w5 cx) (cs := ((((((((((((((((((((((((((((((((((([] ++ [(101 : Int32)]) ++ [(120 : Int32)]) ++ [(105 : Int32)]) ++ [(115 : Int32)]) ++ [(116 : Int32)]) ++ [(115 : Int32)]) ++ [(32 : Int32)]) ++ [(40 : Int32)]) ++ [(115 : Int32)]) ++ [(101 : Int32)]) ++ [(108 : Int32)]) ++ [(101 : Int32)]) ++ [(99 : Int32)]) ++ [(116 : Int32)]) ++ [(32 : Int32)]) ++ [(49 : Int32)]) ++ [(32 : Int32)]) ++ [(102 : Int32)]) ++ [(114 : Int32)]) ++ [(111 : Int32)]) ++ [(109 : Int32)]) ++ [(32 : Int32)]) ++ ts) ++ [(32 : Int32)]) ++ [(116 : Int32)]) ++ [d0]) ++ [(32 : Int32)]) ++ [(119 : Int32)]) ++ [(104 : Int32)]) ++ [(101 : Int32)]) ++ [(114 : Int32)]) ++ [(101 : Int32)]) ++ [(32 : Int32)]) ++ cs) ++ [(41 : Int32)])) (n := (33 + ts.length + cs.length + 0)) (X87.ge (mg 0 rfl)) X87.n0le (mg 0 rfl) A87 D90 D91 F92 (X87.sta (S_C cx)) (N_C cx) hL rfl (by omega) (by omega) hP (nle rfl) (nle rfl)) (by omega)) (by rw [hml]; rfl) (argsL := [.ref a1]) (rest := [.ref a87, .ref r]) (lenOf pd32 rfl) rfl rfl (nle rfl) (hb w at_727) (nle rfl) (nle rfl) ?_
 rintro T93 h93 _ _ _ X93 ⟨a94, rfl, rfl, rfl, J93, G95⟩
 have K96 := K89.trans J93 (allS (Or.inr ge88) all0)
 have KK97 := (ktr (ktr (ktr (ktr (ktr (ktr (ktr (ktr (ktr (ktr (ktr (ktr (ktr (ktr (ktr (ktr (ktr (ktr (ktr (ktr (ktr (ktr (ktr (ktr (ktr (ktr (ktr (ktr (ktr (ktr (ktr (ktr (ktr (ktr J5 J7) J9) J11) J13) J15) J17) J19) J21) J23) J25) J27) J29) J31) J33) J35) J37) J39) J41) J43) J45) J47) J55) J57) J59) J61) J63) J65) J67) J69) J71) J73) J75) J83) J85)
 have F98 := (((P0.1.ext E1).keep KK97).ext E87).keep J93
 have F99 := (((P0.ext E1).keep KK97 (ninS (X93.neF (mg 1 rfl) (mg 1 rfl)) nin0) (ninS (X93.neF (mg 2 rfl) (mg 1 rfl)) nin0)).ext E87).keep J93 (ninS (X93.neF (mg 1 rfl) (mg 0 rfl)) nin0) (ninS (X93.neF (mg 2 rfl) (mg 0 rfl)) nin0)
 refine X93.callV hx (w302 cx) (w303 cx) (w305 cx) (w304 cx) (fun _ hZ => nf hZ (w305 cx)) (by decide) F98 (pay_eqT (W := 0) (heq cx) (w5 cx) F99 G95 ez (X93.sta (S_C cx)) (N_C cx) (nle rfl) (nle rfl)) (by rw [hml]; rfl) (argsL := [.ref a87]) (rest := []) (lenOf pd33 rfl) rfl rfl (nle rfl) (hb w at_730) (nle rfl) (nle rfl) ?_
 rintro T100 h100 _ _ _ X100 ⟨rfl, rfl, rfl, J100⟩
 rw [J100] at X100
 have X101 := WS.drop (A := []) (B := (a1 :: WL)) X100
 have X102 := WS.drop (A := []) (B := WL) X101
 have X103 := WS.fl (FL2 := FL) X102 (fun y hy => (List.mem_append_right [a1, a87, a94, r, u] hy))
 exact WS.retN X103 (WL' := []) (FL' := []) hx (t := .boolean) hret (by simp) hlk (hb w at_733) (nle rfl) (nle rfl) ⟨rfl, rfl, rfl, K96⟩
theorem mid_law1 (cx : Cx a0 Z gC gF v_AL v_DO k_DO) {p : Program} {e : Env} {s : State} {m : MethodId} {as' : Array Value} {below : List Frame} {meth : Method} {c : Code} {T0 : State} {h hm : Heap} {WL FL : List Addr} (p0 : Int32) (p1 : Int32) (p2 : Int32) (tl : Int32) (ta : Int32) (tb : Int32) (kl : Int32) (ca : Int32) (cb : Int32) (b1 : Int32) (qq : Int32) (d0 : Int32) (d1 : Int32) (v12 : Value) (v13 : Value) (v14 : Value) (r : Addr) (u : Addr) (ts : List Int32) (cs : List Int32) (zs : List Int32) (hx : p.tables.exec = Jvm.exec) (w : c.code = code) (hml : c.maxLocals = maxLocals) (hnm : meth.name = (x).name) (hret : meth.sig.returnType = ret) (hlk : meth.locks = false) (X0 : WS p l e room_1 s m as' below meth c Z EL1 n0 (x).cls T0 hm WL (r :: u :: FL) 80 1400) (K0 : Keep h hm []) (P0 : StrL Z hm r u zs) (gt : (tl = 0 ∧ ts = []) ∨ (tl = 1 ∧ ts = [ta]) ∨ (tl = 2 ∧ ts = [ta, tb])) (gc : (kl = 0 ∧ cs = []) ∨ (kl = 1 ∧ cs = [ca]) ∨ (kl = 2 ∧ cs = [ca, cb])) (hr_ta : ¬ ta < 0 ∧ ¬ (255 : Int32) < ta) (hr_tb : ¬ tb < 0 ∧ ¬ (255 : Int32) < tb) (hr_ca : ¬ ca < 0 ∧ ¬ (255 : Int32) < ca) (hr_cb : ¬ cb < 0 ∧ ¬ (255 : Int32) < cb) (hr_qq : ¬ qq < 0 ∧ ¬ (255 : Int32) < qq) (hr_d0 : ¬ d0 < 0 ∧ ¬ (255 : Int32) < d0) (hr_d1 : ¬ d1 < 0 ∧ ¬ (255 : Int32) < d1) (hts : ∀ c ∈ ts, ¬ c < 0 ∧ ¬ (255 : Int32) < c) (hcs : ∀ c ∈ cs, ¬ c < 0 ∧ ¬ (255 : Int32) < c) (ez : zs = ((((((((((((((((((((((((((((((((((((((((((((((((((([] ++ [(101 : Int32)]) ++ [(120 : Int32)]) ++ [(105 : Int32)]) ++ [(115 : Int32)]) ++ [(116 : Int32)]) ++ [(115 : Int32)]) ++ [(32 : Int32)]) ++ [(40 : Int32)]) ++ [(115 : Int32)]) ++ [(101 : Int32)]) ++ [(108 : Int32)]) ++ [(101 : Int32)]) ++ [(99 : Int32)]) ++ [(116 : Int32)]) ++ [(32 : Int32)]) ++ [(49 : Int32)]) ++ [(32 : Int32)]) ++ [(102 : Int32)]) ++ [(114 : Int32)]) ++ [(111 : Int32)]) ++ [(109 : Int32)]) ++ [(32 : Int32)]) ++ ts) ++ [(32 : Int32)]) ++ [(116 : Int32)]) ++ [d0]) ++ [(32 : Int32)]) ++ [(99 : Int32)]) ++ [(114 : Int32)]) ++ [(111 : Int32)]) ++ [(115 : Int32)]) ++ [(115 : Int32)]) ++ [(32 : Int32)]) ++ [(106 : Int32)]) ++ [(111 : Int32)]) ++ [(105 : Int32)]) ++ [(110 : Int32)]) ++ [(32 : Int32)]) ++ [qq]) ++ [(32 : Int32)]) ++ [(116 : Int32)]) ++ [d1]) ++ [(32 : Int32)]) ++ [(119 : Int32)]) ++ [(104 : Int32)]) ++ [(101 : Int32)]) ++ [(114 : Int32)]) ++ [(101 : Int32)]) ++ [(32 : Int32)]) ++ cs) ++ [(41 : Int32)])) :
   Wo p e s below Z EL1 n0 WL FL room_1 (Q_law Z p0 p1 p2 h) T0 (mkF m 204 #[.val (.int p0), .val (.int p1), .val (.int p2), .val (.int tl), .val (.int ta), .val (.int tb), .val (.int kl), .val (.int ca), .val (.int cb), .val (.int b1), .val (.int 1), .val (.int qq), .val v12, .val v13, .val v14, .val (.int d0), .val (.int d1), .val (.ref r), .unset, .unset, .unset] []) := by
 obtain ⟨eT, lT⟩ := strL gt
 obtain ⟨eC, lC⟩ := strL gc
 refine P.iload X0 hx 206 (hb w at_204) rfl rfl ?_
 refine P.ifNo X0 hx 209 (hb w at_206) (by decide) rfl ?_
 refine P.bipush X0 hx 211 16 (hb w at_209) rfl rfl ?_
 refine P.goto X0 hx 215 (hb w at_211) (by decide) (by decide) ?_
 refine P.istore X0 hx 217 #[.val (.int p0), .val (.int p1), .val (.int p2), .val (.int tl), .val (.int ta), .val (.int tb), .val (.int kl), .val (.int ca), .val (.int cb), .val (.int b1), .val (.int 1), .val (.int qq), .val v12, .val v13, .val v14, .val (.int d0), .val (.int d1), .val (.ref r), .val (.int 16), .unset, .unset] (hb w at_215) rfl rfl ?_
 refine P.bipush X0 hx 219 33 (hb w at_217) rfl rfl ?_
 refine P.iloadN X0 hx 220 (hb w at_219) rfl rfl ?_
 refine P.iadd X0 hx 221 (z := ((33 : Int32) + tl)) (hb w at_220) rfl rfl ?_
 refine P.iload X0 hx 223 (hb w at_221) rfl rfl ?_
 refine P.iadd X0 hx 224 (z := (((33 : Int32) + tl) + kl)) (hb w at_223) rfl rfl ?_
 refine P.iload X0 hx 226 (hb w at_224) rfl rfl ?_
 refine P.iadd X0 hx 227 (z := (Int32.ofNat (33 + ts.length + cs.length + 16))) (hb w at_226) (by rw [show ((((33 : Int32) + tl) + kl) + (16 : Int32)) = Int32.ofNat (33 + ts.length + cs.length + 16) from nT16 eT eC]) rfl ?_
 refine X0.newP (aty := .char) hx (w7 cx) (hb w at_227) (oNn (by omega)) (cap := 53) (by rw [oC (by omega)]; omega) (nle rfl) (nle rfl) (nle rfl) ?_
 intro T1 h1 a1 k1 X1 E1 g1 A1
 have ge2 := Nat.le_trans K0.1 g1
 have K3 := K0.ext E1
 have V4 : Arv Z h1 a1 k1 .char (Int32.ofNat (33 + ts.length + cs.length + 16)) [] (.int 0) := A1
 refine P.astore X1 hx 231 #[.val (.int p0), .val (.int p1), .val (.int p2), .val (.int tl), .val (.int ta), .val (.int tb), .val (.int kl), .val (.int ca), .val (.int cb), .val (.int b1), .val (.int 1), .val (.int qq), .val v12, .val v13, .val v14, .val (.int d0), .val (.int d1), .val (.ref r), .val (.int 16), .val (.ref a1), .unset] (hb w at_229) rfl rfl rfl ?_
 refine P.aload X1 hx 233 (hb w at_231) rfl rfl rfl ?_
 refine P.iconst X1 hx 234 0 (hb w at_233) rfl rfl ?_
 refine P.bipush X1 hx 236 101 (hb w at_234) rfl rfl ?_
 refine X1.stCL hx (cs := []) V4 (j := (0 : Int32)) (x := (101 : Int32)) (cap := (33 + ts.length + cs.length + 16)) rfl rfl rfl (by simp <;> omega) (by omega) (mg 0 rfl) (hb w at_236) ?_
 intro T5 h5 X5 J5 G5
 have K6 := K3.trans J5 (allS (Or.inr ge2) all0)
 refine P.aload X5 hx 239 (hb w at_237) rfl rfl rfl ?_
 refine P.iconst X5 hx 240 1 (hb w at_239) rfl rfl ?_
 refine P.bipush X5 hx 242 120 (hb w at_240) rfl rfl ?_
 refine X5.stCL hx G5 (j := (1 : Int32)) (x := (120 : Int32)) (cap := (33 + ts.length + cs.length + 16)) rfl rfl rfl (by simp <;> omega) (by omega) (mg 0 rfl) (hb w at_242) ?_
 intro T7 h7 X7 J7 G7
 have K8 := K6.trans J7 (allS (Or.inr ge2) all0)
 refine P.aload X7 hx 245 (hb w at_243) rfl rfl rfl ?_
 refine P.iconst X7 hx 246 2 (hb w at_245) rfl rfl ?_
 refine P.bipush X7 hx 248 105 (hb w at_246) rfl rfl ?_
 refine X7.stCL hx G7 (j := (2 : Int32)) (x := (105 : Int32)) (cap := (33 + ts.length + cs.length + 16)) rfl rfl rfl (by simp <;> omega) (by omega) (mg 0 rfl) (hb w at_248) ?_
 intro T9 h9 X9 J9 G9
 have K10 := K8.trans J9 (allS (Or.inr ge2) all0)
 refine P.aload X9 hx 251 (hb w at_249) rfl rfl rfl ?_
 refine P.iconst X9 hx 252 3 (hb w at_251) rfl rfl ?_
 refine P.bipush X9 hx 254 115 (hb w at_252) rfl rfl ?_
 refine X9.stCL hx G9 (j := (3 : Int32)) (x := (115 : Int32)) (cap := (33 + ts.length + cs.length + 16)) rfl rfl rfl (by simp <;> omega) (by omega) (mg 0 rfl) (hb w at_254) ?_
 intro T11 h11 X11 J11 G11
 have K12 := K10.trans J11 (allS (Or.inr ge2) all0)
 refine P.aload X11 hx 257 (hb w at_255) rfl rfl rfl ?_
 refine P.iconst X11 hx 258 4 (hb w at_257) rfl rfl ?_
 refine P.bipush X11 hx 260 116 (hb w at_258) rfl rfl ?_
 refine X11.stCL hx G11 (j := (4 : Int32)) (x := (116 : Int32)) (cap := (33 + ts.length + cs.length + 16)) rfl rfl rfl (by simp <;> omega) (by omega) (mg 0 rfl) (hb w at_260) ?_
 intro T13 h13 X13 J13 G13
 have K14 := K12.trans J13 (allS (Or.inr ge2) all0)
 refine P.aload X13 hx 263 (hb w at_261) rfl rfl rfl ?_
 refine P.iconst X13 hx 264 5 (hb w at_263) rfl rfl ?_
 refine P.bipush X13 hx 266 115 (hb w at_264) rfl rfl ?_
 refine X13.stCL hx G13 (j := (5 : Int32)) (x := (115 : Int32)) (cap := (33 + ts.length + cs.length + 16)) rfl rfl rfl (by simp <;> omega) (by omega) (mg 0 rfl) (hb w at_266) ?_
 intro T15 h15 X15 J15 G15
 have K16 := K14.trans J15 (allS (Or.inr ge2) all0)
 refine P.aload X15 hx 269 (hb w at_267) rfl rfl rfl ?_
 refine P.bipush X15 hx 271 6 (hb w at_269) rfl rfl ?_
 refine P.bipush X15 hx 273 32 (hb w at_271) rfl rfl ?_
 refine X15.stCL hx G15 (j := (6 : Int32)) (x := (32 : Int32)) (cap := (33 + ts.length + cs.length + 16)) rfl rfl rfl (by simp <;> omega) (by omega) (mg 0 rfl) (hb w at_273) ?_
 intro T17 h17 X17 J17 G17
 have K18 := K16.trans J17 (allS (Or.inr ge2) all0)
 refine P.aload X17 hx 276 (hb w at_274) rfl rfl rfl ?_
 refine P.bipush X17 hx 278 7 (hb w at_276) rfl rfl ?_
 refine P.bipush X17 hx 280 40 (hb w at_278) rfl rfl ?_
 refine X17.stCL hx G17 (j := (7 : Int32)) (x := (40 : Int32)) (cap := (33 + ts.length + cs.length + 16)) rfl rfl rfl (by simp <;> omega) (by omega) (mg 0 rfl) (hb w at_280) ?_
 intro T19 h19 X19 J19 G19
 have K20 := K18.trans J19 (allS (Or.inr ge2) all0)
 refine P.aload X19 hx 283 (hb w at_281) rfl rfl rfl ?_
 refine P.bipush X19 hx 285 8 (hb w at_283) rfl rfl ?_
 refine P.bipush X19 hx 287 115 (hb w at_285) rfl rfl ?_
 refine X19.stCL hx G19 (j := (8 : Int32)) (x := (115 : Int32)) (cap := (33 + ts.length + cs.length + 16)) rfl rfl rfl (by simp <;> omega) (by omega) (mg 0 rfl) (hb w at_287) ?_
 intro T21 h21 X21 J21 G21
 have K22 := K20.trans J21 (allS (Or.inr ge2) all0)
 refine P.aload X21 hx 290 (hb w at_288) rfl rfl rfl ?_
 refine P.bipush X21 hx 292 9 (hb w at_290) rfl rfl ?_
 refine P.bipush X21 hx 294 101 (hb w at_292) rfl rfl ?_
 refine X21.stCL hx G21 (j := (9 : Int32)) (x := (101 : Int32)) (cap := (33 + ts.length + cs.length + 16)) rfl rfl rfl (by simp <;> omega) (by omega) (mg 0 rfl) (hb w at_294) ?_
 intro T23 h23 X23 J23 G23
 have K24 := K22.trans J23 (allS (Or.inr ge2) all0)
 refine P.aload X23 hx 297 (hb w at_295) rfl rfl rfl ?_
 refine P.bipush X23 hx 299 10 (hb w at_297) rfl rfl ?_
 refine P.bipush X23 hx 301 108 (hb w at_299) rfl rfl ?_
 refine X23.stCL hx G23 (j := (10 : Int32)) (x := (108 : Int32)) (cap := (33 + ts.length + cs.length + 16)) rfl rfl rfl (by simp <;> omega) (by omega) (mg 0 rfl) (hb w at_301) ?_
 intro T25 h25 X25 J25 G25
 have K26 := K24.trans J25 (allS (Or.inr ge2) all0)
 refine P.aload X25 hx 304 (hb w at_302) rfl rfl rfl ?_
 refine P.bipush X25 hx 306 11 (hb w at_304) rfl rfl ?_
 refine P.bipush X25 hx 308 101 (hb w at_306) rfl rfl ?_
 refine X25.stCL hx G25 (j := (11 : Int32)) (x := (101 : Int32)) (cap := (33 + ts.length + cs.length + 16)) rfl rfl rfl (by simp <;> omega) (by omega) (mg 0 rfl) (hb w at_308) ?_
 intro T27 h27 X27 J27 G27
 have K28 := K26.trans J27 (allS (Or.inr ge2) all0)
 refine P.aload X27 hx 311 (hb w at_309) rfl rfl rfl ?_
 refine P.bipush X27 hx 313 12 (hb w at_311) rfl rfl ?_
 refine P.bipush X27 hx 315 99 (hb w at_313) rfl rfl ?_
 refine X27.stCL hx G27 (j := (12 : Int32)) (x := (99 : Int32)) (cap := (33 + ts.length + cs.length + 16)) rfl rfl rfl (by simp <;> omega) (by omega) (mg 0 rfl) (hb w at_315) ?_
 intro T29 h29 X29 J29 G29
 have K30 := K28.trans J29 (allS (Or.inr ge2) all0)
 refine P.aload X29 hx 318 (hb w at_316) rfl rfl rfl ?_
 refine P.bipush X29 hx 320 13 (hb w at_318) rfl rfl ?_
 refine P.bipush X29 hx 322 116 (hb w at_320) rfl rfl ?_
 refine X29.stCL hx G29 (j := (13 : Int32)) (x := (116 : Int32)) (cap := (33 + ts.length + cs.length + 16)) rfl rfl rfl (by simp <;> omega) (by omega) (mg 0 rfl) (hb w at_322) ?_
 intro T31 h31 X31 J31 G31
 have K32 := K30.trans J31 (allS (Or.inr ge2) all0)
 refine P.aload X31 hx 325 (hb w at_323) rfl rfl rfl ?_
 refine P.bipush X31 hx 327 14 (hb w at_325) rfl rfl ?_
 refine P.bipush X31 hx 329 32 (hb w at_327) rfl rfl ?_
 refine X31.stCL hx G31 (j := (14 : Int32)) (x := (32 : Int32)) (cap := (33 + ts.length + cs.length + 16)) rfl rfl rfl (by simp <;> omega) (by omega) (mg 0 rfl) (hb w at_329) ?_
 intro T33 h33 X33 J33 G33
 have K34 := K32.trans J33 (allS (Or.inr ge2) all0)
 refine P.aload X33 hx 332 (hb w at_330) rfl rfl rfl ?_
 refine P.bipush X33 hx 334 15 (hb w at_332) rfl rfl ?_
 refine P.bipush X33 hx 336 49 (hb w at_334) rfl rfl ?_
 refine X33.stCL hx G33 (j := (15 : Int32)) (x := (49 : Int32)) (cap := (33 + ts.length + cs.length + 16)) rfl rfl rfl (by simp <;> omega) (by omega) (mg 0 rfl) (hb w at_336) ?_
 intro T35 h35 X35 J35 G35
 have K36 := K34.trans J35 (allS (Or.inr ge2) all0)
 refine P.aload X35 hx 339 (hb w at_337) rfl rfl rfl ?_
 refine P.bipush X35 hx 341 16 (hb w at_339) rfl rfl ?_
 refine P.bipush X35 hx 343 32 (hb w at_341) rfl rfl ?_
 refine X35.stCL hx G35 (j := (16 : Int32)) (x := (32 : Int32)) (cap := (33 + ts.length + cs.length + 16)) rfl rfl rfl (by simp <;> omega) (by omega) (mg 0 rfl) (hb w at_343) ?_
 intro T37 h37 X37 J37 G37
 have K38 := K36.trans J37 (allS (Or.inr ge2) all0)
 refine P.aload X37 hx 346 (hb w at_344) rfl rfl rfl ?_
 refine P.bipush X37 hx 348 17 (hb w at_346) rfl rfl ?_
 refine P.bipush X37 hx 350 102 (hb w at_348) rfl rfl ?_
 refine X37.stCL hx G37 (j := (17 : Int32)) (x := (102 : Int32)) (cap := (33 + ts.length + cs.length + 16)) rfl rfl rfl (by simp <;> omega) (by omega) (mg 0 rfl) (hb w at_350) ?_
 intro T39 h39 X39 J39 G39
 have K40 := K38.trans J39 (allS (Or.inr ge2) all0)
 refine P.aload X39 hx 353 (hb w at_351) rfl rfl rfl ?_
 refine P.bipush X39 hx 355 18 (hb w at_353) rfl rfl ?_
 refine P.bipush X39 hx 357 114 (hb w at_355) rfl rfl ?_
 refine X39.stCL hx G39 (j := (18 : Int32)) (x := (114 : Int32)) (cap := (33 + ts.length + cs.length + 16)) rfl rfl rfl (by simp <;> omega) (by omega) (mg 0 rfl) (hb w at_357) ?_
 intro T41 h41 X41 J41 G41
 have K42 := K40.trans J41 (allS (Or.inr ge2) all0)
 refine P.aload X41 hx 360 (hb w at_358) rfl rfl rfl ?_
 refine P.bipush X41 hx 362 19 (hb w at_360) rfl rfl ?_
 refine P.bipush X41 hx 364 111 (hb w at_362) rfl rfl ?_
 refine X41.stCL hx G41 (j := (19 : Int32)) (x := (111 : Int32)) (cap := (33 + ts.length + cs.length + 16)) rfl rfl rfl (by simp <;> omega) (by omega) (mg 0 rfl) (hb w at_364) ?_
 intro T43 h43 X43 J43 G43
 have K44 := K42.trans J43 (allS (Or.inr ge2) all0)
 refine P.aload X43 hx 367 (hb w at_365) rfl rfl rfl ?_
 refine P.bipush X43 hx 369 20 (hb w at_367) rfl rfl ?_
 refine P.bipush X43 hx 371 109 (hb w at_369) rfl rfl ?_
 refine X43.stCL hx G43 (j := (20 : Int32)) (x := (109 : Int32)) (cap := (33 + ts.length + cs.length + 16)) rfl rfl rfl (by simp <;> omega) (by omega) (mg 0 rfl) (hb w at_371) ?_
 intro T45 h45 X45 J45 G45
 have K46 := K44.trans J45 (allS (Or.inr ge2) all0)
 refine P.aload X45 hx 374 (hb w at_372) rfl rfl rfl ?_
 refine P.bipush X45 hx 376 21 (hb w at_374) rfl rfl ?_
 refine P.bipush X45 hx 378 32 (hb w at_376) rfl rfl ?_
 refine X45.stCL hx G45 (j := (21 : Int32)) (x := (32 : Int32)) (cap := (33 + ts.length + cs.length + 16)) rfl rfl rfl (by simp <;> omega) (by omega) (mg 0 rfl) (hb w at_378) ?_
 intro T47 h47 X47 J47 G47
 have K48 := K46.trans J47 (allS (Or.inr ge2) all0)
 refine P.bipush X47 hx 381 22 (hb w at_379) rfl rfl ?_
 refine P.istore X47 hx 383 #[.val (.int p0), .val (.int p1), .val (.int p2), .val (.int tl), .val (.int ta), .val (.int tb), .val (.int kl), .val (.int ca), .val (.int cb), .val (.int b1), .val (.int 1), .val (.int qq), .val v12, .val v13, .val v14, .val (.int d0), .val (.int d1), .val (.ref r), .val (.int 16), .val (.ref a1), .val (.int 22)] (hb w at_381) rfl rfl ?_
 refine WS.join X47 (Φ := fun _ h' => Keep h47 h' [a1] ∧ Arv Z h' a1 k1 .char (Int32.ofNat (33 + ts.length + cs.length + 16)) (((((((((((((((((((((((([] ++ [(101 : Int32)]) ++ [(120 : Int32)]) ++ [(105 : Int32)]) ++ [(115 : Int32)]) ++ [(116 : Int32)]) ++ [(115 : Int32)]) ++ [(32 : Int32)]) ++ [(40 : Int32)]) ++ [(115 : Int32)]) ++ [(101 : Int32)]) ++ [(108 : Int32)]) ++ [(101 : Int32)]) ++ [(99 : Int32)]) ++ [(116 : Int32)]) ++ [(32 : Int32)]) ++ [(49 : Int32)]) ++ [(32 : Int32)]) ++ [(102 : Int32)]) ++ [(114 : Int32)]) ++ [(111 : Int32)]) ++ [(109 : Int32)]) ++ [(32 : Int32)]) ++ ts).map Value.int) (.int 0)) (f2 := (mkF m 408 #[.val (.int p0), .val (.int p1), .val (.int p2), .val (.int tl), .val (.int ta), .val (.int tb), .val (.int kl), .val (.int ca), .val (.int cb), .val (.int b1), .val (.int 1), .val (.int qq), .val v12, .val v13, .val v14, .val (.int d0), .val (.int d1), .val (.ref r), .val (.int 16), .val (.ref a1), .val (.int 22)] [])) ?_ ?_
 · intro J
   rcases gt with ⟨e1, e2⟩ | ⟨e1, e2⟩ | ⟨e1, e2⟩
   · skip
     refine P.iloadN X47 hx 384 (hb w at_383) rfl rfl ?_
     refine P.ifYes X47 hx 394 (hb w at_384) ((if0 _ _).trans (flt (by rw [e1]; decide)).2.2.2) (by decide) (by decide) ?_
     refine P.iloadN X47 hx 395 (hb w at_394) rfl rfl ?_
     refine P.iconst X47 hx 396 1 (hb w at_395) rfl rfl ?_
     refine P.icmpYes X47 hx 408 (hb w at_396) (flt (by rw [e1]; decide)).2.2.2 (by decide) (by decide) ?_
     exact J _ _ X47 ⟨(Keep.refl _ _), (by have q := G47; rw [e2] at q ⊢; rw [List.append_nil]; exact q)⟩
   · skip
     refine P.iloadN X47 hx 384 (hb w at_383) rfl rfl ?_
     refine P.ifNo X47 hx 387 (hb w at_384) ((if0 _ _).trans (tlt (by rw [e1]; decide)).2.2.2) rfl ?_
     refine P.aload X47 hx 389 (hb w at_387) rfl rfl rfl ?_
     refine P.iload X47 hx 391 (hb w at_389) rfl rfl ?_
     refine P.iload X47 hx 393 (hb w at_391) rfl rfl ?_
     refine X47.stCL hx G47 (j := (22 : Int32)) (x := ta) (cap := (33 + ts.length + cs.length + 16)) rfl rfl (by rw [narR hr_ta]) (by simp <;> omega) (by omega) (mg 0 rfl) (hb w at_393) ?_
     intro T49 h49 X49 J49 G49
     have K50 := K48.trans J49 (allS (Or.inr ge2) all0)
     refine P.iloadN X49 hx 395 (hb w at_394) rfl rfl ?_
     refine P.iconst X49 hx 396 1 (hb w at_395) rfl rfl ?_
     refine P.icmpYes X49 hx 408 (hb w at_396) (flt (by rw [e1]; decide)).2.2.2 (by decide) (by decide) ?_
     exact J _ _ X49 ⟨J49, (by have q := G49; rw [e2] at q ⊢; exact q)⟩
   · skip
     refine P.iloadN X47 hx 384 (hb w at_383) rfl rfl ?_
     refine P.ifNo X47 hx 387 (hb w at_384) ((if0 _ _).trans (tlt (by rw [e1]; decide)).2.2.2) rfl ?_
     refine P.aload X47 hx 389 (hb w at_387) rfl rfl rfl ?_
     refine P.iload X47 hx 391 (hb w at_389) rfl rfl ?_
     refine P.iload X47 hx 393 (hb w at_391) rfl rfl ?_
     refine X47.stCL hx G47 (j := (22 : Int32)) (x := ta) (cap := (33 + ts.length + cs.length + 16)) rfl rfl (by rw [narR hr_ta]) (by simp <;> omega) (by omega) (mg 0 rfl) (hb w at_393) ?_
     intro T51 h51 X51 J51 G51
     have K52 := K48.trans J51 (allS (Or.inr ge2) all0)
     refine P.iloadN X51 hx 395 (hb w at_394) rfl rfl ?_
     refine P.iconst X51 hx 396 1 (hb w at_395) rfl rfl ?_
     refine P.icmpNo X51 hx 399 (hb w at_396) (tlt (by rw [e1]; decide)).2.2.2 rfl ?_
     refine P.aload X51 hx 401 (hb w at_399) rfl rfl rfl ?_
     refine P.iload X51 hx 403 (hb w at_401) rfl rfl ?_
     refine P.iconst X51 hx 404 1 (hb w at_403) rfl rfl ?_
     refine P.iadd X51 hx 405 (z := (23 : Int32)) (hb w at_404) rfl rfl ?_
     refine P.iload X51 hx 407 (hb w at_405) rfl rfl ?_
     refine X51.stCL hx G51 (j := (23 : Int32)) (x := tb) (cap := (33 + ts.length + cs.length + 16)) rfl rfl (by rw [narR hr_tb]) (by simp <;> omega) (by omega) (mg 0 rfl) (hb w at_407) ?_
     intro T53 h53 X53 J53 G53
     have K54 := K52.trans J53 (allS (Or.inr ge2) all0)
     exact J _ _ X53 ⟨(J51.trans J53 (allS (Or.inl (mg 0 rfl)) all0)), (by have q := G53; rw [e2] at q ⊢; rw [List.append_assoc] at q; exact q)⟩
 intro T55 h55 X55 ⟨J55, A55⟩
 have K56 := K48.trans J55 (allS (Or.inr ge2) all0)
 show Wo _ _ _ _ _ _ _ _ _ _ _ T55 (mkF m 408 #[.val (.int p0), .val (.int p1), .val (.int p2), .val (.int tl), .val (.int ta), .val (.int tb), .val (.int kl), .val (.int ca), .val (.int cb), .val (.int b1), .val (.int 1), .val (.int qq), .val v12, .val v13, .val v14, .val (.int d0), .val (.int d1), .val (.ref r), .val (.int 16), .val (.ref a1), .val (.int 22)] [])
 refine P.iload X55 hx 410 (hb w at_408) rfl rfl ?_
 refine P.iloadN X55 hx 411 (hb w at_410) rfl rfl ?_
 refine P.iadd X55 hx 412 (z := (Int32.ofNat (22 + ts.length))) (hb w at_411) (nP eT) rfl ?_
 refine P.istore X55 hx 414 #[.val (.int p0), .val (.int p1), .val (.int p2), .val (.int tl), .val (.int ta), .val (.int tb), .val (.int kl), .val (.int ca), .val (.int cb), .val (.int b1), .val (.int 1), .val (.int qq), .val v12, .val v13, .val v14, .val (.int d0), .val (.int d1), .val (.ref r), .val (.int 16), .val (.ref a1), .val (.int (Int32.ofNat (22 + ts.length)))] (hb w at_412) rfl rfl ?_
 refine P.aload X55 hx 416 (hb w at_414) rfl rfl rfl ?_
 refine P.iload X55 hx 418 (hb w at_416) rfl rfl ?_
 refine P.bipush X55 hx 420 32 (hb w at_418) rfl rfl ?_
 refine X55.stCL hx A55 (j := (Int32.ofNat (22 + ts.length))) (x := (32 : Int32)) (cap := (33 + ts.length + cs.length + 16)) rfl (congrArg Int32.ofNat (by simp <;> omega)) rfl (by simp <;> omega) (by omega) (mg 0 rfl) (hb w at_420) ?_
 intro T57 h57 X57 J57 G57
 have K58 := K56.trans J57 (allS (Or.inr ge2) all0)
 refine P.aload X57 hx 423 (hb w at_421) rfl rfl rfl ?_
 refine P.iload X57 hx 425 (hb w at_423) rfl rfl ?_
 refine P.iconst X57 hx 426 1 (hb w at_425) rfl rfl ?_
 refine P.iadd X57 hx 427 (z := (Int32.ofNat ((22 + ts.length) + 1))) (hb w at_426) (oAd _ 1) rfl ?_
 refine P.bipush X57 hx 429 116 (hb w at_427) rfl rfl ?_
 refine X57.stCL hx G57 (j := (Int32.ofNat ((22 + ts.length) + 1))) (x := (116 : Int32)) (cap := (33 + ts.length + cs.length + 16)) rfl (congrArg Int32.ofNat (by simp <;> omega)) rfl (by simp <;> omega) (by omega) (mg 0 rfl) (hb w at_429) ?_
 intro T59 h59 X59 J59 G59
 have K60 := K58.trans J59 (allS (Or.inr ge2) all0)
 refine P.aload X59 hx 432 (hb w at_430) rfl rfl rfl ?_
 refine P.iload X59 hx 434 (hb w at_432) rfl rfl ?_
 refine P.iconst X59 hx 435 2 (hb w at_434) rfl rfl ?_
 refine P.iadd X59 hx 436 (z := (Int32.ofNat ((22 + ts.length) + 2))) (hb w at_435) (oAd _ 2) rfl ?_
 refine P.iload X59 hx 438 (hb w at_436) rfl rfl ?_
 refine X59.stCL hx G59 (j := (Int32.ofNat ((22 + ts.length) + 2))) (x := d0) (cap := (33 + ts.length + cs.length + 16)) rfl (congrArg Int32.ofNat (by simp <;> omega)) (by rw [narR hr_d0]) (by simp <;> omega) (by omega) (mg 0 rfl) (hb w at_438) ?_
 intro T61 h61 X61 J61 G61
 have K62 := K60.trans J61 (allS (Or.inr ge2) all0)
 refine P.iload X61 hx 441 (hb w at_439) rfl rfl ?_
 refine P.iconst X61 hx 442 3 (hb w at_441) rfl rfl ?_
 refine P.iadd X61 hx 443 (z := (Int32.ofNat ((22 + ts.length) + 3))) (hb w at_442) (oAd _ 3) rfl ?_
 refine P.istore X61 hx 445 #[.val (.int p0), .val (.int p1), .val (.int p2), .val (.int tl), .val (.int ta), .val (.int tb), .val (.int kl), .val (.int ca), .val (.int cb), .val (.int b1), .val (.int 1), .val (.int qq), .val v12, .val v13, .val v14, .val (.int d0), .val (.int d1), .val (.ref r), .val (.int 16), .val (.ref a1), .val (.int (Int32.ofNat ((22 + ts.length) + 3)))] (hb w at_443) rfl rfl ?_
 refine P.iload X61 hx 447 (hb w at_445) rfl rfl ?_
 refine P.ifNo X61 hx 450 (hb w at_447) (by decide) rfl ?_
 refine P.aload X61 hx 452 (hb w at_450) rfl rfl rfl ?_
 refine P.iload X61 hx 454 (hb w at_452) rfl rfl ?_
 refine P.bipush X61 hx 456 32 (hb w at_454) rfl rfl ?_
 refine X61.stCL hx G61 (j := (Int32.ofNat ((22 + ts.length) + 3))) (x := (32 : Int32)) (cap := (33 + ts.length + cs.length + 16)) rfl (congrArg Int32.ofNat (by simp <;> omega)) rfl (by simp <;> omega) (by omega) (mg 0 rfl) (hb w at_456) ?_
 intro T63 h63 X63 J63 G63
 have K64 := K62.trans J63 (allS (Or.inr ge2) all0)
 refine P.aload X63 hx 459 (hb w at_457) rfl rfl rfl ?_
 refine P.iload X63 hx 461 (hb w at_459) rfl rfl ?_
 refine P.iconst X63 hx 462 1 (hb w at_461) rfl rfl ?_
 refine P.iadd X63 hx 463 (z := (Int32.ofNat (((22 + ts.length) + 3) + 1))) (hb w at_462) (oAd _ 1) rfl ?_
 refine P.bipush X63 hx 465 99 (hb w at_463) rfl rfl ?_
 refine X63.stCL hx G63 (j := (Int32.ofNat (((22 + ts.length) + 3) + 1))) (x := (99 : Int32)) (cap := (33 + ts.length + cs.length + 16)) rfl (congrArg Int32.ofNat (by simp <;> omega)) rfl (by simp <;> omega) (by omega) (mg 0 rfl) (hb w at_465) ?_
 intro T65 h65 X65 J65 G65
 have K66 := K64.trans J65 (allS (Or.inr ge2) all0)
 refine P.aload X65 hx 468 (hb w at_466) rfl rfl rfl ?_
 refine P.iload X65 hx 470 (hb w at_468) rfl rfl ?_
 refine P.iconst X65 hx 471 2 (hb w at_470) rfl rfl ?_
 refine P.iadd X65 hx 472 (z := (Int32.ofNat (((22 + ts.length) + 3) + 2))) (hb w at_471) (oAd _ 2) rfl ?_
 refine P.bipush X65 hx 474 114 (hb w at_472) rfl rfl ?_
 refine X65.stCL hx G65 (j := (Int32.ofNat (((22 + ts.length) + 3) + 2))) (x := (114 : Int32)) (cap := (33 + ts.length + cs.length + 16)) rfl (congrArg Int32.ofNat (by simp <;> omega)) rfl (by simp <;> omega) (by omega) (mg 0 rfl) (hb w at_474) ?_
 intro T67 h67 X67 J67 G67
 have K68 := K66.trans J67 (allS (Or.inr ge2) all0)
 refine P.aload X67 hx 477 (hb w at_475) rfl rfl rfl ?_
 refine P.iload X67 hx 479 (hb w at_477) rfl rfl ?_
 refine P.iconst X67 hx 480 3 (hb w at_479) rfl rfl ?_
 refine P.iadd X67 hx 481 (z := (Int32.ofNat (((22 + ts.length) + 3) + 3))) (hb w at_480) (oAd _ 3) rfl ?_
 refine P.bipush X67 hx 483 111 (hb w at_481) rfl rfl ?_
 refine X67.stCL hx G67 (j := (Int32.ofNat (((22 + ts.length) + 3) + 3))) (x := (111 : Int32)) (cap := (33 + ts.length + cs.length + 16)) rfl (congrArg Int32.ofNat (by simp <;> omega)) rfl (by simp <;> omega) (by omega) (mg 0 rfl) (hb w at_483) ?_
 intro T69 h69 X69 J69 G69
 have K70 := K68.trans J69 (allS (Or.inr ge2) all0)
 refine P.aload X69 hx 486 (hb w at_484) rfl rfl rfl ?_
 refine P.iload X69 hx 488 (hb w at_486) rfl rfl ?_
 refine P.iconst X69 hx 489 4 (hb w at_488) rfl rfl ?_
 refine P.iadd X69 hx 490 (z := (Int32.ofNat (((22 + ts.length) + 3) + 4))) (hb w at_489) (oAd _ 4) rfl ?_
 refine P.bipush X69 hx 492 115 (hb w at_490) rfl rfl ?_
 refine X69.stCL hx G69 (j := (Int32.ofNat (((22 + ts.length) + 3) + 4))) (x := (115 : Int32)) (cap := (33 + ts.length + cs.length + 16)) rfl (congrArg Int32.ofNat (by simp <;> omega)) rfl (by simp <;> omega) (by omega) (mg 0 rfl) (hb w at_492) ?_
 intro T71 h71 X71 J71 G71
 have K72 := K70.trans J71 (allS (Or.inr ge2) all0)
 refine P.aload X71 hx 495 (hb w at_493) rfl rfl rfl ?_
 refine P.iload X71 hx 497 (hb w at_495) rfl rfl ?_
 refine P.iconst X71 hx 498 5 (hb w at_497) rfl rfl ?_
 refine P.iadd X71 hx 499 (z := (Int32.ofNat (((22 + ts.length) + 3) + 5))) (hb w at_498) (oAd _ 5) rfl ?_
 refine P.bipush X71 hx 501 115 (hb w at_499) rfl rfl ?_
 refine X71.stCL hx G71 (j := (Int32.ofNat (((22 + ts.length) + 3) + 5))) (x := (115 : Int32)) (cap := (33 + ts.length + cs.length + 16)) rfl (congrArg Int32.ofNat (by simp <;> omega)) rfl (by simp <;> omega) (by omega) (mg 0 rfl) (hb w at_501) ?_
 intro T73 h73 X73 J73 G73
 have K74 := K72.trans J73 (allS (Or.inr ge2) all0)
 refine P.aload X73 hx 504 (hb w at_502) rfl rfl rfl ?_
 refine P.iload X73 hx 506 (hb w at_504) rfl rfl ?_
 refine P.bipush X73 hx 508 6 (hb w at_506) rfl rfl ?_
 refine P.iadd X73 hx 509 (z := (Int32.ofNat (((22 + ts.length) + 3) + 6))) (hb w at_508) (oAd _ 6) rfl ?_
 refine P.bipush X73 hx 511 32 (hb w at_509) rfl rfl ?_
 refine X73.stCL hx G73 (j := (Int32.ofNat (((22 + ts.length) + 3) + 6))) (x := (32 : Int32)) (cap := (33 + ts.length + cs.length + 16)) rfl (congrArg Int32.ofNat (by simp <;> omega)) rfl (by simp <;> omega) (by omega) (mg 0 rfl) (hb w at_511) ?_
 intro T75 h75 X75 J75 G75
 have K76 := K74.trans J75 (allS (Or.inr ge2) all0)
 refine P.aload X75 hx 514 (hb w at_512) rfl rfl rfl ?_
 refine P.iload X75 hx 516 (hb w at_514) rfl rfl ?_
 refine P.bipush X75 hx 518 7 (hb w at_516) rfl rfl ?_
 refine P.iadd X75 hx 519 (z := (Int32.ofNat (((22 + ts.length) + 3) + 7))) (hb w at_518) (oAd _ 7) rfl ?_
 refine P.bipush X75 hx 521 106 (hb w at_519) rfl rfl ?_
 refine X75.stCL hx G75 (j := (Int32.ofNat (((22 + ts.length) + 3) + 7))) (x := (106 : Int32)) (cap := (33 + ts.length + cs.length + 16)) rfl (congrArg Int32.ofNat (by simp <;> omega)) rfl (by simp <;> omega) (by omega) (mg 0 rfl) (hb w at_521) ?_
 intro T77 h77 X77 J77 G77
 have K78 := K76.trans J77 (allS (Or.inr ge2) all0)
 refine P.aload X77 hx 524 (hb w at_522) rfl rfl rfl ?_
 refine P.iload X77 hx 526 (hb w at_524) rfl rfl ?_
 refine P.bipush X77 hx 528 8 (hb w at_526) rfl rfl ?_
 refine P.iadd X77 hx 529 (z := (Int32.ofNat (((22 + ts.length) + 3) + 8))) (hb w at_528) (oAd _ 8) rfl ?_
 refine P.bipush X77 hx 531 111 (hb w at_529) rfl rfl ?_
 refine X77.stCL hx G77 (j := (Int32.ofNat (((22 + ts.length) + 3) + 8))) (x := (111 : Int32)) (cap := (33 + ts.length + cs.length + 16)) rfl (congrArg Int32.ofNat (by simp <;> omega)) rfl (by simp <;> omega) (by omega) (mg 0 rfl) (hb w at_531) ?_
 intro T79 h79 X79 J79 G79
 have K80 := K78.trans J79 (allS (Or.inr ge2) all0)
 refine P.aload X79 hx 534 (hb w at_532) rfl rfl rfl ?_
 refine P.iload X79 hx 536 (hb w at_534) rfl rfl ?_
 refine P.bipush X79 hx 538 9 (hb w at_536) rfl rfl ?_
 refine P.iadd X79 hx 539 (z := (Int32.ofNat (((22 + ts.length) + 3) + 9))) (hb w at_538) (oAd _ 9) rfl ?_
 refine P.bipush X79 hx 541 105 (hb w at_539) rfl rfl ?_
 refine X79.stCL hx G79 (j := (Int32.ofNat (((22 + ts.length) + 3) + 9))) (x := (105 : Int32)) (cap := (33 + ts.length + cs.length + 16)) rfl (congrArg Int32.ofNat (by simp <;> omega)) rfl (by simp <;> omega) (by omega) (mg 0 rfl) (hb w at_541) ?_
 intro T81 h81 X81 J81 G81
 have K82 := K80.trans J81 (allS (Or.inr ge2) all0)
 refine P.aload X81 hx 544 (hb w at_542) rfl rfl rfl ?_
 refine P.iload X81 hx 546 (hb w at_544) rfl rfl ?_
 refine P.bipush X81 hx 548 10 (hb w at_546) rfl rfl ?_
 refine P.iadd X81 hx 549 (z := (Int32.ofNat (((22 + ts.length) + 3) + 10))) (hb w at_548) (oAd _ 10) rfl ?_
 refine P.bipush X81 hx 551 110 (hb w at_549) rfl rfl ?_
 refine X81.stCL hx G81 (j := (Int32.ofNat (((22 + ts.length) + 3) + 10))) (x := (110 : Int32)) (cap := (33 + ts.length + cs.length + 16)) rfl (congrArg Int32.ofNat (by simp <;> omega)) rfl (by simp <;> omega) (by omega) (mg 0 rfl) (hb w at_551) ?_
 intro T83 h83 X83 J83 G83
 have K84 := K82.trans J83 (allS (Or.inr ge2) all0)
 refine P.aload X83 hx 554 (hb w at_552) rfl rfl rfl ?_
 refine P.iload X83 hx 556 (hb w at_554) rfl rfl ?_
 refine P.bipush X83 hx 558 11 (hb w at_556) rfl rfl ?_
 refine P.iadd X83 hx 559 (z := (Int32.ofNat (((22 + ts.length) + 3) + 11))) (hb w at_558) (oAd _ 11) rfl ?_
 refine P.bipush X83 hx 561 32 (hb w at_559) rfl rfl ?_
 refine X83.stCL hx G83 (j := (Int32.ofNat (((22 + ts.length) + 3) + 11))) (x := (32 : Int32)) (cap := (33 + ts.length + cs.length + 16)) rfl (congrArg Int32.ofNat (by simp <;> omega)) rfl (by simp <;> omega) (by omega) (mg 0 rfl) (hb w at_561) ?_
 intro T85 h85 X85 J85 G85
 have K86 := K84.trans J85 (allS (Or.inr ge2) all0)
 refine P.aload X85 hx 564 (hb w at_562) rfl rfl rfl ?_
 refine P.iload X85 hx 566 (hb w at_564) rfl rfl ?_
 refine P.bipush X85 hx 568 12 (hb w at_566) rfl rfl ?_
 refine P.iadd X85 hx 569 (z := (Int32.ofNat (((22 + ts.length) + 3) + 12))) (hb w at_568) (oAd _ 12) rfl ?_
 refine P.iload X85 hx 571 (hb w at_569) rfl rfl ?_
 refine X85.stCL hx G85 (j := (Int32.ofNat (((22 + ts.length) + 3) + 12))) (x := qq) (cap := (33 + ts.length + cs.length + 16)) rfl (congrArg Int32.ofNat (by simp <;> omega)) (by rw [narR hr_qq]) (by simp <;> omega) (by omega) (mg 0 rfl) (hb w at_571) ?_
 intro T87 h87 X87 J87 G87
 have K88 := K86.trans J87 (allS (Or.inr ge2) all0)
 refine P.aload X87 hx 574 (hb w at_572) rfl rfl rfl ?_
 refine P.iload X87 hx 576 (hb w at_574) rfl rfl ?_
 refine P.bipush X87 hx 578 13 (hb w at_576) rfl rfl ?_
 refine P.iadd X87 hx 579 (z := (Int32.ofNat (((22 + ts.length) + 3) + 13))) (hb w at_578) (oAd _ 13) rfl ?_
 refine P.bipush X87 hx 581 32 (hb w at_579) rfl rfl ?_
 refine X87.stCL hx G87 (j := (Int32.ofNat (((22 + ts.length) + 3) + 13))) (x := (32 : Int32)) (cap := (33 + ts.length + cs.length + 16)) rfl (congrArg Int32.ofNat (by simp <;> omega)) rfl (by simp <;> omega) (by omega) (mg 0 rfl) (hb w at_581) ?_
 intro T89 h89 X89 J89 G89
 have K90 := K88.trans J89 (allS (Or.inr ge2) all0)
 refine P.aload X89 hx 584 (hb w at_582) rfl rfl rfl ?_
 refine P.iload X89 hx 586 (hb w at_584) rfl rfl ?_
 refine P.bipush X89 hx 588 14 (hb w at_586) rfl rfl ?_
 refine P.iadd X89 hx 589 (z := (Int32.ofNat (((22 + ts.length) + 3) + 14))) (hb w at_588) (oAd _ 14) rfl ?_
 refine P.bipush X89 hx 591 116 (hb w at_589) rfl rfl ?_
 refine X89.stCL hx G89 (j := (Int32.ofNat (((22 + ts.length) + 3) + 14))) (x := (116 : Int32)) (cap := (33 + ts.length + cs.length + 16)) rfl (congrArg Int32.ofNat (by simp <;> omega)) rfl (by simp <;> omega) (by omega) (mg 0 rfl) (hb w at_591) ?_
 intro T91 h91 X91 J91 G91
 have K92 := K90.trans J91 (allS (Or.inr ge2) all0)
 refine P.aload X91 hx 594 (hb w at_592) rfl rfl rfl ?_
 refine P.iload X91 hx 596 (hb w at_594) rfl rfl ?_
 refine P.bipush X91 hx 598 15 (hb w at_596) rfl rfl ?_
 refine P.iadd X91 hx 599 (z := (Int32.ofNat (((22 + ts.length) + 3) + 15))) (hb w at_598) (oAd _ 15) rfl ?_
 refine P.iload X91 hx 601 (hb w at_599) rfl rfl ?_
 refine X91.stCL hx G91 (j := (Int32.ofNat (((22 + ts.length) + 3) + 15))) (x := d1) (cap := (33 + ts.length + cs.length + 16)) rfl (congrArg Int32.ofNat (by simp <;> omega)) (by rw [narR hr_d1]) (by simp <;> omega) (by omega) (mg 0 rfl) (hb w at_601) ?_
 intro T93 h93 X93 J93 G93
 have K94 := K92.trans J93 (allS (Or.inr ge2) all0)
 refine P.iload X93 hx 604 (hb w at_602) rfl rfl ?_
 refine P.bipush X93 hx 606 16 (hb w at_604) rfl rfl ?_
 refine P.iadd X93 hx 607 (z := (Int32.ofNat (((22 + ts.length) + 3) + 16))) (hb w at_606) (oAd _ 16) rfl ?_
 refine P.istore X93 hx 609 #[.val (.int p0), .val (.int p1), .val (.int p2), .val (.int tl), .val (.int ta), .val (.int tb), .val (.int kl), .val (.int ca), .val (.int cb), .val (.int b1), .val (.int 1), .val (.int qq), .val v12, .val v13, .val v14, .val (.int d0), .val (.int d1), .val (.ref r), .val (.int 16), .val (.ref a1), .val (.int (Int32.ofNat (((22 + ts.length) + 3) + 16)))] (hb w at_607) rfl rfl ?_
 refine P.aload X93 hx 611 (hb w at_609) rfl rfl rfl ?_
 refine P.iload X93 hx 613 (hb w at_611) rfl rfl ?_
 refine P.bipush X93 hx 615 32 (hb w at_613) rfl rfl ?_
 refine X93.stCL hx G93 (j := (Int32.ofNat (((22 + ts.length) + 3) + 16))) (x := (32 : Int32)) (cap := (33 + ts.length + cs.length + 16)) rfl (congrArg Int32.ofNat (by simp <;> omega)) rfl (by simp <;> omega) (by omega) (mg 0 rfl) (hb w at_615) ?_
 intro T95 h95 X95 J95 G95
 have K96 := K94.trans J95 (allS (Or.inr ge2) all0)
 refine P.aload X95 hx 618 (hb w at_616) rfl rfl rfl ?_
 refine P.iload X95 hx 620 (hb w at_618) rfl rfl ?_
 refine P.iconst X95 hx 621 1 (hb w at_620) rfl rfl ?_
 refine P.iadd X95 hx 622 (z := (Int32.ofNat ((((22 + ts.length) + 3) + 16) + 1))) (hb w at_621) (oAd _ 1) rfl ?_
 refine P.bipush X95 hx 624 119 (hb w at_622) rfl rfl ?_
 refine X95.stCL hx G95 (j := (Int32.ofNat ((((22 + ts.length) + 3) + 16) + 1))) (x := (119 : Int32)) (cap := (33 + ts.length + cs.length + 16)) rfl (congrArg Int32.ofNat (by simp <;> omega)) rfl (by simp <;> omega) (by omega) (mg 0 rfl) (hb w at_624) ?_
 intro T97 h97 X97 J97 G97
 have K98 := K96.trans J97 (allS (Or.inr ge2) all0)
 refine P.aload X97 hx 627 (hb w at_625) rfl rfl rfl ?_
 refine P.iload X97 hx 629 (hb w at_627) rfl rfl ?_
 refine P.iconst X97 hx 630 2 (hb w at_629) rfl rfl ?_
 refine P.iadd X97 hx 631 (z := (Int32.ofNat ((((22 + ts.length) + 3) + 16) + 2))) (hb w at_630) (oAd _ 2) rfl ?_
 refine P.bipush X97 hx 633 104 (hb w at_631) rfl rfl ?_
 refine X97.stCL hx G97 (j := (Int32.ofNat ((((22 + ts.length) + 3) + 16) + 2))) (x := (104 : Int32)) (cap := (33 + ts.length + cs.length + 16)) rfl (congrArg Int32.ofNat (by simp <;> omega)) rfl (by simp <;> omega) (by omega) (mg 0 rfl) (hb w at_633) ?_
 intro T99 h99 X99 J99 G99
 have K100 := K98.trans J99 (allS (Or.inr ge2) all0)
 refine P.aload X99 hx 636 (hb w at_634) rfl rfl rfl ?_
 refine P.iload X99 hx 638 (hb w at_636) rfl rfl ?_
 refine P.iconst X99 hx 639 3 (hb w at_638) rfl rfl ?_
 refine P.iadd X99 hx 640 (z := (Int32.ofNat ((((22 + ts.length) + 3) + 16) + 3))) (hb w at_639) (oAd _ 3) rfl ?_
 refine P.bipush X99 hx 642 101 (hb w at_640) rfl rfl ?_
 refine X99.stCL hx G99 (j := (Int32.ofNat ((((22 + ts.length) + 3) + 16) + 3))) (x := (101 : Int32)) (cap := (33 + ts.length + cs.length + 16)) rfl (congrArg Int32.ofNat (by simp <;> omega)) rfl (by simp <;> omega) (by omega) (mg 0 rfl) (hb w at_642) ?_
 intro T101 h101 X101 J101 G101
 have K102 := K100.trans J101 (allS (Or.inr ge2) all0)
 refine P.aload X101 hx 645 (hb w at_643) rfl rfl rfl ?_
 refine P.iload X101 hx 647 (hb w at_645) rfl rfl ?_
 refine P.iconst X101 hx 648 4 (hb w at_647) rfl rfl ?_
 refine P.iadd X101 hx 649 (z := (Int32.ofNat ((((22 + ts.length) + 3) + 16) + 4))) (hb w at_648) (oAd _ 4) rfl ?_
 refine P.bipush X101 hx 651 114 (hb w at_649) rfl rfl ?_
 refine X101.stCL hx G101 (j := (Int32.ofNat ((((22 + ts.length) + 3) + 16) + 4))) (x := (114 : Int32)) (cap := (33 + ts.length + cs.length + 16)) rfl (congrArg Int32.ofNat (by simp <;> omega)) rfl (by simp <;> omega) (by omega) (mg 0 rfl) (hb w at_651) ?_
 intro T103 h103 X103 J103 G103
 have K104 := K102.trans J103 (allS (Or.inr ge2) all0)
 refine P.aload X103 hx 654 (hb w at_652) rfl rfl rfl ?_
 refine P.iload X103 hx 656 (hb w at_654) rfl rfl ?_
 refine P.iconst X103 hx 657 5 (hb w at_656) rfl rfl ?_
 refine P.iadd X103 hx 658 (z := (Int32.ofNat ((((22 + ts.length) + 3) + 16) + 5))) (hb w at_657) (oAd _ 5) rfl ?_
 refine P.bipush X103 hx 660 101 (hb w at_658) rfl rfl ?_
 refine X103.stCL hx G103 (j := (Int32.ofNat ((((22 + ts.length) + 3) + 16) + 5))) (x := (101 : Int32)) (cap := (33 + ts.length + cs.length + 16)) rfl (congrArg Int32.ofNat (by simp <;> omega)) rfl (by simp <;> omega) (by omega) (mg 0 rfl) (hb w at_660) ?_
 intro T105 h105 X105 J105 G105
 have K106 := K104.trans J105 (allS (Or.inr ge2) all0)
 refine P.aload X105 hx 663 (hb w at_661) rfl rfl rfl ?_
 refine P.iload X105 hx 665 (hb w at_663) rfl rfl ?_
 refine P.bipush X105 hx 667 6 (hb w at_665) rfl rfl ?_
 refine P.iadd X105 hx 668 (z := (Int32.ofNat ((((22 + ts.length) + 3) + 16) + 6))) (hb w at_667) (oAd _ 6) rfl ?_
 refine P.bipush X105 hx 670 32 (hb w at_668) rfl rfl ?_
 refine X105.stCL hx G105 (j := (Int32.ofNat ((((22 + ts.length) + 3) + 16) + 6))) (x := (32 : Int32)) (cap := (33 + ts.length + cs.length + 16)) rfl (congrArg Int32.ofNat (by simp <;> omega)) rfl (by simp <;> omega) (by omega) (mg 0 rfl) (hb w at_670) ?_
 intro T107 h107 X107 J107 G107
 have K108 := K106.trans J107 (allS (Or.inr ge2) all0)
 refine P.iload X107 hx 673 (hb w at_671) rfl rfl ?_
 refine P.bipush X107 hx 675 7 (hb w at_673) rfl rfl ?_
 refine P.iadd X107 hx 676 (z := (Int32.ofNat ((((22 + ts.length) + 3) + 16) + 7))) (hb w at_675) (oAd _ 7) rfl ?_
 refine P.istore X107 hx 678 #[.val (.int p0), .val (.int p1), .val (.int p2), .val (.int tl), .val (.int ta), .val (.int tb), .val (.int kl), .val (.int ca), .val (.int cb), .val (.int b1), .val (.int 1), .val (.int qq), .val v12, .val v13, .val v14, .val (.int d0), .val (.int d1), .val (.ref r), .val (.int 16), .val (.ref a1), .val (.int (Int32.ofNat ((((22 + ts.length) + 3) + 16) + 7)))] (hb w at_676) rfl rfl ?_
 refine WS.join X107 (Φ := fun _ h' => Keep h107 h' [a1] ∧ Arv Z h' a1 k1 .char (Int32.ofNat (33 + ts.length + cs.length + 16)) ((((((((((((((((((((((((((((((((((((((((((((((((((([] ++ [(101 : Int32)]) ++ [(120 : Int32)]) ++ [(105 : Int32)]) ++ [(115 : Int32)]) ++ [(116 : Int32)]) ++ [(115 : Int32)]) ++ [(32 : Int32)]) ++ [(40 : Int32)]) ++ [(115 : Int32)]) ++ [(101 : Int32)]) ++ [(108 : Int32)]) ++ [(101 : Int32)]) ++ [(99 : Int32)]) ++ [(116 : Int32)]) ++ [(32 : Int32)]) ++ [(49 : Int32)]) ++ [(32 : Int32)]) ++ [(102 : Int32)]) ++ [(114 : Int32)]) ++ [(111 : Int32)]) ++ [(109 : Int32)]) ++ [(32 : Int32)]) ++ ts) ++ [(32 : Int32)]) ++ [(116 : Int32)]) ++ [d0]) ++ [(32 : Int32)]) ++ [(99 : Int32)]) ++ [(114 : Int32)]) ++ [(111 : Int32)]) ++ [(115 : Int32)]) ++ [(115 : Int32)]) ++ [(32 : Int32)]) ++ [(106 : Int32)]) ++ [(111 : Int32)]) ++ [(105 : Int32)]) ++ [(110 : Int32)]) ++ [(32 : Int32)]) ++ [qq]) ++ [(32 : Int32)]) ++ [(116 : Int32)]) ++ [d1]) ++ [(32 : Int32)]) ++ [(119 : Int32)]) ++ [(104 : Int32)]) ++ [(101 : Int32)]) ++ [(114 : Int32)]) ++ [(101 : Int32)]) ++ [(32 : Int32)]) ++ cs).map Value.int) (.int 0)) (f2 := (mkF m 705 #[.val (.int p0), .val (.int p1), .val (.int p2), .val (.int tl), .val (.int ta), .val (.int tb), .val (.int kl), .val (.int ca), .val (.int cb), .val (.int b1), .val (.int 1), .val (.int qq), .val v12, .val v13, .val v14, .val (.int d0), .val (.int d1), .val (.ref r), .val (.int 16), .val (.ref a1), .val (.int (Int32.ofNat ((((22 + ts.length) + 3) + 16) + 7)))] [])) ?_ ?_
 · intro J
   rcases gc with ⟨e1, e2⟩ | ⟨e1, e2⟩ | ⟨e1, e2⟩
   · skip
     refine P.iload X107 hx 680 (hb w at_678) rfl rfl ?_
     refine P.ifYes X107 hx 690 (hb w at_680) ((if0 _ _).trans (flt (by rw [e1]; decide)).2.2.2) (by decide) (by decide) ?_
     refine P.iload X107 hx 692 (hb w at_690) rfl rfl ?_
     refine P.iconst X107 hx 693 1 (hb w at_692) rfl rfl ?_
     refine P.icmpYes X107 hx 705 (hb w at_693) (flt (by rw [e1]; decide)).2.2.2 (by decide) (by decide) ?_
     exact J _ _ X107 ⟨(Keep.refl _ _), (by have q := G107; rw [e2] at q ⊢; rw [List.append_nil]; exact q)⟩
   · skip
     refine P.iload X107 hx 680 (hb w at_678) rfl rfl ?_
     refine P.ifNo X107 hx 683 (hb w at_680) ((if0 _ _).trans (tlt (by rw [e1]; decide)).2.2.2) rfl ?_
     refine P.aload X107 hx 685 (hb w at_683) rfl rfl rfl ?_
     refine P.iload X107 hx 687 (hb w at_685) rfl rfl ?_
     refine P.iload X107 hx 689 (hb w at_687) rfl rfl ?_
     refine X107.stCL hx G107 (j := (Int32.ofNat ((((22 + ts.length) + 3) + 16) + 7))) (x := ca) (cap := (33 + ts.length + cs.length + 16)) rfl (congrArg Int32.ofNat (by simp <;> omega)) (by rw [narR hr_ca]) (by simp [e2] <;> omega) (by omega) (mg 0 rfl) (hb w at_689) ?_
     intro T109 h109 X109 J109 G109
     have K110 := K108.trans J109 (allS (Or.inr ge2) all0)
     refine P.iload X109 hx 692 (hb w at_690) rfl rfl ?_
     refine P.iconst X109 hx 693 1 (hb w at_692) rfl rfl ?_
     refine P.icmpYes X109 hx 705 (hb w at_693) (flt (by rw [e1]; decide)).2.2.2 (by decide) (by decide) ?_
     exact J _ _ X109 ⟨J109, (by have q := G109; rw [e2] at q ⊢; exact q)⟩
   · skip
     refine P.iload X107 hx 680 (hb w at_678) rfl rfl ?_
     refine P.ifNo X107 hx 683 (hb w at_680) ((if0 _ _).trans (tlt (by rw [e1]; decide)).2.2.2) rfl ?_
     refine P.aload X107 hx 685 (hb w at_683) rfl rfl rfl ?_
     refine P.iload X107 hx 687 (hb w at_685) rfl rfl ?_
     refine P.iload X107 hx 689 (hb w at_687) rfl rfl ?_
     refine X107.stCL hx G107 (j := (Int32.ofNat ((((22 + ts.length) + 3) + 16) + 7))) (x := ca) (cap := (33 + ts.length + cs.length + 16)) rfl (congrArg Int32.ofNat (by simp <;> omega)) (by rw [narR hr_ca]) (by simp [e2] <;> omega) (by omega) (mg 0 rfl) (hb w at_689) ?_
     intro T111 h111 X111 J111 G111
     have K112 := K108.trans J111 (allS (Or.inr ge2) all0)
     refine P.iload X111 hx 692 (hb w at_690) rfl rfl ?_
     refine P.iconst X111 hx 693 1 (hb w at_692) rfl rfl ?_
     refine P.icmpNo X111 hx 696 (hb w at_693) (tlt (by rw [e1]; decide)).2.2.2 rfl ?_
     refine P.aload X111 hx 698 (hb w at_696) rfl rfl rfl ?_
     refine P.iload X111 hx 700 (hb w at_698) rfl rfl ?_
     refine P.iconst X111 hx 701 1 (hb w at_700) rfl rfl ?_
     refine P.iadd X111 hx 702 (z := (Int32.ofNat (((((22 + ts.length) + 3) + 16) + 7) + 1))) (hb w at_701) (oAd _ 1) rfl ?_
     refine P.iload X111 hx 704 (hb w at_702) rfl rfl ?_
     refine X111.stCL hx G111 (j := (Int32.ofNat (((((22 + ts.length) + 3) + 16) + 7) + 1))) (x := cb) (cap := (33 + ts.length + cs.length + 16)) rfl (congrArg Int32.ofNat (by simp <;> omega)) (by rw [narR hr_cb]) (by simp [e2] <;> omega) (by omega) (mg 0 rfl) (hb w at_704) ?_
     intro T113 h113 X113 J113 G113
     have K114 := K112.trans J113 (allS (Or.inr ge2) all0)
     exact J _ _ X113 ⟨(J111.trans J113 (allS (Or.inl (mg 0 rfl)) all0)), (by have q := G113; rw [e2] at q ⊢; rw [List.append_assoc] at q; exact q)⟩
 intro T115 h115 X115 ⟨J115, A115⟩
 have K116 := K108.trans J115 (allS (Or.inr ge2) all0)
 show Wo _ _ _ _ _ _ _ _ _ _ _ T115 (mkF m 705 #[.val (.int p0), .val (.int p1), .val (.int p2), .val (.int tl), .val (.int ta), .val (.int tb), .val (.int kl), .val (.int ca), .val (.int cb), .val (.int b1), .val (.int 1), .val (.int qq), .val v12, .val v13, .val v14, .val (.int d0), .val (.int d1), .val (.ref r), .val (.int 16), .val (.ref a1), .val (.int (Int32.ofNat ((((22 + ts.length) + 3) + 16) + 7)))] [])
 refine P.iload X115 hx 707 (hb w at_705) rfl rfl ?_
 refine P.iload X115 hx 709 (hb w at_707) rfl rfl ?_
 refine P.iadd X115 hx 710 (z := (Int32.ofNat (((((22 + ts.length) + 3) + 16) + 7) + cs.length))) (hb w at_709) (nQ eC) rfl ?_
 refine P.istore X115 hx 712 #[.val (.int p0), .val (.int p1), .val (.int p2), .val (.int tl), .val (.int ta), .val (.int tb), .val (.int kl), .val (.int ca), .val (.int cb), .val (.int b1), .val (.int 1), .val (.int qq), .val v12, .val v13, .val v14, .val (.int d0), .val (.int d1), .val (.ref r), .val (.int 16), .val (.ref a1), .val (.int (Int32.ofNat (((((22 + ts.length) + 3) + 16) + 7) + cs.length)))] (hb w at_710) rfl rfl ?_
 refine P.aload X115 hx 714 (hb w at_712) rfl rfl rfl ?_
 refine P.iload X115 hx 716 (hb w at_714) rfl rfl ?_
 refine P.bipush X115 hx 718 41 (hb w at_716) rfl rfl ?_
 refine X115.stCL hx A115 (j := (Int32.ofNat (((((22 + ts.length) + 3) + 16) + 7) + cs.length))) (x := (41 : Int32)) (cap := (33 + ts.length + cs.length + 16)) rfl (congrArg Int32.ofNat (by simp <;> omega)) rfl (by simp <;> omega) (by omega) (mg 0 rfl) (hb w at_718) ?_
 intro T117 h117 X117 J117 G117
 have K118 := K116.trans J117 (allS (Or.inr ge2) all0)
 have hP : ∀ c ∈ ((((((((((((((((((((((((((((((((((((((((((((((((((([] ++ [(101 : Int32)]) ++ [(120 : Int32)]) ++ [(105 : Int32)]) ++ [(115 : Int32)]) ++ [(116 : Int32)]) ++ [(115 : Int32)]) ++ [(32 : Int32)]) ++ [(40 : Int32)]) ++ [(115 : Int32)]) ++ [(101 : Int32)]) ++ [(108 : Int32)]) ++ [(101 : Int32)]) ++ [(99 : Int32)]) ++ [(116 : Int32)]) ++ [(32 : Int32)]) ++ [(49 : Int32)]) ++ [(32 : Int32)]) ++ [(102 : Int32)]) ++ [(114 : Int32)]) ++ [(111 : Int32)]) ++ [(109 : Int32)]) ++ [(32 : Int32)]) ++ ts) ++ [(32 : Int32)]) ++ [(116 : Int32)]) ++ [d0]) ++ [(32 : Int32)]) ++ [(99 : Int32)]) ++ [(114 : Int32)]) ++ [(111 : Int32)]) ++ [(115 : Int32)]) ++ [(115 : Int32)]) ++ [(32 : Int32)]) ++ [(106 : Int32)]) ++ [(111 : Int32)]) ++ [(105 : Int32)]) ++ [(110 : Int32)]) ++ [(32 : Int32)]) ++ [qq]) ++ [(32 : Int32)]) ++ [(116 : Int32)]) ++ [d1]) ++ [(32 : Int32)]) ++ [(119 : Int32)]) ++ [(104 : Int32)]) ++ [(101 : Int32)]) ++ [(114 : Int32)]) ++ [(101 : Int32)]) ++ [(32 : Int32)]) ++ cs) ++ [(41 : Int32)]), ¬ c < 0 ∧ ¬ (255 : Int32) < c := (appR (appR (appR (appR (appR (appR (appR (appR (appR (appR (appR (appR (appR (appR (appR (appR (appR (appR (appR (appR (appR (appR (appR (appR (appR (appR (appR (appR (appR (appR (appR (appR (appR (appR (appR (appR (appR (appR (appR (appR (appR (appR (appR (appR (appR (appR (appR (appR (appR (appR (appR fc0 (fcS (by decide) fc0)) (fcS (by decide) fc0)) (fcS (by decide) fc0)) (fcS (by decide) fc0)) (fcS (by decide) fc0)) (fcS (by decide) fc0)) (fcS (by decide) fc0)) (fcS (by decide) fc0)) (fcS (by decide) fc0)) (fcS (by decide) fc0)) (fcS (by decide) fc0)) (fcS (by decide) fc0)) (fcS (by decide) fc0)) (fcS (by decide) fc0)) (fcS (by decide) fc0)) (fcS (by decide) fc0)) (fcS (by decide) fc0)) (fcS (by decide) fc0)) (fcS (by decide) fc0)) (fcS (by decide) fc0)) (fcS (by decide) fc0)) (fcS (by decide) fc0)) hts) (fcS (by decide) fc0)) (fcS (by decide) fc0)) (fcS hr_d0 fc0)) (fcS (by decide) fc0)) (fcS (by decide) fc0)) (fcS (by decide) fc0)) (fcS (by decide) fc0)) (fcS (by decide) fc0)) (fcS (by decide) fc0)) (fcS (by decide) fc0)) (fcS (by decide) fc0)) (fcS (by decide) fc0)) (fcS (by decide) fc0)) (fcS (by decide) fc0)) (fcS (by decide) fc0)) (fcS hr_qq fc0)) (fcS (by decide) fc0)) (fcS (by decide) fc0)) (fcS hr_d1 fc0)) (fcS (by decide) fc0)) (fcS (by decide) fc0)) (fcS (by decide) fc0)) (fcS (by decide) fc0)) (fcS (by decide) fc0)) (fcS (by decide) fc0)) (fcS (by decide) fc0)) hcs) (fcS (by decide) fc0))
 have hL : ((((((((((((((((((((((((((((((((((((((((((((((((((([] ++ [(101 : Int32)]) ++ [(120 : Int32)]) ++ [(105 : Int32)]) ++ [(115 : Int32)]) ++ [(116 : Int32)]) ++ [(115 : Int32)]) ++ [(32 : Int32)]) ++ [(40 : Int32)]) ++ [(115 : Int32)]) ++ [(101 : Int32)]) ++ [(108 : Int32)]) ++ [(101 : Int32)]) ++ [(99 : Int32)]) ++ [(116 : Int32)]) ++ [(32 : Int32)]) ++ [(49 : Int32)]) ++ [(32 : Int32)]) ++ [(102 : Int32)]) ++ [(114 : Int32)]) ++ [(111 : Int32)]) ++ [(109 : Int32)]) ++ [(32 : Int32)]) ++ ts) ++ [(32 : Int32)]) ++ [(116 : Int32)]) ++ [d0]) ++ [(32 : Int32)]) ++ [(99 : Int32)]) ++ [(114 : Int32)]) ++ [(111 : Int32)]) ++ [(115 : Int32)]) ++ [(115 : Int32)]) ++ [(32 : Int32)]) ++ [(106 : Int32)]) ++ [(111 : Int32)]) ++ [(105 : Int32)]) ++ [(110 : Int32)]) ++ [(32 : Int32)]) ++ [qq]) ++ [(32 : Int32)]) ++ [(116 : Int32)]) ++ [d1]) ++ [(32 : Int32)]) ++ [(119 : Int32)]) ++ [(104 : Int32)]) ++ [(101 : Int32)]) ++ [(114 : Int32)]) ++ [(101 : Int32)]) ++ [(32 : Int32)]) ++ cs) ++ [(41 : Int32)]).length = (33 + ts.length + cs.length + 16) := by simp <;> omega
 refine P.aload X117 hx 721 (hb w at_719) rfl rfl rfl ?_
 refine X117.newO hx (w4 cx) (w5 cx) (w6 cx) (hb w at_721) (nle rfl) (nle rfl) ?_
 intro T119 h119 a119 X119 E119 g119 A119 D119
 have ge120 := Nat.le_trans K118.1 g119
 have K121 := K118.ext E119
 have D122 : Fld Z h119 a119 "java/lang/String" "value" "[B" .null := D119 (Or.inr (w20 cx)) (ty := (.array .byte)) (by decide)
 have D123 : Fld Z h119 a119 "java/lang/String" "coder" "B" (.int 0) := D119 (Or.inr (w21 cx)) (ty := .byte) (by decide)
 refine P.dup X119 hx 725 (hb w at_724) rfl rfl ?_
 refine P.aload X119 hx 727 (hb w at_725) rfl rfl rfl ?_
 have F124 := G117.ext E119
 refine X119.callC hx rfl (w8 cx) (w9 cx) (w10 cx) (by decide) (Pay.room (n' := 53) (pay_new (W := 2) (hws cx) (w5 cx) (cs := ((((((((((((((((((((((((((((((((((((((((((((((((((([] ++ [(101 : Int32)]) ++ [(120 : Int32)]) ++ [(105 : Int32)]) ++ [(115 : Int32)]) ++ [(116 : Int32)]) ++ [(115 : Int32)]) ++ [(32 : Int32)]) ++ [(40 : Int32)]) ++ [(115 : Int32)]) ++ [(101 : Int32)]) ++ [(108 : Int32)]) ++ [(101 : Int32)]) ++ [(99 : Int32)]) ++ [(116 : Int32)]) ++ [(32 : Int32)]) ++ [(49 : Int32)]) ++ [(32 : Int32)]) ++ [(102 : Int32)]) ++ [(114 : Int32)]) ++ [(111 : Int32)]) ++ [(109 : Int32)]) ++ [(32 : Int32)]) ++ ts) ++ [(32 : Int32)]) ++ [(116 : Int32)]) ++ [d0]) ++ [(32 : Int32)]) ++ [(99 : Int32)]) ++ [(114 : Int32)]) ++ [(111 : Int32)]) ++ [(115 : Int32)]) ++ [(115 : Int32)]) ++ [(32 : Int32)]) ++ [(106 : Int32)]) ++ [(111 : Int32)]) ++ [(105 : Int32)]) ++ [(110 : Int32)]) ++ [(32 : Int32)]) ++ [qq]) ++ [(32 : Int32)]) ++ [(116 : Int32)]) ++ [d1]) ++ [(32 : Int32)]) ++ [(119 : Int32)]) ++ [(104 : Int32)]) ++ [(101 : Int32)]) ++ [(114 : Int32)]) ++ [(101 : Int32)]) ++ [(32 : Int32)]) ++ cs) ++ [(41 : Int32)])) (n := (33 + ts.length + cs.length + 16)) (X119.ge (mg 0 rfl)) X119.n0le (mg 0 rfl) A119 D122 D123 F124 (X119.sta (S_C cx)) (N_C cx) hL rfl (by omega) (by omega) hP (nle rfl) (nle rfl)) (by omega)) (by rw [hml]; rfl) (argsL := [.ref a1]) (rest := [.ref a119, .ref r]) (lenOf pd32 rfl) rfl rfl (nle rfl) (hb w at_727) (nle rfl) (nle rfl) ?_
 rintro T125 h125 _ _ _ X125 ⟨a126, rfl, rfl, rfl, J125, G127⟩
 have K128 := K121.trans J125 (allS (Or.inr ge120) all0)
 have KK129 := (ktr (ktr (ktr (ktr (ktr (ktr (ktr (ktr (ktr (ktr (ktr (ktr (ktr (ktr (ktr (ktr (ktr (ktr (ktr (ktr (ktr (ktr (ktr (ktr (ktr (ktr (ktr (ktr (ktr (ktr (ktr (ktr (ktr (ktr (ktr (ktr (ktr (ktr (ktr (ktr (ktr (ktr (ktr (ktr (ktr (ktr (ktr (ktr (ktr (ktr J5 J7) J9) J11) J13) J15) J17) J19) J21) J23) J25) J27) J29) J31) J33) J35) J37) J39) J41) J43) J45) J47) J55) J57) J59) J61) J63) J65) J67) J69) J71) J73) J75) J77) J79) J81) J83) J85) J87) J89) J91) J93) J95) J97) J99) J101) J103) J105) J107) J115) J117)
 have F130 := (((P0.1.ext E1).keep KK129).ext E119).keep J125
 have F131 := (((P0.ext E1).keep KK129 (ninS (X125.neF (mg 1 rfl) (mg 1 rfl)) nin0) (ninS (X125.neF (mg 2 rfl) (mg 1 rfl)) nin0)).ext E119).keep J125 (ninS (X125.neF (mg 1 rfl) (mg 0 rfl)) nin0) (ninS (X125.neF (mg 2 rfl) (mg 0 rfl)) nin0)
 refine X125.callV hx (w302 cx) (w303 cx) (w305 cx) (w304 cx) (fun _ hZ => nf hZ (w305 cx)) (by decide) F130 (pay_eqT (W := 0) (heq cx) (w5 cx) F131 G127 ez (X125.sta (S_C cx)) (N_C cx) (nle rfl) (nle rfl)) (by rw [hml]; rfl) (argsL := [.ref a119]) (rest := []) (lenOf pd33 rfl) rfl rfl (nle rfl) (hb w at_730) (nle rfl) (nle rfl) ?_
 rintro T132 h132 _ _ _ X132 ⟨rfl, rfl, rfl, J132⟩
 rw [J132] at X132
 have X133 := WS.drop (A := []) (B := (a1 :: WL)) X132
 have X134 := WS.drop (A := []) (B := WL) X133
 have X135 := WS.fl (FL2 := FL) X134 (fun y hy => (List.mem_append_right [a1, a119, a126, r, u] hy))
 exact WS.retN X135 (WL' := []) (FL' := []) hx (t := .boolean) hret (by simp) hlk (hb w at_733) (nle rfl) (nle rfl) ⟨rfl, rfl, rfl, K128⟩
theorem ct_law_00 (cx : Cx a0 Z gC gF v_AL v_DO k_DO) (p0 : Int32) (p1 : Int32) (p2 : Int32) (h : Heap) (WL FL : List Addr)  (es : (p2 &&& (1 : Int32)) = (0 : Int32)) (ec : (p2 &&& (2 : Int32)) = (0 : Int32)) :
   Ct l Z EL1 n0 x code maxLocals ret room_1 #[(.int p0), (.int p1), (.int p2)] h WL FL (Q_law Z p0 p1 p2 h) := by
 refine Ct.of (plainFor_of_name pn12) ?_
 intro p e s m below meth c s1 hx w hml hnm hret hlk X0
 refine Wo.cast (f' := (mkF m 0 #[.val (.int p0), .val (.int p1), .val (.int p2), .unset, .unset, .unset, .unset, .unset, .unset, .unset, .unset, .unset, .unset, .unset, .unset, .unset, .unset, .unset, .unset, .unset, .unset] [])) (by first | (simp [entryFrame, mkF, argsToLocals, Value.category, maxLocals]; done) | rfl) ?_
 have K0 : Keep h h [] := Keep.refl _ _
 show Wo _ _ _ _ _ _ _ _ _ _ _ s1 (mkF m 0 #[.val (.int p0), .val (.int p1), .val (.int p2), .unset, .unset, .unset, .unset, .unset, .unset, .unset, .unset, .unset, .unset, .unset, .unset, .unset, .unset, .unset, .unset, .unset, .unset] [])
 refine P.iloadN X0 hx 1 (hb w at_0) rfl rfl ?_
 refine P.iconst X0 hx 2 3 (hb w at_1) rfl rfl ?_
 refine P.iand X0 hx 3 (z := (p0 &&& (3 : Int32))) (hb w at_2) rfl rfl ?_
 refine P.iconst X0 hx 4 3 (hb w at_3) rfl rfl ?_
 refine P.irem X0 hx 5 (z := ((p0 &&& (3 : Int32)) % (3 : Int32))) (hb w at_4) (by decide) rfl rfl ?_
 refine P.istoreN X0 hx 6 #[.val (.int p0), .val (.int p1), .val (.int p2), .val (.int ((p0 &&& (3 : Int32)) % (3 : Int32))), .unset, .unset, .unset, .unset, .unset, .unset, .unset, .unset, .unset, .unset, .unset, .unset, .unset, .unset, .unset, .unset, .unset] (hb w at_5) rfl rfl ?_
 refine P.iloadN X0 hx 7 (hb w at_6) rfl rfl ?_
 refine P.bipush X0 hx 9 8 (hb w at_7) rfl rfl ?_
 refine P.iushr X0 hx 10 (z := ((p0.toUInt32 >>> ((8 : Int32) &&& 31).toUInt32).toInt32)) (hb w at_9) rfl rfl ?_
 refine P.sipush X0 hx 13 255 (hb w at_10) rfl rfl ?_
 refine P.iand X0 hx 14 (z := (((p0.toUInt32 >>> ((8 : Int32) &&& 31).toUInt32).toInt32) &&& (255 : Int32))) (hb w at_13) rfl rfl ?_
 refine P.i2c X0 hx 15 (z := (((p0.toUInt32 >>> ((8 : Int32) &&& 31).toUInt32).toInt32) &&& (255 : Int32))) (hb w at_14) (by rw [i2c_mask]) rfl ?_
 refine P.istore X0 hx 17 #[.val (.int p0), .val (.int p1), .val (.int p2), .val (.int ((p0 &&& (3 : Int32)) % (3 : Int32))), .val (.int (((p0.toUInt32 >>> ((8 : Int32) &&& 31).toUInt32).toInt32) &&& (255 : Int32))), .unset, .unset, .unset, .unset, .unset, .unset, .unset, .unset, .unset, .unset, .unset, .unset, .unset, .unset, .unset, .unset] (hb w at_15) rfl rfl ?_
 refine P.iloadN X0 hx 18 (hb w at_17) rfl rfl ?_
 refine P.bipush X0 hx 20 16 (hb w at_18) rfl rfl ?_
 refine P.iushr X0 hx 21 (z := ((p0.toUInt32 >>> ((16 : Int32) &&& 31).toUInt32).toInt32)) (hb w at_20) rfl rfl ?_
 refine P.sipush X0 hx 24 255 (hb w at_21) rfl rfl ?_
 refine P.iand X0 hx 25 (z := (((p0.toUInt32 >>> ((16 : Int32) &&& 31).toUInt32).toInt32) &&& (255 : Int32))) (hb w at_24) rfl rfl ?_
 refine P.i2c X0 hx 26 (z := (((p0.toUInt32 >>> ((16 : Int32) &&& 31).toUInt32).toInt32) &&& (255 : Int32))) (hb w at_25) (by rw [i2c_mask]) rfl ?_
 refine P.istore X0 hx 28 #[.val (.int p0), .val (.int p1), .val (.int p2), .val (.int ((p0 &&& (3 : Int32)) % (3 : Int32))), .val (.int (((p0.toUInt32 >>> ((8 : Int32) &&& 31).toUInt32).toInt32) &&& (255 : Int32))), .val (.int (((p0.toUInt32 >>> ((16 : Int32) &&& 31).toUInt32).toInt32) &&& (255 : Int32))), .unset, .unset, .unset, .unset, .unset, .unset, .unset, .unset, .unset, .unset, .unset, .unset, .unset, .unset, .unset] (hb w at_26) rfl rfl ?_
 refine P.iloadN X0 hx 29 (hb w at_28) rfl rfl ?_
 refine P.iconst X0 hx 30 3 (hb w at_29) rfl rfl ?_
 refine P.iand X0 hx 31 (z := (p1 &&& (3 : Int32))) (hb w at_30) rfl rfl ?_
 refine P.iconst X0 hx 32 3 (hb w at_31) rfl rfl ?_
 refine P.irem X0 hx 33 (z := ((p1 &&& (3 : Int32)) % (3 : Int32))) (hb w at_32) (by decide) rfl rfl ?_
 refine P.istore X0 hx 35 #[.val (.int p0), .val (.int p1), .val (.int p2), .val (.int ((p0 &&& (3 : Int32)) % (3 : Int32))), .val (.int (((p0.toUInt32 >>> ((8 : Int32) &&& 31).toUInt32).toInt32) &&& (255 : Int32))), .val (.int (((p0.toUInt32 >>> ((16 : Int32) &&& 31).toUInt32).toInt32) &&& (255 : Int32))), .val (.int ((p1 &&& (3 : Int32)) % (3 : Int32))), .unset, .unset, .unset, .unset, .unset, .unset, .unset, .unset, .unset, .unset, .unset, .unset, .unset, .unset] (hb w at_33) rfl rfl ?_
 refine P.iloadN X0 hx 36 (hb w at_35) rfl rfl ?_
 refine P.bipush X0 hx 38 8 (hb w at_36) rfl rfl ?_
 refine P.iushr X0 hx 39 (z := ((p1.toUInt32 >>> ((8 : Int32) &&& 31).toUInt32).toInt32)) (hb w at_38) rfl rfl ?_
 refine P.sipush X0 hx 42 255 (hb w at_39) rfl rfl ?_
 refine P.iand X0 hx 43 (z := (((p1.toUInt32 >>> ((8 : Int32) &&& 31).toUInt32).toInt32) &&& (255 : Int32))) (hb w at_42) rfl rfl ?_
 refine P.i2c X0 hx 44 (z := (((p1.toUInt32 >>> ((8 : Int32) &&& 31).toUInt32).toInt32) &&& (255 : Int32))) (hb w at_43) (by rw [i2c_mask]) rfl ?_
 refine P.istore X0 hx 46 #[.val (.int p0), .val (.int p1), .val (.int p2), .val (.int ((p0 &&& (3 : Int32)) % (3 : Int32))), .val (.int (((p0.toUInt32 >>> ((8 : Int32) &&& 31).toUInt32).toInt32) &&& (255 : Int32))), .val (.int (((p0.toUInt32 >>> ((16 : Int32) &&& 31).toUInt32).toInt32) &&& (255 : Int32))), .val (.int ((p1 &&& (3 : Int32)) % (3 : Int32))), .val (.int (((p1.toUInt32 >>> ((8 : Int32) &&& 31).toUInt32).toInt32) &&& (255 : Int32))), .unset, .unset, .unset, .unset, .unset, .unset, .unset, .unset, .unset, .unset, .unset, .unset, .unset] (hb w at_44) rfl rfl ?_
 refine P.iloadN X0 hx 47 (hb w at_46) rfl rfl ?_
 refine P.bipush X0 hx 49 16 (hb w at_47) rfl rfl ?_
 refine P.iushr X0 hx 50 (z := ((p1.toUInt32 >>> ((16 : Int32) &&& 31).toUInt32).toInt32)) (hb w at_49) rfl rfl ?_
 refine P.sipush X0 hx 53 255 (hb w at_50) rfl rfl ?_
 refine P.iand X0 hx 54 (z := (((p1.toUInt32 >>> ((16 : Int32) &&& 31).toUInt32).toInt32) &&& (255 : Int32))) (hb w at_53) rfl rfl ?_
 refine P.i2c X0 hx 55 (z := (((p1.toUInt32 >>> ((16 : Int32) &&& 31).toUInt32).toInt32) &&& (255 : Int32))) (hb w at_54) (by rw [i2c_mask]) rfl ?_
 refine P.istore X0 hx 57 #[.val (.int p0), .val (.int p1), .val (.int p2), .val (.int ((p0 &&& (3 : Int32)) % (3 : Int32))), .val (.int (((p0.toUInt32 >>> ((8 : Int32) &&& 31).toUInt32).toInt32) &&& (255 : Int32))), .val (.int (((p0.toUInt32 >>> ((16 : Int32) &&& 31).toUInt32).toInt32) &&& (255 : Int32))), .val (.int ((p1 &&& (3 : Int32)) % (3 : Int32))), .val (.int (((p1.toUInt32 >>> ((8 : Int32) &&& 31).toUInt32).toInt32) &&& (255 : Int32))), .val (.int (((p1.toUInt32 >>> ((16 : Int32) &&& 31).toUInt32).toInt32) &&& (255 : Int32))), .unset, .unset, .unset, .unset, .unset, .unset, .unset, .unset, .unset, .unset, .unset, .unset] (hb w at_55) rfl rfl ?_
 refine P.iloadN X0 hx 58 (hb w at_57) rfl rfl ?_
 refine P.iconst X0 hx 59 1 (hb w at_58) rfl rfl ?_
 refine P.iand X0 hx 60 (z := (p2 &&& (1 : Int32))) (hb w at_59) rfl rfl ?_
 refine P.ifYes X0 hx 67 (hb w at_60) ((if0 _ _).trans (teq es).1) (by decide) (by decide) ?_
 refine P.iconst X0 hx 68 0 (hb w at_67) rfl rfl ?_
 refine P.istore X0 hx 70 #[.val (.int p0), .val (.int p1), .val (.int p2), .val (.int ((p0 &&& (3 : Int32)) % (3 : Int32))), .val (.int (((p0.toUInt32 >>> ((8 : Int32) &&& 31).toUInt32).toInt32) &&& (255 : Int32))), .val (.int (((p0.toUInt32 >>> ((16 : Int32) &&& 31).toUInt32).toInt32) &&& (255 : Int32))), .val (.int ((p1 &&& (3 : Int32)) % (3 : Int32))), .val (.int (((p1.toUInt32 >>> ((8 : Int32) &&& 31).toUInt32).toInt32) &&& (255 : Int32))), .val (.int (((p1.toUInt32 >>> ((16 : Int32) &&& 31).toUInt32).toInt32) &&& (255 : Int32))), .val (.int 0), .unset, .unset, .unset, .unset, .unset, .unset, .unset, .unset, .unset, .unset, .unset] (hb w at_68) rfl rfl ?_
 refine P.iloadN X0 hx 71 (hb w at_70) rfl rfl ?_
 refine P.iconst X0 hx 72 2 (hb w at_71) rfl rfl ?_
 refine P.iand X0 hx 73 (z := (p2 &&& (2 : Int32))) (hb w at_72) rfl rfl ?_
 refine P.ifYes X0 hx 80 (hb w at_73) ((if0 _ _).trans (teq ec).1) (by decide) (by decide) ?_
 refine P.iconst X0 hx 81 0 (hb w at_80) rfl rfl ?_
 refine P.istore X0 hx 83 #[.val (.int p0), .val (.int p1), .val (.int p2), .val (.int ((p0 &&& (3 : Int32)) % (3 : Int32))), .val (.int (((p0.toUInt32 >>> ((8 : Int32) &&& 31).toUInt32).toInt32) &&& (255 : Int32))), .val (.int (((p0.toUInt32 >>> ((16 : Int32) &&& 31).toUInt32).toInt32) &&& (255 : Int32))), .val (.int ((p1 &&& (3 : Int32)) % (3 : Int32))), .val (.int (((p1.toUInt32 >>> ((8 : Int32) &&& 31).toUInt32).toInt32) &&& (255 : Int32))), .val (.int (((p1.toUInt32 >>> ((16 : Int32) &&& 31).toUInt32).toInt32) &&& (255 : Int32))), .val (.int 0), .val (.int 0), .unset, .unset, .unset, .unset, .unset, .unset, .unset, .unset, .unset, .unset] (hb w at_81) rfl rfl ?_
 refine P.iloadN X0 hx 84 (hb w at_83) rfl rfl ?_
 refine P.bipush X0 hx 86 8 (hb w at_84) rfl rfl ?_
 refine P.iushr X0 hx 87 (z := ((p2.toUInt32 >>> ((8 : Int32) &&& 31).toUInt32).toInt32)) (hb w at_86) rfl rfl ?_
 refine P.sipush X0 hx 90 255 (hb w at_87) rfl rfl ?_
 refine P.iand X0 hx 91 (z := (((p2.toUInt32 >>> ((8 : Int32) &&& 31).toUInt32).toInt32) &&& (255 : Int32))) (hb w at_90) rfl rfl ?_
 refine P.i2c X0 hx 92 (z := (((p2.toUInt32 >>> ((8 : Int32) &&& 31).toUInt32).toInt32) &&& (255 : Int32))) (hb w at_91) (by rw [i2c_mask]) rfl ?_
 refine P.istore X0 hx 94 #[.val (.int p0), .val (.int p1), .val (.int p2), .val (.int ((p0 &&& (3 : Int32)) % (3 : Int32))), .val (.int (((p0.toUInt32 >>> ((8 : Int32) &&& 31).toUInt32).toInt32) &&& (255 : Int32))), .val (.int (((p0.toUInt32 >>> ((16 : Int32) &&& 31).toUInt32).toInt32) &&& (255 : Int32))), .val (.int ((p1 &&& (3 : Int32)) % (3 : Int32))), .val (.int (((p1.toUInt32 >>> ((8 : Int32) &&& 31).toUInt32).toInt32) &&& (255 : Int32))), .val (.int (((p1.toUInt32 >>> ((16 : Int32) &&& 31).toUInt32).toInt32) &&& (255 : Int32))), .val (.int 0), .val (.int 0), .val (.int (((p2.toUInt32 >>> ((8 : Int32) &&& 31).toUInt32).toInt32) &&& (255 : Int32))), .unset, .unset, .unset, .unset, .unset, .unset, .unset, .unset, .unset] (hb w at_92) rfl rfl ?_
 refine P.iloadN X0 hx 95 (hb w at_94) rfl rfl ?_
 refine P.iload X0 hx 97 (hb w at_95) rfl rfl ?_
 refine P.iload X0 hx 99 (hb w at_97) rfl rfl ?_
 refine X0.callS hx (w0 cx) (w1 cx) (w2 cx) (w3 cx) (by decide) (Ct.pay (W := 0) (ct_str cx ((p0 &&& (3 : Int32)) % (3 : Int32)) (((p0.toUInt32 >>> ((8 : Int32) &&& 31).toUInt32).toInt32) &&& (255 : Int32)) (((p0.toUInt32 >>> ((16 : Int32) &&& 31).toUInt32).toInt32) &&& (255 : Int32)) h _ _ (r3 _) (rng255 _) (rng255 _)) (w3 cx) (w2 cx) (nle rfl) (nle rfl)) (by rw [hml]; rfl) (argsL := [.int ((p0 &&& (3 : Int32)) % (3 : Int32)), .int (((p0.toUInt32 >>> ((8 : Int32) &&& 31).toUInt32).toInt32) &&& (255 : Int32)), .int (((p0.toUInt32 >>> ((16 : Int32) &&& 31).toUInt32).toInt32) &&& (255 : Int32))]) (rest := []) (lenOf pd34 rfl) rfl rfl (nle rfl) (hb w at_99) (nle rfl) (nle rfl) ?_
 rintro T1 h1 _ _ _ X1 ⟨a2, a3, x4, rfl, rfl, rfl, J1, g7, G5, G6⟩
 have ge8 := Nat.le_trans K0.1 g7
 have K9 := K0.trans J1 all0
 have X10 := WS.drop (A := []) (B := WL) X1
 obtain ⟨eT, lT⟩ := strL G6
 refine P.astore X10 hx 104 #[.val (.int p0), .val (.int p1), .val (.int p2), .val (.int ((p0 &&& (3 : Int32)) % (3 : Int32))), .val (.int (((p0.toUInt32 >>> ((8 : Int32) &&& 31).toUInt32).toInt32) &&& (255 : Int32))), .val (.int (((p0.toUInt32 >>> ((16 : Int32) &&& 31).toUInt32).toInt32) &&& (255 : Int32))), .val (.int ((p1 &&& (3 : Int32)) % (3 : Int32))), .val (.int (((p1.toUInt32 >>> ((8 : Int32) &&& 31).toUInt32).toInt32) &&& (255 : Int32))), .val (.int (((p1.toUInt32 >>> ((16 : Int32) &&& 31).toUInt32).toInt32) &&& (255 : Int32))), .val (.int 0), .val (.int 0), .val (.int (((p2.toUInt32 >>> ((8 : Int32) &&& 31).toUInt32).toInt32) &&& (255 : Int32))), .val (.ref a2), .unset, .unset, .unset, .unset, .unset, .unset, .unset, .unset] (hb w at_102) rfl rfl rfl ?_
 refine P.iload X10 hx 106 (hb w at_104) rfl rfl ?_
 refine P.iload X10 hx 108 (hb w at_106) rfl rfl ?_
 refine P.iload X10 hx 110 (hb w at_108) rfl rfl ?_
 refine X10.callS hx (w0 cx) (w1 cx) (w2 cx) (w3 cx) (by decide) (Ct.pay (W := 0) (ct_str cx ((p1 &&& (3 : Int32)) % (3 : Int32)) (((p1.toUInt32 >>> ((8 : Int32) &&& 31).toUInt32).toInt32) &&& (255 : Int32)) (((p1.toUInt32 >>> ((16 : Int32) &&& 31).toUInt32).toInt32) &&& (255 : Int32)) h1 _ _ (r3 _) (rng255 _) (rng255 _)) (w3 cx) (w2 cx) (nle rfl) (nle rfl)) (by rw [hml]; rfl) (argsL := [.int ((p1 &&& (3 : Int32)) % (3 : Int32)), .int (((p1.toUInt32 >>> ((8 : Int32) &&& 31).toUInt32).toInt32) &&& (255 : Int32)), .int (((p1.toUInt32 >>> ((16 : Int32) &&& 31).toUInt32).toInt32) &&& (255 : Int32))]) (rest := []) (lenOf pd34 rfl) rfl rfl (nle rfl) (hb w at_110) (nle rfl) (nle rfl) ?_
 rintro T11 h11 _ _ _ X11 ⟨a12, a13, x14, rfl, rfl, rfl, J11, g17, G15, G16⟩
 have ge18 := Nat.le_trans K9.1 g17
 have K19 := K9.trans J11 all0
 have X20 := WS.drop (A := []) (B := WL) X11
 obtain ⟨eC, lC⟩ := strL G16
 refine P.astore X20 hx 115 #[.val (.int p0), .val (.int p1), .val (.int p2), .val (.int ((p0 &&& (3 : Int32)) % (3 : Int32))), .val (.int (((p0.toUInt32 >>> ((8 : Int32) &&& 31).toUInt32).toInt32) &&& (255 : Int32))), .val (.int (((p0.toUInt32 >>> ((16 : Int32) &&& 31).toUInt32).toInt32) &&& (255 : Int32))), .val (.int ((p1 &&& (3 : Int32)) % (3 : Int32))), .val (.int (((p1.toUInt32 >>> ((8 : Int32) &&& 31).toUInt32).toInt32) &&& (255 : Int32))), .val (.int (((p1.toUInt32 >>> ((16 : Int32) &&& 31).toUInt32).toInt32) &&& (255 : Int32))), .val (.int 0), .val (.int 0), .val (.int (((p2.toUInt32 >>> ((8 : Int32) &&& 31).toUInt32).toInt32) &&& (255 : Int32))), .val (.ref a2), .val (.ref a12), .unset, .unset, .unset, .unset, .unset, .unset, .unset] (hb w at_113) rfl rfl rfl ?_
 refine P.iload X20 hx 117 (hb w at_115) rfl rfl ?_
 refine P.ifYes X20 hx 140 (hb w at_117) (by decide) (by decide) (by decide) ?_
 refine X20.newO hx (w26 cx) (w27 cx) (w28 cx) (hb w at_140) (nle rfl) (nle rfl) ?_
 intro T21 h21 a21 X21 E21 g21 A21 D21
 have ge22 := Nat.le_trans K19.1 g21
 have K23 := K19.ext E21
 have D24 : Fld Z h21 a21 "com/example/estate4/estate4/jdbc/SelectText" "columns" "Ljava/util/List;" .null := D21 (Or.inr (w68 cx)) (ty := (.object "java/util/List")) (by decide)
 have D25 : Fld Z h21 a21 "com/example/estate4/estate4/jdbc/SelectText" "tableColumns" "Ljava/util/List;" .null := D21 (Or.inr (w70 cx)) (ty := (.object "java/util/List")) (by decide)
 have D26 : Fld Z h21 a21 "com/example/estate4/estate4/jdbc/SelectText" "grouping" "Ljava/util/List;" .null := D21 (Or.inr (w72 cx)) (ty := (.object "java/util/List")) (by decide)
 have D27 : Fld Z h21 a21 "com/example/estate4/estate4/jdbc/SelectText" "from" "Ljava/lang/StringBuilder;" .null := D21 (Or.inr (w92 cx)) (ty := (.object "java/lang/StringBuilder")) (by decide)
 have D28 : Fld Z h21 a21 "com/example/estate4/estate4/jdbc/SelectText" "aliases" "Lcom/example/estate4/estate4/jdbc/SelectText$Aliases;" .null := D21 (Or.inr (w94 cx)) (ty := (.object "com/example/estate4/estate4/jdbc/SelectText$Aliases")) (by decide)
 have D29 : Fld Z h21 a21 "com/example/estate4/estate4/jdbc/SelectText" "table" "Ljava/lang/String;" .null := D21 (Or.inr (w96 cx)) (ty := (.object "java/lang/String")) (by decide)
 have D30 : Fld Z h21 a21 "com/example/estate4/estate4/jdbc/SelectText" "first" "Ljava/lang/String;" .null := D21 (Or.inr (w219 cx)) (ty := (.object "java/lang/String")) (by decide)
 have D31 : Fld Z h21 a21 "com/example/estate4/estate4/jdbc/SelectText" "joins" "Z" (.int 0) := D21 (Or.inl (w251 cx)) (ty := .boolean) (by decide)
 refine P.dup X21 hx 144 (hb w at_143) rfl rfl ?_
 refine P.aload X21 hx 146 (hb w at_144) rfl rfl rfl ?_
 have F32 := (G5.keep J11 nin0 nin0).ext E21
 refine X21.callC hx rfl (w29 cx) (w30 cx) (w31 cx) (by decide) (Ct.pay (W := 1) (ct_seli cx a21 a2 a3 x4 h21 _ _ A21 D24 D25 D26 D27 D28 D29 D30 D31 (mg 0 rfl) F32 (mg 2 rfl) (mg 3 rfl) (by omega)) (w31 cx) (w28 cx) (nle rfl) (nle rfl)) (by rw [hml]; rfl) (argsL := [.ref a2]) (rest := [.ref a21]) (lenOf pd2 rfl) rfl rfl (nle rfl) (hb w at_146) (nle rfl) (nle rfl) ?_
 rintro T33 h33 _ _ _ X33 ⟨a34, a35, a36, rfl, rfl, rfl, J33, g43, g44, g45, G37, G38, G39, G40, G41, G42⟩
 have ge46 := Nat.le_trans K23.1 g43
 have ge47 := Nat.le_trans K23.1 g44
 have ge48 := Nat.le_trans K23.1 g45
 have K49 := K23.trans J33 (allS (Or.inr ge22) all0)
 refine P.astore X33 hx 151 #[.val (.int p0), .val (.int p1), .val (.int p2), .val (.int ((p0 &&& (3 : Int32)) % (3 : Int32))), .val (.int (((p0.toUInt32 >>> ((8 : Int32) &&& 31).toUInt32).toInt32) &&& (255 : Int32))), .val (.int (((p0.toUInt32 >>> ((16 : Int32) &&& 31).toUInt32).toInt32) &&& (255 : Int32))), .val (.int ((p1 &&& (3 : Int32)) % (3 : Int32))), .val (.int (((p1.toUInt32 >>> ((8 : Int32) &&& 31).toUInt32).toInt32) &&& (255 : Int32))), .val (.int (((p1.toUInt32 >>> ((16 : Int32) &&& 31).toUInt32).toInt32) &&& (255 : Int32))), .val (.int 0), .val (.int 0), .val (.int (((p2.toUInt32 >>> ((8 : Int32) &&& 31).toUInt32).toInt32) &&& (255 : Int32))), .val (.ref a2), .val (.ref a12), .val (.ref a21), .unset, .unset, .unset, .unset, .unset, .unset] (hb w at_149) rfl rfl rfl ?_
 refine P.iload X33 hx 153 (hb w at_151) rfl rfl ?_
 refine P.ifYes X33 hx 161 (hb w at_153) (by decide) (by decide) (by decide) ?_
 refine P.bipush X33 hx 163 48 (hb w at_161) rfl rfl ?_
 refine P.istore X33 hx 165 #[.val (.int p0), .val (.int p1), .val (.int p2), .val (.int ((p0 &&& (3 : Int32)) % (3 : Int32))), .val (.int (((p0.toUInt32 >>> ((8 : Int32) &&& 31).toUInt32).toInt32) &&& (255 : Int32))), .val (.int (((p0.toUInt32 >>> ((16 : Int32) &&& 31).toUInt32).toInt32) &&& (255 : Int32))), .val (.int ((p1 &&& (3 : Int32)) % (3 : Int32))), .val (.int (((p1.toUInt32 >>> ((8 : Int32) &&& 31).toUInt32).toInt32) &&& (255 : Int32))), .val (.int (((p1.toUInt32 >>> ((16 : Int32) &&& 31).toUInt32).toInt32) &&& (255 : Int32))), .val (.int 0), .val (.int 0), .val (.int (((p2.toUInt32 >>> ((8 : Int32) &&& 31).toUInt32).toInt32) &&& (255 : Int32))), .val (.ref a2), .val (.ref a12), .val (.ref a21), .val (.int 48), .unset, .unset, .unset, .unset, .unset] (hb w at_163) rfl rfl ?_
 refine P.iload X33 hx 167 (hb w at_165) rfl rfl ?_
 refine P.ifYes X33 hx 175 (hb w at_167) (by decide) (by decide) (by decide) ?_
 refine P.bipush X33 hx 177 49 (hb w at_175) rfl rfl ?_
 refine P.istore X33 hx 179 #[.val (.int p0), .val (.int p1), .val (.int p2), .val (.int ((p0 &&& (3 : Int32)) % (3 : Int32))), .val (.int (((p0.toUInt32 >>> ((8 : Int32) &&& 31).toUInt32).toInt32) &&& (255 : Int32))), .val (.int (((p0.toUInt32 >>> ((16 : Int32) &&& 31).toUInt32).toInt32) &&& (255 : Int32))), .val (.int ((p1 &&& (3 : Int32)) % (3 : Int32))), .val (.int (((p1.toUInt32 >>> ((8 : Int32) &&& 31).toUInt32).toInt32) &&& (255 : Int32))), .val (.int (((p1.toUInt32 >>> ((16 : Int32) &&& 31).toUInt32).toInt32) &&& (255 : Int32))), .val (.int 0), .val (.int 0), .val (.int (((p2.toUInt32 >>> ((8 : Int32) &&& 31).toUInt32).toInt32) &&& (255 : Int32))), .val (.ref a2), .val (.ref a12), .val (.ref a21), .val (.int 48), .val (.int 49), .unset, .unset, .unset, .unset] (hb w at_177) rfl rfl ?_
 refine P.iload X33 hx 181 (hb w at_179) rfl rfl ?_
 refine P.ifYes X33 hx 195 (hb w at_181) (by decide) (by decide) (by decide) ?_
 refine P.aload X33 hx 197 (hb w at_195) rfl rfl rfl ?_
 refine P.aload X33 hx 199 (hb w at_197) rfl rfl rfl ?_
 have F50 := A21.keep J33
 have F51 := (G15.ext E21).keep J33 (ninS (X33.neF (mg 0 rfl) (mg 3 rfl)) nin0) (ninS (X33.neF (mg 1 rfl) (mg 3 rfl)) nin0)
 refine X33.callV hx (w270 cx) (w271 cx) (w273 cx) (w272 cx) (fun _ hZ => nf hZ (w273 cx)) (by decide) F50 (Ct.pay (W := 0) (ct_exi0 cx a21 a35 a36 ((([] ++ x4) ++ [(32 : Int32)]) ++ [(116 : Int32), 48]) a12 a13 x14 h33 _ _ F50 G37 G40 F51 (mg 3 rfl) (mg 1 rfl) (mg 0 rfl) (mg 0 rfl) (mg 1 rfl) lC (by simp <;> omega) (by simp <;> omega)) (w274 cx) (w28 cx) (nle rfl) (nle rfl)) (by rw [hml]; rfl) (argsL := [.ref a12]) (rest := []) (lenOf pd35 rfl) rfl rfl (nle rfl) (hb w at_199) (nle rfl) (nle rfl) ?_
 rintro T52 h52 _ _ _ X52 ⟨a53, a54, rfl, rfl, rfl, J52, g56, G55⟩
 have ge57 := Nat.le_trans K49.1 g56
 have K58 := K49.trans J52 all0
 refine P.astore X52 hx 204 #[.val (.int p0), .val (.int p1), .val (.int p2), .val (.int ((p0 &&& (3 : Int32)) % (3 : Int32))), .val (.int (((p0.toUInt32 >>> ((8 : Int32) &&& 31).toUInt32).toInt32) &&& (255 : Int32))), .val (.int (((p0.toUInt32 >>> ((16 : Int32) &&& 31).toUInt32).toInt32) &&& (255 : Int32))), .val (.int ((p1 &&& (3 : Int32)) % (3 : Int32))), .val (.int (((p1.toUInt32 >>> ((8 : Int32) &&& 31).toUInt32).toInt32) &&& (255 : Int32))), .val (.int (((p1.toUInt32 >>> ((16 : Int32) &&& 31).toUInt32).toInt32) &&& (255 : Int32))), .val (.int 0), .val (.int 0), .val (.int (((p2.toUInt32 >>> ((8 : Int32) &&& 31).toUInt32).toInt32) &&& (255 : Int32))), .val (.ref a2), .val (.ref a12), .val (.ref a21), .val (.int 48), .val (.int 49), .val (.ref a53), .unset, .unset, .unset] (hb w at_202) rfl rfl rfl ?_
 have X59 := WS.drop (A := []) (B := (a36 :: a35 :: a34 :: a21 :: WL)) X52
 have X60 := WS.drop (A := []) (B := (a35 :: a34 :: a21 :: WL)) X59
 have X61 := WS.drop (A := []) (B := (a34 :: a21 :: WL)) X60
 have X62 := WS.drop (A := []) (B := (a21 :: WL)) X61
 have X63 := WS.drop (A := []) (B := WL) X62
 have X64 := WS.fl (FL2 := (a53 :: a54 :: FL)) X63 (fun y hy => (List.mem_cons.mp hy).elim (fun q => q ▸ (mg 4 rfl)) (fun q0 => (List.mem_cons.mp q0).elim (fun q => q ▸ (mg 5 rfl)) (fun q1 => (List.mem_append_right [a21, a34, a35, a36, a53, a54, a12, a13, a2, a3] q1))))
 exact mid_law0 cx p0 p1 p2 ((p0 &&& (3 : Int32)) % (3 : Int32)) (((p0.toUInt32 >>> ((8 : Int32) &&& 31).toUInt32).toInt32) &&& (255 : Int32)) (((p0.toUInt32 >>> ((16 : Int32) &&& 31).toUInt32).toInt32) &&& (255 : Int32)) ((p1 &&& (3 : Int32)) % (3 : Int32)) (((p1.toUInt32 >>> ((8 : Int32) &&& 31).toUInt32).toInt32) &&& (255 : Int32)) (((p1.toUInt32 >>> ((16 : Int32) &&& 31).toUInt32).toInt32) &&& (255 : Int32)) (0 : Int32) (((p2.toUInt32 >>> ((8 : Int32) &&& 31).toUInt32).toInt32) &&& (255 : Int32)) (48 : Int32) (49 : Int32) (.ref a2) (.ref a12) (.ref a21) a53 a54 x4 x14 ((((([] ++ [(101 : Int32), 120, 105, 115, 116, 115, 32, 40, 115, 101, 108, 101, 99, 116, 32, 49, 32, 102, 114, 111, 109, 32]) ++ ((([] ++ x4) ++ [(32 : Int32)]) ++ [(116 : Int32), 48])) ++ [(32 : Int32), 119, 104, 101, 114, 101, 32]) ++ x14) ++ [(41 : Int32)]) hx w hml hnm hret hlk (WS.mono X64 (nle rfl) (nle rfl)) K58 G55 G6 G16 (rng255 _) (rng255 _) (rng255 _) (rng255 _) (rng255 _) (by decide) (by decide) F32.2.2.2.2.1 F51.2.2.2.2.1 (by simp)
theorem ct_law_01 (cx : Cx a0 Z gC gF v_AL v_DO k_DO) (p0 : Int32) (p1 : Int32) (p2 : Int32) (h : Heap) (WL FL : List Addr)  (es : (p2 &&& (1 : Int32)) = (0 : Int32)) (ec : ¬ (p2 &&& (2 : Int32)) = (0 : Int32)) :
   Ct l Z EL1 n0 x code maxLocals ret room_1 #[(.int p0), (.int p1), (.int p2)] h WL FL (Q_law Z p0 p1 p2 h) := by
 refine Ct.of (plainFor_of_name pn12) ?_
 intro p e s m below meth c s1 hx w hml hnm hret hlk X0
 refine Wo.cast (f' := (mkF m 0 #[.val (.int p0), .val (.int p1), .val (.int p2), .unset, .unset, .unset, .unset, .unset, .unset, .unset, .unset, .unset, .unset, .unset, .unset, .unset, .unset, .unset, .unset, .unset, .unset] [])) (by first | (simp [entryFrame, mkF, argsToLocals, Value.category, maxLocals]; done) | rfl) ?_
 have K0 : Keep h h [] := Keep.refl _ _
 show Wo _ _ _ _ _ _ _ _ _ _ _ s1 (mkF m 0 #[.val (.int p0), .val (.int p1), .val (.int p2), .unset, .unset, .unset, .unset, .unset, .unset, .unset, .unset, .unset, .unset, .unset, .unset, .unset, .unset, .unset, .unset, .unset, .unset] [])
 refine P.iloadN X0 hx 1 (hb w at_0) rfl rfl ?_
 refine P.iconst X0 hx 2 3 (hb w at_1) rfl rfl ?_
 refine P.iand X0 hx 3 (z := (p0 &&& (3 : Int32))) (hb w at_2) rfl rfl ?_
 refine P.iconst X0 hx 4 3 (hb w at_3) rfl rfl ?_
 refine P.irem X0 hx 5 (z := ((p0 &&& (3 : Int32)) % (3 : Int32))) (hb w at_4) (by decide) rfl rfl ?_
 refine P.istoreN X0 hx 6 #[.val (.int p0), .val (.int p1), .val (.int p2), .val (.int ((p0 &&& (3 : Int32)) % (3 : Int32))), .unset, .unset, .unset, .unset, .unset, .unset, .unset, .unset, .unset, .unset, .unset, .unset, .unset, .unset, .unset, .unset, .unset] (hb w at_5) rfl rfl ?_
 refine P.iloadN X0 hx 7 (hb w at_6) rfl rfl ?_
 refine P.bipush X0 hx 9 8 (hb w at_7) rfl rfl ?_
 refine P.iushr X0 hx 10 (z := ((p0.toUInt32 >>> ((8 : Int32) &&& 31).toUInt32).toInt32)) (hb w at_9) rfl rfl ?_
 refine P.sipush X0 hx 13 255 (hb w at_10) rfl rfl ?_
 refine P.iand X0 hx 14 (z := (((p0.toUInt32 >>> ((8 : Int32) &&& 31).toUInt32).toInt32) &&& (255 : Int32))) (hb w at_13) rfl rfl ?_
 refine P.i2c X0 hx 15 (z := (((p0.toUInt32 >>> ((8 : Int32) &&& 31).toUInt32).toInt32) &&& (255 : Int32))) (hb w at_14) (by rw [i2c_mask]) rfl ?_
 refine P.istore X0 hx 17 #[.val (.int p0), .val (.int p1), .val (.int p2), .val (.int ((p0 &&& (3 : Int32)) % (3 : Int32))), .val (.int (((p0.toUInt32 >>> ((8 : Int32) &&& 31).toUInt32).toInt32) &&& (255 : Int32))), .unset, .unset, .unset, .unset, .unset, .unset, .unset, .unset, .unset, .unset, .unset, .unset, .unset, .unset, .unset, .unset] (hb w at_15) rfl rfl ?_
 refine P.iloadN X0 hx 18 (hb w at_17) rfl rfl ?_
 refine P.bipush X0 hx 20 16 (hb w at_18) rfl rfl ?_
 refine P.iushr X0 hx 21 (z := ((p0.toUInt32 >>> ((16 : Int32) &&& 31).toUInt32).toInt32)) (hb w at_20) rfl rfl ?_
 refine P.sipush X0 hx 24 255 (hb w at_21) rfl rfl ?_
 refine P.iand X0 hx 25 (z := (((p0.toUInt32 >>> ((16 : Int32) &&& 31).toUInt32).toInt32) &&& (255 : Int32))) (hb w at_24) rfl rfl ?_
 refine P.i2c X0 hx 26 (z := (((p0.toUInt32 >>> ((16 : Int32) &&& 31).toUInt32).toInt32) &&& (255 : Int32))) (hb w at_25) (by rw [i2c_mask]) rfl ?_
 refine P.istore X0 hx 28 #[.val (.int p0), .val (.int p1), .val (.int p2), .val (.int ((p0 &&& (3 : Int32)) % (3 : Int32))), .val (.int (((p0.toUInt32 >>> ((8 : Int32) &&& 31).toUInt32).toInt32) &&& (255 : Int32))), .val (.int (((p0.toUInt32 >>> ((16 : Int32) &&& 31).toUInt32).toInt32) &&& (255 : Int32))), .unset, .unset, .unset, .unset, .unset, .unset, .unset, .unset, .unset, .unset, .unset, .unset, .unset, .unset, .unset] (hb w at_26) rfl rfl ?_
 refine P.iloadN X0 hx 29 (hb w at_28) rfl rfl ?_
 refine P.iconst X0 hx 30 3 (hb w at_29) rfl rfl ?_
 refine P.iand X0 hx 31 (z := (p1 &&& (3 : Int32))) (hb w at_30) rfl rfl ?_
 refine P.iconst X0 hx 32 3 (hb w at_31) rfl rfl ?_
 refine P.irem X0 hx 33 (z := ((p1 &&& (3 : Int32)) % (3 : Int32))) (hb w at_32) (by decide) rfl rfl ?_
 refine P.istore X0 hx 35 #[.val (.int p0), .val (.int p1), .val (.int p2), .val (.int ((p0 &&& (3 : Int32)) % (3 : Int32))), .val (.int (((p0.toUInt32 >>> ((8 : Int32) &&& 31).toUInt32).toInt32) &&& (255 : Int32))), .val (.int (((p0.toUInt32 >>> ((16 : Int32) &&& 31).toUInt32).toInt32) &&& (255 : Int32))), .val (.int ((p1 &&& (3 : Int32)) % (3 : Int32))), .unset, .unset, .unset, .unset, .unset, .unset, .unset, .unset, .unset, .unset, .unset, .unset, .unset, .unset] (hb w at_33) rfl rfl ?_
 refine P.iloadN X0 hx 36 (hb w at_35) rfl rfl ?_
 refine P.bipush X0 hx 38 8 (hb w at_36) rfl rfl ?_
 refine P.iushr X0 hx 39 (z := ((p1.toUInt32 >>> ((8 : Int32) &&& 31).toUInt32).toInt32)) (hb w at_38) rfl rfl ?_
 refine P.sipush X0 hx 42 255 (hb w at_39) rfl rfl ?_
 refine P.iand X0 hx 43 (z := (((p1.toUInt32 >>> ((8 : Int32) &&& 31).toUInt32).toInt32) &&& (255 : Int32))) (hb w at_42) rfl rfl ?_
 refine P.i2c X0 hx 44 (z := (((p1.toUInt32 >>> ((8 : Int32) &&& 31).toUInt32).toInt32) &&& (255 : Int32))) (hb w at_43) (by rw [i2c_mask]) rfl ?_
 refine P.istore X0 hx 46 #[.val (.int p0), .val (.int p1), .val (.int p2), .val (.int ((p0 &&& (3 : Int32)) % (3 : Int32))), .val (.int (((p0.toUInt32 >>> ((8 : Int32) &&& 31).toUInt32).toInt32) &&& (255 : Int32))), .val (.int (((p0.toUInt32 >>> ((16 : Int32) &&& 31).toUInt32).toInt32) &&& (255 : Int32))), .val (.int ((p1 &&& (3 : Int32)) % (3 : Int32))), .val (.int (((p1.toUInt32 >>> ((8 : Int32) &&& 31).toUInt32).toInt32) &&& (255 : Int32))), .unset, .unset, .unset, .unset, .unset, .unset, .unset, .unset, .unset, .unset, .unset, .unset, .unset] (hb w at_44) rfl rfl ?_
 refine P.iloadN X0 hx 47 (hb w at_46) rfl rfl ?_
 refine P.bipush X0 hx 49 16 (hb w at_47) rfl rfl ?_
 refine P.iushr X0 hx 50 (z := ((p1.toUInt32 >>> ((16 : Int32) &&& 31).toUInt32).toInt32)) (hb w at_49) rfl rfl ?_
 refine P.sipush X0 hx 53 255 (hb w at_50) rfl rfl ?_
 refine P.iand X0 hx 54 (z := (((p1.toUInt32 >>> ((16 : Int32) &&& 31).toUInt32).toInt32) &&& (255 : Int32))) (hb w at_53) rfl rfl ?_
 refine P.i2c X0 hx 55 (z := (((p1.toUInt32 >>> ((16 : Int32) &&& 31).toUInt32).toInt32) &&& (255 : Int32))) (hb w at_54) (by rw [i2c_mask]) rfl ?_
 refine P.istore X0 hx 57 #[.val (.int p0), .val (.int p1), .val (.int p2), .val (.int ((p0 &&& (3 : Int32)) % (3 : Int32))), .val (.int (((p0.toUInt32 >>> ((8 : Int32) &&& 31).toUInt32).toInt32) &&& (255 : Int32))), .val (.int (((p0.toUInt32 >>> ((16 : Int32) &&& 31).toUInt32).toInt32) &&& (255 : Int32))), .val (.int ((p1 &&& (3 : Int32)) % (3 : Int32))), .val (.int (((p1.toUInt32 >>> ((8 : Int32) &&& 31).toUInt32).toInt32) &&& (255 : Int32))), .val (.int (((p1.toUInt32 >>> ((16 : Int32) &&& 31).toUInt32).toInt32) &&& (255 : Int32))), .unset, .unset, .unset, .unset, .unset, .unset, .unset, .unset, .unset, .unset, .unset, .unset] (hb w at_55) rfl rfl ?_
 refine P.iloadN X0 hx 58 (hb w at_57) rfl rfl ?_
 refine P.iconst X0 hx 59 1 (hb w at_58) rfl rfl ?_
 refine P.iand X0 hx 60 (z := (p2 &&& (1 : Int32))) (hb w at_59) rfl rfl ?_
 refine P.ifYes X0 hx 67 (hb w at_60) ((if0 _ _).trans (teq es).1) (by decide) (by decide) ?_
 refine P.iconst X0 hx 68 0 (hb w at_67) rfl rfl ?_
 refine P.istore X0 hx 70 #[.val (.int p0), .val (.int p1), .val (.int p2), .val (.int ((p0 &&& (3 : Int32)) % (3 : Int32))), .val (.int (((p0.toUInt32 >>> ((8 : Int32) &&& 31).toUInt32).toInt32) &&& (255 : Int32))), .val (.int (((p0.toUInt32 >>> ((16 : Int32) &&& 31).toUInt32).toInt32) &&& (255 : Int32))), .val (.int ((p1 &&& (3 : Int32)) % (3 : Int32))), .val (.int (((p1.toUInt32 >>> ((8 : Int32) &&& 31).toUInt32).toInt32) &&& (255 : Int32))), .val (.int (((p1.toUInt32 >>> ((16 : Int32) &&& 31).toUInt32).toInt32) &&& (255 : Int32))), .val (.int 0), .unset, .unset, .unset, .unset, .unset, .unset, .unset, .unset, .unset, .unset, .unset] (hb w at_68) rfl rfl ?_
 refine P.iloadN X0 hx 71 (hb w at_70) rfl rfl ?_
 refine P.iconst X0 hx 72 2 (hb w at_71) rfl rfl ?_
 refine P.iand X0 hx 73 (z := (p2 &&& (2 : Int32))) (hb w at_72) rfl rfl ?_
 refine P.ifNo X0 hx 76 (hb w at_73) ((if0 _ _).trans (feq ec).1) rfl ?_
 refine P.iconst X0 hx 77 1 (hb w at_76) rfl rfl ?_
 refine P.goto X0 hx 81 (hb w at_77) (by decide) (by decide) ?_
 refine P.istore X0 hx 83 #[.val (.int p0), .val (.int p1), .val (.int p2), .val (.int ((p0 &&& (3 : Int32)) % (3 : Int32))), .val (.int (((p0.toUInt32 >>> ((8 : Int32) &&& 31).toUInt32).toInt32) &&& (255 : Int32))), .val (.int (((p0.toUInt32 >>> ((16 : Int32) &&& 31).toUInt32).toInt32) &&& (255 : Int32))), .val (.int ((p1 &&& (3 : Int32)) % (3 : Int32))), .val (.int (((p1.toUInt32 >>> ((8 : Int32) &&& 31).toUInt32).toInt32) &&& (255 : Int32))), .val (.int (((p1.toUInt32 >>> ((16 : Int32) &&& 31).toUInt32).toInt32) &&& (255 : Int32))), .val (.int 0), .val (.int 1), .unset, .unset, .unset, .unset, .unset, .unset, .unset, .unset, .unset, .unset] (hb w at_81) rfl rfl ?_
 refine P.iloadN X0 hx 84 (hb w at_83) rfl rfl ?_
 refine P.bipush X0 hx 86 8 (hb w at_84) rfl rfl ?_
 refine P.iushr X0 hx 87 (z := ((p2.toUInt32 >>> ((8 : Int32) &&& 31).toUInt32).toInt32)) (hb w at_86) rfl rfl ?_
 refine P.sipush X0 hx 90 255 (hb w at_87) rfl rfl ?_
 refine P.iand X0 hx 91 (z := (((p2.toUInt32 >>> ((8 : Int32) &&& 31).toUInt32).toInt32) &&& (255 : Int32))) (hb w at_90) rfl rfl ?_
 refine P.i2c X0 hx 92 (z := (((p2.toUInt32 >>> ((8 : Int32) &&& 31).toUInt32).toInt32) &&& (255 : Int32))) (hb w at_91) (by rw [i2c_mask]) rfl ?_
 refine P.istore X0 hx 94 #[.val (.int p0), .val (.int p1), .val (.int p2), .val (.int ((p0 &&& (3 : Int32)) % (3 : Int32))), .val (.int (((p0.toUInt32 >>> ((8 : Int32) &&& 31).toUInt32).toInt32) &&& (255 : Int32))), .val (.int (((p0.toUInt32 >>> ((16 : Int32) &&& 31).toUInt32).toInt32) &&& (255 : Int32))), .val (.int ((p1 &&& (3 : Int32)) % (3 : Int32))), .val (.int (((p1.toUInt32 >>> ((8 : Int32) &&& 31).toUInt32).toInt32) &&& (255 : Int32))), .val (.int (((p1.toUInt32 >>> ((16 : Int32) &&& 31).toUInt32).toInt32) &&& (255 : Int32))), .val (.int 0), .val (.int 1), .val (.int (((p2.toUInt32 >>> ((8 : Int32) &&& 31).toUInt32).toInt32) &&& (255 : Int32))), .unset, .unset, .unset, .unset, .unset, .unset, .unset, .unset, .unset] (hb w at_92) rfl rfl ?_
 refine P.iloadN X0 hx 95 (hb w at_94) rfl rfl ?_
 refine P.iload X0 hx 97 (hb w at_95) rfl rfl ?_
 refine P.iload X0 hx 99 (hb w at_97) rfl rfl ?_
 refine X0.callS hx (w0 cx) (w1 cx) (w2 cx) (w3 cx) (by decide) (Ct.pay (W := 0) (ct_str cx ((p0 &&& (3 : Int32)) % (3 : Int32)) (((p0.toUInt32 >>> ((8 : Int32) &&& 31).toUInt32).toInt32) &&& (255 : Int32)) (((p0.toUInt32 >>> ((16 : Int32) &&& 31).toUInt32).toInt32) &&& (255 : Int32)) h _ _ (r3 _) (rng255 _) (rng255 _)) (w3 cx) (w2 cx) (nle rfl) (nle rfl)) (by rw [hml]; rfl) (argsL := [.int ((p0 &&& (3 : Int32)) % (3 : Int32)), .int (((p0.toUInt32 >>> ((8 : Int32) &&& 31).toUInt32).toInt32) &&& (255 : Int32)), .int (((p0.toUInt32 >>> ((16 : Int32) &&& 31).toUInt32).toInt32) &&& (255 : Int32))]) (rest := []) (lenOf pd34 rfl) rfl rfl (nle rfl) (hb w at_99) (nle rfl) (nle rfl) ?_
 rintro T1 h1 _ _ _ X1 ⟨a2, a3, x4, rfl, rfl, rfl, J1, g7, G5, G6⟩
 have ge8 := Nat.le_trans K0.1 g7
 have K9 := K0.trans J1 all0
 have X10 := WS.drop (A := []) (B := WL) X1
 obtain ⟨eT, lT⟩ := strL G6
 refine P.astore X10 hx 104 #[.val (.int p0), .val (.int p1), .val (.int p2), .val (.int ((p0 &&& (3 : Int32)) % (3 : Int32))), .val (.int (((p0.toUInt32 >>> ((8 : Int32) &&& 31).toUInt32).toInt32) &&& (255 : Int32))), .val (.int (((p0.toUInt32 >>> ((16 : Int32) &&& 31).toUInt32).toInt32) &&& (255 : Int32))), .val (.int ((p1 &&& (3 : Int32)) % (3 : Int32))), .val (.int (((p1.toUInt32 >>> ((8 : Int32) &&& 31).toUInt32).toInt32) &&& (255 : Int32))), .val (.int (((p1.toUInt32 >>> ((16 : Int32) &&& 31).toUInt32).toInt32) &&& (255 : Int32))), .val (.int 0), .val (.int 1), .val (.int (((p2.toUInt32 >>> ((8 : Int32) &&& 31).toUInt32).toInt32) &&& (255 : Int32))), .val (.ref a2), .unset, .unset, .unset, .unset, .unset, .unset, .unset, .unset] (hb w at_102) rfl rfl rfl ?_
 refine P.iload X10 hx 106 (hb w at_104) rfl rfl ?_
 refine P.iload X10 hx 108 (hb w at_106) rfl rfl ?_
 refine P.iload X10 hx 110 (hb w at_108) rfl rfl ?_
 refine X10.callS hx (w0 cx) (w1 cx) (w2 cx) (w3 cx) (by decide) (Ct.pay (W := 0) (ct_str cx ((p1 &&& (3 : Int32)) % (3 : Int32)) (((p1.toUInt32 >>> ((8 : Int32) &&& 31).toUInt32).toInt32) &&& (255 : Int32)) (((p1.toUInt32 >>> ((16 : Int32) &&& 31).toUInt32).toInt32) &&& (255 : Int32)) h1 _ _ (r3 _) (rng255 _) (rng255 _)) (w3 cx) (w2 cx) (nle rfl) (nle rfl)) (by rw [hml]; rfl) (argsL := [.int ((p1 &&& (3 : Int32)) % (3 : Int32)), .int (((p1.toUInt32 >>> ((8 : Int32) &&& 31).toUInt32).toInt32) &&& (255 : Int32)), .int (((p1.toUInt32 >>> ((16 : Int32) &&& 31).toUInt32).toInt32) &&& (255 : Int32))]) (rest := []) (lenOf pd34 rfl) rfl rfl (nle rfl) (hb w at_110) (nle rfl) (nle rfl) ?_
 rintro T11 h11 _ _ _ X11 ⟨a12, a13, x14, rfl, rfl, rfl, J11, g17, G15, G16⟩
 have ge18 := Nat.le_trans K9.1 g17
 have K19 := K9.trans J11 all0
 have X20 := WS.drop (A := []) (B := WL) X11
 obtain ⟨eC, lC⟩ := strL G16
 refine P.astore X20 hx 115 #[.val (.int p0), .val (.int p1), .val (.int p2), .val (.int ((p0 &&& (3 : Int32)) % (3 : Int32))), .val (.int (((p0.toUInt32 >>> ((8 : Int32) &&& 31).toUInt32).toInt32) &&& (255 : Int32))), .val (.int (((p0.toUInt32 >>> ((16 : Int32) &&& 31).toUInt32).toInt32) &&& (255 : Int32))), .val (.int ((p1 &&& (3 : Int32)) % (3 : Int32))), .val (.int (((p1.toUInt32 >>> ((8 : Int32) &&& 31).toUInt32).toInt32) &&& (255 : Int32))), .val (.int (((p1.toUInt32 >>> ((16 : Int32) &&& 31).toUInt32).toInt32) &&& (255 : Int32))), .val (.int 0), .val (.int 1), .val (.int (((p2.toUInt32 >>> ((8 : Int32) &&& 31).toUInt32).toInt32) &&& (255 : Int32))), .val (.ref a2), .val (.ref a12), .unset, .unset, .unset, .unset, .unset, .unset, .unset] (hb w at_113) rfl rfl rfl ?_
 refine P.iload X20 hx 117 (hb w at_115) rfl rfl ?_
 refine P.ifYes X20 hx 140 (hb w at_117) (by decide) (by decide) (by decide) ?_
 refine X20.newO hx (w26 cx) (w27 cx) (w28 cx) (hb w at_140) (nle rfl) (nle rfl) ?_
 intro T21 h21 a21 X21 E21 g21 A21 D21
 have ge22 := Nat.le_trans K19.1 g21
 have K23 := K19.ext E21
 have D24 : Fld Z h21 a21 "com/example/estate4/estate4/jdbc/SelectText" "columns" "Ljava/util/List;" .null := D21 (Or.inr (w68 cx)) (ty := (.object "java/util/List")) (by decide)
 have D25 : Fld Z h21 a21 "com/example/estate4/estate4/jdbc/SelectText" "tableColumns" "Ljava/util/List;" .null := D21 (Or.inr (w70 cx)) (ty := (.object "java/util/List")) (by decide)
 have D26 : Fld Z h21 a21 "com/example/estate4/estate4/jdbc/SelectText" "grouping" "Ljava/util/List;" .null := D21 (Or.inr (w72 cx)) (ty := (.object "java/util/List")) (by decide)
 have D27 : Fld Z h21 a21 "com/example/estate4/estate4/jdbc/SelectText" "from" "Ljava/lang/StringBuilder;" .null := D21 (Or.inr (w92 cx)) (ty := (.object "java/lang/StringBuilder")) (by decide)
 have D28 : Fld Z h21 a21 "com/example/estate4/estate4/jdbc/SelectText" "aliases" "Lcom/example/estate4/estate4/jdbc/SelectText$Aliases;" .null := D21 (Or.inr (w94 cx)) (ty := (.object "com/example/estate4/estate4/jdbc/SelectText$Aliases")) (by decide)
 have D29 : Fld Z h21 a21 "com/example/estate4/estate4/jdbc/SelectText" "table" "Ljava/lang/String;" .null := D21 (Or.inr (w96 cx)) (ty := (.object "java/lang/String")) (by decide)
 have D30 : Fld Z h21 a21 "com/example/estate4/estate4/jdbc/SelectText" "first" "Ljava/lang/String;" .null := D21 (Or.inr (w219 cx)) (ty := (.object "java/lang/String")) (by decide)
 have D31 : Fld Z h21 a21 "com/example/estate4/estate4/jdbc/SelectText" "joins" "Z" (.int 0) := D21 (Or.inl (w251 cx)) (ty := .boolean) (by decide)
 refine P.dup X21 hx 144 (hb w at_143) rfl rfl ?_
 refine P.aload X21 hx 146 (hb w at_144) rfl rfl rfl ?_
 have F32 := (G5.keep J11 nin0 nin0).ext E21
 refine X21.callC hx rfl (w29 cx) (w30 cx) (w31 cx) (by decide) (Ct.pay (W := 1) (ct_seli cx a21 a2 a3 x4 h21 _ _ A21 D24 D25 D26 D27 D28 D29 D30 D31 (mg 0 rfl) F32 (mg 2 rfl) (mg 3 rfl) (by omega)) (w31 cx) (w28 cx) (nle rfl) (nle rfl)) (by rw [hml]; rfl) (argsL := [.ref a2]) (rest := [.ref a21]) (lenOf pd2 rfl) rfl rfl (nle rfl) (hb w at_146) (nle rfl) (nle rfl) ?_
 rintro T33 h33 _ _ _ X33 ⟨a34, a35, a36, rfl, rfl, rfl, J33, g43, g44, g45, G37, G38, G39, G40, G41, G42⟩
 have ge46 := Nat.le_trans K23.1 g43
 have ge47 := Nat.le_trans K23.1 g44
 have ge48 := Nat.le_trans K23.1 g45
 have K49 := K23.trans J33 (allS (Or.inr ge22) all0)
 refine P.astore X33 hx 151 #[.val (.int p0), .val (.int p1), .val (.int p2), .val (.int ((p0 &&& (3 : Int32)) % (3 : Int32))), .val (.int (((p0.toUInt32 >>> ((8 : Int32) &&& 31).toUInt32).toInt32) &&& (255 : Int32))), .val (.int (((p0.toUInt32 >>> ((16 : Int32) &&& 31).toUInt32).toInt32) &&& (255 : Int32))), .val (.int ((p1 &&& (3 : Int32)) % (3 : Int32))), .val (.int (((p1.toUInt32 >>> ((8 : Int32) &&& 31).toUInt32).toInt32) &&& (255 : Int32))), .val (.int (((p1.toUInt32 >>> ((16 : Int32) &&& 31).toUInt32).toInt32) &&& (255 : Int32))), .val (.int 0), .val (.int 1), .val (.int (((p2.toUInt32 >>> ((8 : Int32) &&& 31).toUInt32).toInt32) &&& (255 : Int32))), .val (.ref a2), .val (.ref a12), .val (.ref a21), .unset, .unset, .unset, .unset, .unset, .unset] (hb w at_149) rfl rfl rfl ?_
 refine P.iload X33 hx 153 (hb w at_151) rfl rfl ?_
 refine P.ifYes X33 hx 161 (hb w at_153) (by decide) (by decide) (by decide) ?_
 refine P.bipush X33 hx 163 48 (hb w at_161) rfl rfl ?_
 refine P.istore X33 hx 165 #[.val (.int p0), .val (.int p1), .val (.int p2), .val (.int ((p0 &&& (3 : Int32)) % (3 : Int32))), .val (.int (((p0.toUInt32 >>> ((8 : Int32) &&& 31).toUInt32).toInt32) &&& (255 : Int32))), .val (.int (((p0.toUInt32 >>> ((16 : Int32) &&& 31).toUInt32).toInt32) &&& (255 : Int32))), .val (.int ((p1 &&& (3 : Int32)) % (3 : Int32))), .val (.int (((p1.toUInt32 >>> ((8 : Int32) &&& 31).toUInt32).toInt32) &&& (255 : Int32))), .val (.int (((p1.toUInt32 >>> ((16 : Int32) &&& 31).toUInt32).toInt32) &&& (255 : Int32))), .val (.int 0), .val (.int 1), .val (.int (((p2.toUInt32 >>> ((8 : Int32) &&& 31).toUInt32).toInt32) &&& (255 : Int32))), .val (.ref a2), .val (.ref a12), .val (.ref a21), .val (.int 48), .unset, .unset, .unset, .unset, .unset] (hb w at_163) rfl rfl ?_
 refine P.iload X33 hx 167 (hb w at_165) rfl rfl ?_
 refine P.ifYes X33 hx 175 (hb w at_167) (by decide) (by decide) (by decide) ?_
 refine P.bipush X33 hx 177 49 (hb w at_175) rfl rfl ?_
 refine P.istore X33 hx 179 #[.val (.int p0), .val (.int p1), .val (.int p2), .val (.int ((p0 &&& (3 : Int32)) % (3 : Int32))), .val (.int (((p0.toUInt32 >>> ((8 : Int32) &&& 31).toUInt32).toInt32) &&& (255 : Int32))), .val (.int (((p0.toUInt32 >>> ((16 : Int32) &&& 31).toUInt32).toInt32) &&& (255 : Int32))), .val (.int ((p1 &&& (3 : Int32)) % (3 : Int32))), .val (.int (((p1.toUInt32 >>> ((8 : Int32) &&& 31).toUInt32).toInt32) &&& (255 : Int32))), .val (.int (((p1.toUInt32 >>> ((16 : Int32) &&& 31).toUInt32).toInt32) &&& (255 : Int32))), .val (.int 0), .val (.int 1), .val (.int (((p2.toUInt32 >>> ((8 : Int32) &&& 31).toUInt32).toInt32) &&& (255 : Int32))), .val (.ref a2), .val (.ref a12), .val (.ref a21), .val (.int 48), .val (.int 49), .unset, .unset, .unset, .unset] (hb w at_177) rfl rfl ?_
 refine P.iload X33 hx 181 (hb w at_179) rfl rfl ?_
 refine P.ifNo X33 hx 184 (hb w at_181) (by decide) rfl ?_
 refine P.aload X33 hx 186 (hb w at_184) rfl rfl rfl ?_
 refine P.iload X33 hx 188 (hb w at_186) rfl rfl ?_
 refine X33.callS hx (w234 cx) (w235 cx) (w6 cx) (w236 cx) (by decide) (Ct.pay (W := 1) (ct_valC cx (((p2.toUInt32 >>> ((8 : Int32) &&& 31).toUInt32).toInt32) &&& (255 : Int32)) h33 _ _ (rng255 _)) (w236 cx) (w6 cx) (nle rfl) (nle rfl)) (by rw [hml]; rfl) (argsL := [.int (((p2.toUInt32 >>> ((8 : Int32) &&& 31).toUInt32).toInt32) &&& (255 : Int32))]) (rest := [.ref a21]) (lenOf pd36 rfl) rfl rfl (nle rfl) (hb w at_188) (nle rfl) (nle rfl) ?_
 rintro T50 h50 _ _ _ X50 ⟨a51, a52, rfl, rfl, rfl, J50, g54, G53⟩
 have ge55 := Nat.le_trans K49.1 g54
 have K56 := K49.trans J50 all0
 have X57 := WS.drop (A := []) (B := (a36 :: a35 :: a34 :: a21 :: WL)) X50
 have F58 := (A21.keep J33).keep J50
 have F59 := G37.keep J50 nin0
 have F60 := G40.keep J50 nin0 nin0
 have F61 := G38.keep J50 nin0
 have F62 := G42.keep J50 nin0
 have F63 := G39.keep J50 nin0
 have F64 := G41.keep J50
 refine X57.callV hx (w245 cx) (w246 cx) (w248 cx) (w247 cx) (fun _ hZ => nf hZ (w248 cx)) (by decide) F58 (Ct.pay (W := 0) (ct_cj cx (1 : Int32) (2 : Int32) (49 : Int32) a21 a34 a35 a36 ((([] ++ x4) ++ [(32 : Int32)]) ++ [(116 : Int32), 48]) a51 a52 ([(((p2.toUInt32 >>> ((8 : Int32) &&& 31).toUInt32).toInt32) &&& (255 : Int32))]) h50 _ _ F58 F61 F59 F63 F64 F62 F60 G53 (mg 3 rfl) (mg 2 rfl) (mg 1 rfl) (mg 0 rfl) (mg 0 rfl) (mg 1 rfl) (X57.ne (i := 3) (j := 2) rfl rfl (by decide)) (X57.ne (i := 3) (j := 1) rfl rfl (by decide)) (X57.ne (i := 3) (j := 0) rfl rfl (by decide)) (X57.ne (i := 2) (j := 1) rfl rfl (by decide)) (X57.ne (i := 2) (j := 0) rfl rfl (by decide)) (X57.ne (i := 1) (j := 0) rfl rfl (by decide)) rfl (by simp <;> omega) (by simp <;> omega) (by decide)) (w249 cx) (w28 cx) (nle rfl) (nle rfl)) (by rw [hml]; rfl) (argsL := [.ref a51]) (rest := []) (lenOf pd35 rfl) rfl rfl (nle rfl) (hb w at_191) (nle rfl) (nle rfl) ?_
 rintro T65 h65 _ _ _ X65 ⟨a66, a67, rfl, rfl, rfl, J65, g70, G68, G69⟩
 have ge71 := Nat.le_trans K56.1 g70
 have K72 := K56.trans J65 (allS (Or.inr ge22) (allS (Or.inr ge48) (allS (Or.inr ge47) (allS (Or.inr ge46) all0))))
 refine P.pop X65 hx 195 (hb w at_194) rfl rfl ?_
 refine P.aload X65 hx 197 (hb w at_195) rfl rfl rfl ?_
 refine P.aload X65 hx 199 (hb w at_197) rfl rfl rfl ?_
 have F73 := F58.keep J65
 have F74 := (((G15.ext E21).keep J33 (ninS (X65.neF (mg 2 rfl) (mg 4 rfl)) nin0) (ninS (X65.neF (mg 3 rfl) (mg 4 rfl)) nin0)).keep J50 nin0 nin0).keep J65 (ninS (X65.neF (mg 2 rfl) (mg 4 rfl)) (ninS (X65.neF (mg 2 rfl) (mg 3 rfl)) (ninS (X65.neF (mg 2 rfl) (mg 2 rfl)) (ninS (X65.neF (mg 2 rfl) (mg 1 rfl)) nin0)))) (ninS (X65.neF (mg 3 rfl) (mg 4 rfl)) (ninS (X65.neF (mg 3 rfl) (mg 3 rfl)) (ninS (X65.neF (mg 3 rfl) (mg 2 rfl)) (ninS (X65.neF (mg 3 rfl) (mg 1 rfl)) nin0))))
 refine X65.callV hx (w270 cx) (w271 cx) (w273 cx) (w272 cx) (fun _ hZ => nf hZ (w273 cx)) (by decide) F73 (Ct.pay (W := 0) (ct_exi1 cx a21 a35 a67 ((((((([] ++ x4) ++ [(32 : Int32)]) ++ [(116 : Int32), 48]) ++ [(32 : Int32), 99, 114, 111, 115, 115, 32, 106, 111, 105, 110, 32]) ++ [(((p2.toUInt32 >>> ((8 : Int32) &&& 31).toUInt32).toInt32) &&& (255 : Int32))]) ++ [(32 : Int32)]) ++ [(116 : Int32), 49]) a12 a13 x14 h65 _ _ F73 G68 G69 F74 (mg 4 rfl) (mg 2 rfl) (mg 0 rfl) (mg 2 rfl) (mg 3 rfl) lC (by simp <;> omega) (by simp <;> omega)) (w274 cx) (w28 cx) (nle rfl) (nle rfl)) (by rw [hml]; rfl) (argsL := [.ref a12]) (rest := []) (lenOf pd35 rfl) rfl rfl (nle rfl) (hb w at_199) (nle rfl) (nle rfl) ?_
 rintro T75 h75 _ _ _ X75 ⟨a76, a77, rfl, rfl, rfl, J75, g79, G78⟩
 have ge80 := Nat.le_trans K72.1 g79
 have K81 := K72.trans J75 all0
 refine P.astore X75 hx 204 #[.val (.int p0), .val (.int p1), .val (.int p2), .val (.int ((p0 &&& (3 : Int32)) % (3 : Int32))), .val (.int (((p0.toUInt32 >>> ((8 : Int32) &&& 31).toUInt32).toInt32) &&& (255 : Int32))), .val (.int (((p0.toUInt32 >>> ((16 : Int32) &&& 31).toUInt32).toInt32) &&& (255 : Int32))), .val (.int ((p1 &&& (3 : Int32)) % (3 : Int32))), .val (.int (((p1.toUInt32 >>> ((8 : Int32) &&& 31).toUInt32).toInt32) &&& (255 : Int32))), .val (.int (((p1.toUInt32 >>> ((16 : Int32) &&& 31).toUInt32).toInt32) &&& (255 : Int32))), .val (.int 0), .val (.int 1), .val (.int (((p2.toUInt32 >>> ((8 : Int32) &&& 31).toUInt32).toInt32) &&& (255 : Int32))), .val (.ref a2), .val (.ref a12), .val (.ref a21), .val (.int 48), .val (.int 49), .val (.ref a76), .unset, .unset, .unset] (hb w at_202) rfl rfl rfl ?_
 have X82 := WS.drop (A := []) (B := (a67 :: a36 :: a35 :: a34 :: a21 :: WL)) X75
 have X83 := WS.drop (A := []) (B := (a36 :: a35 :: a34 :: a21 :: WL)) X82
 have X84 := WS.drop (A := []) (B := (a35 :: a34 :: a21 :: WL)) X83
 have X85 := WS.drop (A := []) (B := (a34 :: a21 :: WL)) X84
 have X86 := WS.drop (A := []) (B := (a21 :: WL)) X85
 have X87 := WS.drop (A := []) (B := WL) X86
 have X88 := WS.fl (FL2 := (a76 :: a77 :: FL)) X87 (fun y hy => (List.mem_cons.mp hy).elim (fun q => q ▸ (mg 5 rfl)) (fun q0 => (List.mem_cons.mp q0).elim (fun q => q ▸ (mg 6 rfl)) (fun q1 => (List.mem_append_right [a21, a34, a35, a36, a67, a76, a77, a51, a52, a12, a13, a2, a3] q1))))
 exact mid_law1 cx p0 p1 p2 ((p0 &&& (3 : Int32)) % (3 : Int32)) (((p0.toUInt32 >>> ((8 : Int32) &&& 31).toUInt32).toInt32) &&& (255 : Int32)) (((p0.toUInt32 >>> ((16 : Int32) &&& 31).toUInt32).toInt32) &&& (255 : Int32)) ((p1 &&& (3 : Int32)) % (3 : Int32)) (((p1.toUInt32 >>> ((8 : Int32) &&& 31).toUInt32).toInt32) &&& (255 : Int32)) (((p1.toUInt32 >>> ((16 : Int32) &&& 31).toUInt32).toInt32) &&& (255 : Int32)) (0 : Int32) (((p2.toUInt32 >>> ((8 : Int32) &&& 31).toUInt32).toInt32) &&& (255 : Int32)) (48 : Int32) (49 : Int32) (.ref a2) (.ref a12) (.ref a21) a76 a77 x4 x14 ((((([] ++ [(101 : Int32), 120, 105, 115, 116, 115, 32, 40, 115, 101, 108, 101, 99, 116, 32, 49, 32, 102, 114, 111, 109, 32]) ++ ((((((([] ++ x4) ++ [(32 : Int32)]) ++ [(116 : Int32), 48]) ++ [(32 : Int32), 99, 114, 111, 115, 115, 32, 106, 111, 105, 110, 32]) ++ [(((p2.toUInt32 >>> ((8 : Int32) &&& 31).toUInt32).toInt32) &&& (255 : Int32))]) ++ [(32 : Int32)]) ++ [(116 : Int32), 49])) ++ [(32 : Int32), 119, 104, 101, 114, 101, 32]) ++ x14) ++ [(41 : Int32)]) hx w hml hnm hret hlk (WS.mono X88 (nle rfl) (nle rfl)) K81 G78 G6 G16 (rng255 _) (rng255 _) (rng255 _) (rng255 _) (rng255 _) (by decide) (by decide) F32.2.2.2.2.1 F74.2.2.2.2.1 (by simp)
theorem ct_law_10 (cx : Cx a0 Z gC gF v_AL v_DO k_DO) (p0 : Int32) (p1 : Int32) (p2 : Int32) (h : Heap) (WL FL : List Addr)  (es : ¬ (p2 &&& (1 : Int32)) = (0 : Int32)) (ec : (p2 &&& (2 : Int32)) = (0 : Int32)) :
   Ct l Z EL1 n0 x code maxLocals ret room_1 #[(.int p0), (.int p1), (.int p2)] h WL FL (Q_law Z p0 p1 p2 h) := by
 refine Ct.of (plainFor_of_name pn12) ?_
 intro p e s m below meth c s1 hx w hml hnm hret hlk X0
 refine Wo.cast (f' := (mkF m 0 #[.val (.int p0), .val (.int p1), .val (.int p2), .unset, .unset, .unset, .unset, .unset, .unset, .unset, .unset, .unset, .unset, .unset, .unset, .unset, .unset, .unset, .unset, .unset, .unset] [])) (by first | (simp [entryFrame, mkF, argsToLocals, Value.category, maxLocals]; done) | rfl) ?_
 have K0 : Keep h h [] := Keep.refl _ _
 show Wo _ _ _ _ _ _ _ _ _ _ _ s1 (mkF m 0 #[.val (.int p0), .val (.int p1), .val (.int p2), .unset, .unset, .unset, .unset, .unset, .unset, .unset, .unset, .unset, .unset, .unset, .unset, .unset, .unset, .unset, .unset, .unset, .unset] [])
 refine P.iloadN X0 hx 1 (hb w at_0) rfl rfl ?_
 refine P.iconst X0 hx 2 3 (hb w at_1) rfl rfl ?_
 refine P.iand X0 hx 3 (z := (p0 &&& (3 : Int32))) (hb w at_2) rfl rfl ?_
 refine P.iconst X0 hx 4 3 (hb w at_3) rfl rfl ?_
 refine P.irem X0 hx 5 (z := ((p0 &&& (3 : Int32)) % (3 : Int32))) (hb w at_4) (by decide) rfl rfl ?_
 refine P.istoreN X0 hx 6 #[.val (.int p0), .val (.int p1), .val (.int p2), .val (.int ((p0 &&& (3 : Int32)) % (3 : Int32))), .unset, .unset, .unset, .unset, .unset, .unset, .unset, .unset, .unset, .unset, .unset, .unset, .unset, .unset, .unset, .unset, .unset] (hb w at_5) rfl rfl ?_
 refine P.iloadN X0 hx 7 (hb w at_6) rfl rfl ?_
 refine P.bipush X0 hx 9 8 (hb w at_7) rfl rfl ?_
 refine P.iushr X0 hx 10 (z := ((p0.toUInt32 >>> ((8 : Int32) &&& 31).toUInt32).toInt32)) (hb w at_9) rfl rfl ?_
 refine P.sipush X0 hx 13 255 (hb w at_10) rfl rfl ?_
 refine P.iand X0 hx 14 (z := (((p0.toUInt32 >>> ((8 : Int32) &&& 31).toUInt32).toInt32) &&& (255 : Int32))) (hb w at_13) rfl rfl ?_
 refine P.i2c X0 hx 15 (z := (((p0.toUInt32 >>> ((8 : Int32) &&& 31).toUInt32).toInt32) &&& (255 : Int32))) (hb w at_14) (by rw [i2c_mask]) rfl ?_
 refine P.istore X0 hx 17 #[.val (.int p0), .val (.int p1), .val (.int p2), .val (.int ((p0 &&& (3 : Int32)) % (3 : Int32))), .val (.int (((p0.toUInt32 >>> ((8 : Int32) &&& 31).toUInt32).toInt32) &&& (255 : Int32))), .unset, .unset, .unset, .unset, .unset, .unset, .unset, .unset, .unset, .unset, .unset, .unset, .unset, .unset, .unset, .unset] (hb w at_15) rfl rfl ?_
 refine P.iloadN X0 hx 18 (hb w at_17) rfl rfl ?_
 refine P.bipush X0 hx 20 16 (hb w at_18) rfl rfl ?_
 refine P.iushr X0 hx 21 (z := ((p0.toUInt32 >>> ((16 : Int32) &&& 31).toUInt32).toInt32)) (hb w at_20) rfl rfl ?_
 refine P.sipush X0 hx 24 255 (hb w at_21) rfl rfl ?_
 refine P.iand X0 hx 25 (z := (((p0.toUInt32 >>> ((16 : Int32) &&& 31).toUInt32).toInt32) &&& (255 : Int32))) (hb w at_24) rfl rfl ?_
 refine P.i2c X0 hx 26 (z := (((p0.toUInt32 >>> ((16 : Int32) &&& 31).toUInt32).toInt32) &&& (255 : Int32))) (hb w at_25) (by rw [i2c_mask]) rfl ?_
 refine P.istore X0 hx 28 #[.val (.int p0), .val (.int p1), .val (.int p2), .val (.int ((p0 &&& (3 : Int32)) % (3 : Int32))), .val (.int (((p0.toUInt32 >>> ((8 : Int32) &&& 31).toUInt32).toInt32) &&& (255 : Int32))), .val (.int (((p0.toUInt32 >>> ((16 : Int32) &&& 31).toUInt32).toInt32) &&& (255 : Int32))), .unset, .unset, .unset, .unset, .unset, .unset, .unset, .unset, .unset, .unset, .unset, .unset, .unset, .unset, .unset] (hb w at_26) rfl rfl ?_
 refine P.iloadN X0 hx 29 (hb w at_28) rfl rfl ?_
 refine P.iconst X0 hx 30 3 (hb w at_29) rfl rfl ?_
 refine P.iand X0 hx 31 (z := (p1 &&& (3 : Int32))) (hb w at_30) rfl rfl ?_
 refine P.iconst X0 hx 32 3 (hb w at_31) rfl rfl ?_
 refine P.irem X0 hx 33 (z := ((p1 &&& (3 : Int32)) % (3 : Int32))) (hb w at_32) (by decide) rfl rfl ?_
 refine P.istore X0 hx 35 #[.val (.int p0), .val (.int p1), .val (.int p2), .val (.int ((p0 &&& (3 : Int32)) % (3 : Int32))), .val (.int (((p0.toUInt32 >>> ((8 : Int32) &&& 31).toUInt32).toInt32) &&& (255 : Int32))), .val (.int (((p0.toUInt32 >>> ((16 : Int32) &&& 31).toUInt32).toInt32) &&& (255 : Int32))), .val (.int ((p1 &&& (3 : Int32)) % (3 : Int32))), .unset, .unset, .unset, .unset, .unset, .unset, .unset, .unset, .unset, .unset, .unset, .unset, .unset, .unset] (hb w at_33) rfl rfl ?_
 refine P.iloadN X0 hx 36 (hb w at_35) rfl rfl ?_
 refine P.bipush X0 hx 38 8 (hb w at_36) rfl rfl ?_
 refine P.iushr X0 hx 39 (z := ((p1.toUInt32 >>> ((8 : Int32) &&& 31).toUInt32).toInt32)) (hb w at_38) rfl rfl ?_
 refine P.sipush X0 hx 42 255 (hb w at_39) rfl rfl ?_
 refine P.iand X0 hx 43 (z := (((p1.toUInt32 >>> ((8 : Int32) &&& 31).toUInt32).toInt32) &&& (255 : Int32))) (hb w at_42) rfl rfl ?_
 refine P.i2c X0 hx 44 (z := (((p1.toUInt32 >>> ((8 : Int32) &&& 31).toUInt32).toInt32) &&& (255 : Int32))) (hb w at_43) (by rw [i2c_mask]) rfl ?_
 refine P.istore X0 hx 46 #[.val (.int p0), .val (.int p1), .val (.int p2), .val (.int ((p0 &&& (3 : Int32)) % (3 : Int32))), .val (.int (((p0.toUInt32 >>> ((8 : Int32) &&& 31).toUInt32).toInt32) &&& (255 : Int32))), .val (.int (((p0.toUInt32 >>> ((16 : Int32) &&& 31).toUInt32).toInt32) &&& (255 : Int32))), .val (.int ((p1 &&& (3 : Int32)) % (3 : Int32))), .val (.int (((p1.toUInt32 >>> ((8 : Int32) &&& 31).toUInt32).toInt32) &&& (255 : Int32))), .unset, .unset, .unset, .unset, .unset, .unset, .unset, .unset, .unset, .unset, .unset, .unset, .unset] (hb w at_44) rfl rfl ?_
 refine P.iloadN X0 hx 47 (hb w at_46) rfl rfl ?_
 refine P.bipush X0 hx 49 16 (hb w at_47) rfl rfl ?_
 refine P.iushr X0 hx 50 (z := ((p1.toUInt32 >>> ((16 : Int32) &&& 31).toUInt32).toInt32)) (hb w at_49) rfl rfl ?_
 refine P.sipush X0 hx 53 255 (hb w at_50) rfl rfl ?_
 refine P.iand X0 hx 54 (z := (((p1.toUInt32 >>> ((16 : Int32) &&& 31).toUInt32).toInt32) &&& (255 : Int32))) (hb w at_53) rfl rfl ?_
 refine P.i2c X0 hx 55 (z := (((p1.toUInt32 >>> ((16 : Int32) &&& 31).toUInt32).toInt32) &&& (255 : Int32))) (hb w at_54) (by rw [i2c_mask]) rfl ?_
 refine P.istore X0 hx 57 #[.val (.int p0), .val (.int p1), .val (.int p2), .val (.int ((p0 &&& (3 : Int32)) % (3 : Int32))), .val (.int (((p0.toUInt32 >>> ((8 : Int32) &&& 31).toUInt32).toInt32) &&& (255 : Int32))), .val (.int (((p0.toUInt32 >>> ((16 : Int32) &&& 31).toUInt32).toInt32) &&& (255 : Int32))), .val (.int ((p1 &&& (3 : Int32)) % (3 : Int32))), .val (.int (((p1.toUInt32 >>> ((8 : Int32) &&& 31).toUInt32).toInt32) &&& (255 : Int32))), .val (.int (((p1.toUInt32 >>> ((16 : Int32) &&& 31).toUInt32).toInt32) &&& (255 : Int32))), .unset, .unset, .unset, .unset, .unset, .unset, .unset, .unset, .unset, .unset, .unset, .unset] (hb w at_55) rfl rfl ?_
 refine P.iloadN X0 hx 58 (hb w at_57) rfl rfl ?_
 refine P.iconst X0 hx 59 1 (hb w at_58) rfl rfl ?_
 refine P.iand X0 hx 60 (z := (p2 &&& (1 : Int32))) (hb w at_59) rfl rfl ?_
 refine P.ifNo X0 hx 63 (hb w at_60) ((if0 _ _).trans (feq es).1) rfl ?_
 refine P.iconst X0 hx 64 1 (hb w at_63) rfl rfl ?_
 refine P.goto X0 hx 68 (hb w at_64) (by decide) (by decide) ?_
 refine P.istore X0 hx 70 #[.val (.int p0), .val (.int p1), .val (.int p2), .val (.int ((p0 &&& (3 : Int32)) % (3 : Int32))), .val (.int (((p0.toUInt32 >>> ((8 : Int32) &&& 31).toUInt32).toInt32) &&& (255 : Int32))), .val (.int (((p0.toUInt32 >>> ((16 : Int32) &&& 31).toUInt32).toInt32) &&& (255 : Int32))), .val (.int ((p1 &&& (3 : Int32)) % (3 : Int32))), .val (.int (((p1.toUInt32 >>> ((8 : Int32) &&& 31).toUInt32).toInt32) &&& (255 : Int32))), .val (.int (((p1.toUInt32 >>> ((16 : Int32) &&& 31).toUInt32).toInt32) &&& (255 : Int32))), .val (.int 1), .unset, .unset, .unset, .unset, .unset, .unset, .unset, .unset, .unset, .unset, .unset] (hb w at_68) rfl rfl ?_
 refine P.iloadN X0 hx 71 (hb w at_70) rfl rfl ?_
 refine P.iconst X0 hx 72 2 (hb w at_71) rfl rfl ?_
 refine P.iand X0 hx 73 (z := (p2 &&& (2 : Int32))) (hb w at_72) rfl rfl ?_
 refine P.ifYes X0 hx 80 (hb w at_73) ((if0 _ _).trans (teq ec).1) (by decide) (by decide) ?_
 refine P.iconst X0 hx 81 0 (hb w at_80) rfl rfl ?_
 refine P.istore X0 hx 83 #[.val (.int p0), .val (.int p1), .val (.int p2), .val (.int ((p0 &&& (3 : Int32)) % (3 : Int32))), .val (.int (((p0.toUInt32 >>> ((8 : Int32) &&& 31).toUInt32).toInt32) &&& (255 : Int32))), .val (.int (((p0.toUInt32 >>> ((16 : Int32) &&& 31).toUInt32).toInt32) &&& (255 : Int32))), .val (.int ((p1 &&& (3 : Int32)) % (3 : Int32))), .val (.int (((p1.toUInt32 >>> ((8 : Int32) &&& 31).toUInt32).toInt32) &&& (255 : Int32))), .val (.int (((p1.toUInt32 >>> ((16 : Int32) &&& 31).toUInt32).toInt32) &&& (255 : Int32))), .val (.int 1), .val (.int 0), .unset, .unset, .unset, .unset, .unset, .unset, .unset, .unset, .unset, .unset] (hb w at_81) rfl rfl ?_
 refine P.iloadN X0 hx 84 (hb w at_83) rfl rfl ?_
 refine P.bipush X0 hx 86 8 (hb w at_84) rfl rfl ?_
 refine P.iushr X0 hx 87 (z := ((p2.toUInt32 >>> ((8 : Int32) &&& 31).toUInt32).toInt32)) (hb w at_86) rfl rfl ?_
 refine P.sipush X0 hx 90 255 (hb w at_87) rfl rfl ?_
 refine P.iand X0 hx 91 (z := (((p2.toUInt32 >>> ((8 : Int32) &&& 31).toUInt32).toInt32) &&& (255 : Int32))) (hb w at_90) rfl rfl ?_
 refine P.i2c X0 hx 92 (z := (((p2.toUInt32 >>> ((8 : Int32) &&& 31).toUInt32).toInt32) &&& (255 : Int32))) (hb w at_91) (by rw [i2c_mask]) rfl ?_
 refine P.istore X0 hx 94 #[.val (.int p0), .val (.int p1), .val (.int p2), .val (.int ((p0 &&& (3 : Int32)) % (3 : Int32))), .val (.int (((p0.toUInt32 >>> ((8 : Int32) &&& 31).toUInt32).toInt32) &&& (255 : Int32))), .val (.int (((p0.toUInt32 >>> ((16 : Int32) &&& 31).toUInt32).toInt32) &&& (255 : Int32))), .val (.int ((p1 &&& (3 : Int32)) % (3 : Int32))), .val (.int (((p1.toUInt32 >>> ((8 : Int32) &&& 31).toUInt32).toInt32) &&& (255 : Int32))), .val (.int (((p1.toUInt32 >>> ((16 : Int32) &&& 31).toUInt32).toInt32) &&& (255 : Int32))), .val (.int 1), .val (.int 0), .val (.int (((p2.toUInt32 >>> ((8 : Int32) &&& 31).toUInt32).toInt32) &&& (255 : Int32))), .unset, .unset, .unset, .unset, .unset, .unset, .unset, .unset, .unset] (hb w at_92) rfl rfl ?_
 refine P.iloadN X0 hx 95 (hb w at_94) rfl rfl ?_
 refine P.iload X0 hx 97 (hb w at_95) rfl rfl ?_
 refine P.iload X0 hx 99 (hb w at_97) rfl rfl ?_
 refine X0.callS hx (w0 cx) (w1 cx) (w2 cx) (w3 cx) (by decide) (Ct.pay (W := 0) (ct_str cx ((p0 &&& (3 : Int32)) % (3 : Int32)) (((p0.toUInt32 >>> ((8 : Int32) &&& 31).toUInt32).toInt32) &&& (255 : Int32)) (((p0.toUInt32 >>> ((16 : Int32) &&& 31).toUInt32).toInt32) &&& (255 : Int32)) h _ _ (r3 _) (rng255 _) (rng255 _)) (w3 cx) (w2 cx) (nle rfl) (nle rfl)) (by rw [hml]; rfl) (argsL := [.int ((p0 &&& (3 : Int32)) % (3 : Int32)), .int (((p0.toUInt32 >>> ((8 : Int32) &&& 31).toUInt32).toInt32) &&& (255 : Int32)), .int (((p0.toUInt32 >>> ((16 : Int32) &&& 31).toUInt32).toInt32) &&& (255 : Int32))]) (rest := []) (lenOf pd34 rfl) rfl rfl (nle rfl) (hb w at_99) (nle rfl) (nle rfl) ?_
 rintro T1 h1 _ _ _ X1 ⟨a2, a3, x4, rfl, rfl, rfl, J1, g7, G5, G6⟩
 have ge8 := Nat.le_trans K0.1 g7
 have K9 := K0.trans J1 all0
 have X10 := WS.drop (A := []) (B := WL) X1
 obtain ⟨eT, lT⟩ := strL G6
 refine P.astore X10 hx 104 #[.val (.int p0), .val (.int p1), .val (.int p2), .val (.int ((p0 &&& (3 : Int32)) % (3 : Int32))), .val (.int (((p0.toUInt32 >>> ((8 : Int32) &&& 31).toUInt32).toInt32) &&& (255 : Int32))), .val (.int (((p0.toUInt32 >>> ((16 : Int32) &&& 31).toUInt32).toInt32) &&& (255 : Int32))), .val (.int ((p1 &&& (3 : Int32)) % (3 : Int32))), .val (.int (((p1.toUInt32 >>> ((8 : Int32) &&& 31).toUInt32).toInt32) &&& (255 : Int32))), .val (.int (((p1.toUInt32 >>> ((16 : Int32) &&& 31).toUInt32).toInt32) &&& (255 : Int32))), .val (.int 1), .val (.int 0), .val (.int (((p2.toUInt32 >>> ((8 : Int32) &&& 31).toUInt32).toInt32) &&& (255 : Int32))), .val (.ref a2), .unset, .unset, .unset, .unset, .unset, .unset, .unset, .unset] (hb w at_102) rfl rfl rfl ?_
 refine P.iload X10 hx 106 (hb w at_104) rfl rfl ?_
 refine P.iload X10 hx 108 (hb w at_106) rfl rfl ?_
 refine P.iload X10 hx 110 (hb w at_108) rfl rfl ?_
 refine X10.callS hx (w0 cx) (w1 cx) (w2 cx) (w3 cx) (by decide) (Ct.pay (W := 0) (ct_str cx ((p1 &&& (3 : Int32)) % (3 : Int32)) (((p1.toUInt32 >>> ((8 : Int32) &&& 31).toUInt32).toInt32) &&& (255 : Int32)) (((p1.toUInt32 >>> ((16 : Int32) &&& 31).toUInt32).toInt32) &&& (255 : Int32)) h1 _ _ (r3 _) (rng255 _) (rng255 _)) (w3 cx) (w2 cx) (nle rfl) (nle rfl)) (by rw [hml]; rfl) (argsL := [.int ((p1 &&& (3 : Int32)) % (3 : Int32)), .int (((p1.toUInt32 >>> ((8 : Int32) &&& 31).toUInt32).toInt32) &&& (255 : Int32)), .int (((p1.toUInt32 >>> ((16 : Int32) &&& 31).toUInt32).toInt32) &&& (255 : Int32))]) (rest := []) (lenOf pd34 rfl) rfl rfl (nle rfl) (hb w at_110) (nle rfl) (nle rfl) ?_
 rintro T11 h11 _ _ _ X11 ⟨a12, a13, x14, rfl, rfl, rfl, J11, g17, G15, G16⟩
 have ge18 := Nat.le_trans K9.1 g17
 have K19 := K9.trans J11 all0
 have X20 := WS.drop (A := []) (B := WL) X11
 obtain ⟨eC, lC⟩ := strL G16
 refine P.astore X20 hx 115 #[.val (.int p0), .val (.int p1), .val (.int p2), .val (.int ((p0 &&& (3 : Int32)) % (3 : Int32))), .val (.int (((p0.toUInt32 >>> ((8 : Int32) &&& 31).toUInt32).toInt32) &&& (255 : Int32))), .val (.int (((p0.toUInt32 >>> ((16 : Int32) &&& 31).toUInt32).toInt32) &&& (255 : Int32))), .val (.int ((p1 &&& (3 : Int32)) % (3 : Int32))), .val (.int (((p1.toUInt32 >>> ((8 : Int32) &&& 31).toUInt32).toInt32) &&& (255 : Int32))), .val (.int (((p1.toUInt32 >>> ((16 : Int32) &&& 31).toUInt32).toInt32) &&& (255 : Int32))), .val (.int 1), .val (.int 0), .val (.int (((p2.toUInt32 >>> ((8 : Int32) &&& 31).toUInt32).toInt32) &&& (255 : Int32))), .val (.ref a2), .val (.ref a12), .unset, .unset, .unset, .unset, .unset, .unset, .unset] (hb w at_113) rfl rfl rfl ?_
 refine P.iload X20 hx 117 (hb w at_115) rfl rfl ?_
 refine P.ifNo X20 hx 120 (hb w at_117) (by decide) rfl ?_
 refine X20.newO hx (w26 cx) (w27 cx) (w28 cx) (hb w at_120) (nle rfl) (nle rfl) ?_
 intro T21 h21 a21 X21 E21 g21 A21 D21
 have ge22 := Nat.le_trans K19.1 g21
 have K23 := K19.ext E21
 have D24 : Fld Z h21 a21 "com/example/estate4/estate4/jdbc/SelectText" "columns" "Ljava/util/List;" .null := D21 (Or.inr (w68 cx)) (ty := (.object "java/util/List")) (by decide)
 have D25 : Fld Z h21 a21 "com/example/estate4/estate4/jdbc/SelectText" "tableColumns" "Ljava/util/List;" .null := D21 (Or.inr (w70 cx)) (ty := (.object "java/util/List")) (by decide)
 have D26 : Fld Z h21 a21 "com/example/estate4/estate4/jdbc/SelectText" "grouping" "Ljava/util/List;" .null := D21 (Or.inr (w72 cx)) (ty := (.object "java/util/List")) (by decide)
 have D27 : Fld Z h21 a21 "com/example/estate4/estate4/jdbc/SelectText" "from" "Ljava/lang/StringBuilder;" .null := D21 (Or.inr (w92 cx)) (ty := (.object "java/lang/StringBuilder")) (by decide)
 have D28 : Fld Z h21 a21 "com/example/estate4/estate4/jdbc/SelectText" "aliases" "Lcom/example/estate4/estate4/jdbc/SelectText$Aliases;" .null := D21 (Or.inr (w94 cx)) (ty := (.object "com/example/estate4/estate4/jdbc/SelectText$Aliases")) (by decide)
 have D29 : Fld Z h21 a21 "com/example/estate4/estate4/jdbc/SelectText" "table" "Ljava/lang/String;" .null := D21 (Or.inr (w96 cx)) (ty := (.object "java/lang/String")) (by decide)
 have D30 : Fld Z h21 a21 "com/example/estate4/estate4/jdbc/SelectText" "first" "Ljava/lang/String;" .null := D21 (Or.inr (w219 cx)) (ty := (.object "java/lang/String")) (by decide)
 have D31 : Fld Z h21 a21 "com/example/estate4/estate4/jdbc/SelectText" "joins" "Z" (.int 0) := D21 (Or.inl (w251 cx)) (ty := .boolean) (by decide)
 refine P.dup X21 hx 124 (hb w at_123) rfl rfl ?_
 refine P.iload X21 hx 126 (hb w at_124) rfl rfl ?_
 refine X21.callS hx (w234 cx) (w235 cx) (w6 cx) (w236 cx) (by decide) (Ct.pay (W := 2) (ct_valC cx (((p2.toUInt32 >>> ((8 : Int32) &&& 31).toUInt32).toInt32) &&& (255 : Int32)) h21 _ _ (rng255 _)) (w236 cx) (w6 cx) (nle rfl) (nle rfl)) (by rw [hml]; rfl) (argsL := [.int (((p2.toUInt32 >>> ((8 : Int32) &&& 31).toUInt32).toInt32) &&& (255 : Int32))]) (rest := [.ref a21, .ref a21]) (lenOf pd36 rfl) rfl rfl (nle rfl) (hb w at_126) (nle rfl) (nle rfl) ?_
 rintro T32 h32 _ _ _ X32 ⟨a33, a34, rfl, rfl, rfl, J32, g36, G35⟩
 have ge37 := Nat.le_trans K23.1 g36
 have K38 := K23.trans J32 all0
 have X39 := WS.drop (A := []) (B := (a21 :: WL)) X32
 have F40 := A21.keep J32
 have F41 := D24.keep J32 nin0
 have F42 := D25.keep J32 nin0
 have F43 := D26.keep J32 nin0
 have F44 := D27.keep J32 nin0
 have F45 := D28.keep J32 nin0
 have F46 := D29.keep J32 nin0
 have F47 := D30.keep J32 nin0
 have F48 := D31.keep J32 nin0
 refine X39.callC hx rfl (w29 cx) (w30 cx) (w31 cx) (by decide) (Ct.pay (W := 1) (ct_seli cx a21 a33 a34 ([(((p2.toUInt32 >>> ((8 : Int32) &&& 31).toUInt32).toInt32) &&& (255 : Int32))]) h32 _ _ F40 F41 F42 F43 F44 F45 F46 F47 F48 (mg 0 rfl) G35 (mg 0 rfl) (mg 1 rfl) (nle rfl)) (w31 cx) (w28 cx) (nle rfl) (nle rfl)) (by rw [hml]; rfl) (argsL := [.ref a33]) (rest := [.ref a21]) (lenOf pd2 rfl) rfl rfl (nle rfl) (hb w at_129) (nle rfl) (nle rfl) ?_
 rintro T49 h49 _ _ _ X49 ⟨a50, a51, a52, rfl, rfl, rfl, J49, g59, g60, g61, G53, G54, G55, G56, G57, G58⟩
 have ge62 := Nat.le_trans K38.1 g59
 have ge63 := Nat.le_trans K38.1 g60
 have ge64 := Nat.le_trans K38.1 g61
 have K65 := K38.trans J49 (allS (Or.inr ge22) all0)
 refine P.aload X49 hx 134 (hb w at_132) rfl rfl rfl ?_
 have F66 := F40.keep J49
 have F67 := (((G5.keep J11 nin0 nin0).ext E21).keep J32 nin0 nin0).keep J49 (ninS (X49.neF (mg 4 rfl) (mg 3 rfl)) nin0) (ninS (X49.neF (mg 5 rfl) (mg 3 rfl)) nin0)
 refine X49.callV hx (w310 cx) (w311 cx) (w313 cx) (w312 cx) (fun _ hZ => nf hZ (w313 cx)) (by decide) F66 (Ct.pay (W := 0) (ct_subs cx a21 a2 a3 x4 a50 h49 _ _ F66 G54 G57 G58 (mg 2 rfl) F67 (mg 4 rfl) (mg 5 rfl) (by omega)) (w314 cx) (w28 cx) (nle rfl) (nle rfl)) (by rw [hml]; rfl) (argsL := [.ref a2]) (rest := []) (lenOf pd37 rfl) rfl rfl (nle rfl) (hb w at_134) (nle rfl) (nle rfl) ?_
 rintro T68 h68 _ _ _ X68 ⟨a69, a70, a71, rfl, rfl, rfl, J68, g78, g79, g80, G72, G73, G74, G75, G76, G77⟩
 have ge81 := Nat.le_trans K65.1 g78
 have ge82 := Nat.le_trans K65.1 g79
 have ge83 := Nat.le_trans K65.1 g80
 have K84 := K65.trans J68 (allS (Or.inr ge64) all0)
 refine P.goto X68 hx 149 (hb w at_137) (by decide) (by decide) ?_
 refine P.astore X68 hx 151 #[.val (.int p0), .val (.int p1), .val (.int p2), .val (.int ((p0 &&& (3 : Int32)) % (3 : Int32))), .val (.int (((p0.toUInt32 >>> ((8 : Int32) &&& 31).toUInt32).toInt32) &&& (255 : Int32))), .val (.int (((p0.toUInt32 >>> ((16 : Int32) &&& 31).toUInt32).toInt32) &&& (255 : Int32))), .val (.int ((p1 &&& (3 : Int32)) % (3 : Int32))), .val (.int (((p1.toUInt32 >>> ((8 : Int32) &&& 31).toUInt32).toInt32) &&& (255 : Int32))), .val (.int (((p1.toUInt32 >>> ((16 : Int32) &&& 31).toUInt32).toInt32) &&& (255 : Int32))), .val (.int 1), .val (.int 0), .val (.int (((p2.toUInt32 >>> ((8 : Int32) &&& 31).toUInt32).toInt32) &&& (255 : Int32))), .val (.ref a2), .val (.ref a12), .val (.ref a69), .unset, .unset, .unset, .unset, .unset, .unset] (hb w at_149) rfl rfl rfl ?_
 refine P.iload X68 hx 153 (hb w at_151) rfl rfl ?_
 refine P.ifNo X68 hx 156 (hb w at_153) (by decide) rfl ?_
 refine P.bipush X68 hx 158 49 (hb w at_156) rfl rfl ?_
 refine P.goto X68 hx 163 (hb w at_158) (by decide) (by decide) ?_
 refine P.istore X68 hx 165 #[.val (.int p0), .val (.int p1), .val (.int p2), .val (.int ((p0 &&& (3 : Int32)) % (3 : Int32))), .val (.int (((p0.toUInt32 >>> ((8 : Int32) &&& 31).toUInt32).toInt32) &&& (255 : Int32))), .val (.int (((p0.toUInt32 >>> ((16 : Int32) &&& 31).toUInt32).toInt32) &&& (255 : Int32))), .val (.int ((p1 &&& (3 : Int32)) % (3 : Int32))), .val (.int (((p1.toUInt32 >>> ((8 : Int32) &&& 31).toUInt32).toInt32) &&& (255 : Int32))), .val (.int (((p1.toUInt32 >>> ((16 : Int32) &&& 31).toUInt32).toInt32) &&& (255 : Int32))), .val (.int 1), .val (.int 0), .val (.int (((p2.toUInt32 >>> ((8 : Int32) &&& 31).toUInt32).toInt32) &&& (255 : Int32))), .val (.ref a2), .val (.ref a12), .val (.ref a69), .val (.int 49), .unset, .unset, .unset, .unset, .unset] (hb w at_163) rfl rfl ?_
 refine P.iload X68 hx 167 (hb w at_165) rfl rfl ?_
 refine P.ifNo X68 hx 170 (hb w at_167) (by decide) rfl ?_
 refine P.bipush X68 hx 172 50 (hb w at_170) rfl rfl ?_
 refine P.goto X68 hx 177 (hb w at_172) (by decide) (by decide) ?_
 refine P.istore X68 hx 179 #[.val (.int p0), .val (.int p1), .val (.int p2), .val (.int ((p0 &&& (3 : Int32)) % (3 : Int32))), .val (.int (((p0.toUInt32 >>> ((8 : Int32) &&& 31).toUInt32).toInt32) &&& (255 : Int32))), .val (.int (((p0.toUInt32 >>> ((16 : Int32) &&& 31).toUInt32).toInt32) &&& (255 : Int32))), .val (.int ((p1 &&& (3 : Int32)) % (3 : Int32))), .val (.int (((p1.toUInt32 >>> ((8 : Int32) &&& 31).toUInt32).toInt32) &&& (255 : Int32))), .val (.int (((p1.toUInt32 >>> ((16 : Int32) &&& 31).toUInt32).toInt32) &&& (255 : Int32))), .val (.int 1), .val (.int 0), .val (.int (((p2.toUInt32 >>> ((8 : Int32) &&& 31).toUInt32).toInt32) &&& (255 : Int32))), .val (.ref a2), .val (.ref a12), .val (.ref a69), .val (.int 49), .val (.int 50), .unset, .unset, .unset, .unset] (hb w at_177) rfl rfl ?_
 refine P.iload X68 hx 181 (hb w at_179) rfl rfl ?_
 refine P.ifYes X68 hx 195 (hb w at_181) (by decide) (by decide) (by decide) ?_
 refine P.aload X68 hx 197 (hb w at_195) rfl rfl rfl ?_
 refine P.aload X68 hx 199 (hb w at_197) rfl rfl rfl ?_
 have F85 := (((G15.ext E21).keep J32 nin0 nin0).keep J49 (ninS (X68.neF (mg 2 rfl) (mg 6 rfl)) nin0) (ninS (X68.neF (mg 3 rfl) (mg 6 rfl)) nin0)).keep J68 (ninS (X68.neF (mg 2 rfl) (mg 5 rfl)) nin0) (ninS (X68.neF (mg 3 rfl) (mg 5 rfl)) nin0)
 refine X68.callV hx (w270 cx) (w271 cx) (w273 cx) (w272 cx) (fun _ hZ => nf hZ (w273 cx)) (by decide) G72 (Ct.pay (W := 0) (ct_exi0 cx a69 a70 a71 ((([] ++ x4) ++ [(32 : Int32)]) ++ [(116 : Int32), 49]) a12 a13 x14 h68 _ _ G72 G73 G76 F85 (mg 2 rfl) (mg 1 rfl) (mg 0 rfl) (mg 2 rfl) (mg 3 rfl) lC (by simp <;> omega) (by simp <;> omega)) (w274 cx) (w28 cx) (nle rfl) (nle rfl)) (by rw [hml]; rfl) (argsL := [.ref a12]) (rest := []) (lenOf pd35 rfl) rfl rfl (nle rfl) (hb w at_199) (nle rfl) (nle rfl) ?_
 rintro T86 h86 _ _ _ X86 ⟨a87, a88, rfl, rfl, rfl, J86, g90, G89⟩
 have ge91 := Nat.le_trans K84.1 g90
 have K92 := K84.trans J86 all0
 refine P.astore X86 hx 204 #[.val (.int p0), .val (.int p1), .val (.int p2), .val (.int ((p0 &&& (3 : Int32)) % (3 : Int32))), .val (.int (((p0.toUInt32 >>> ((8 : Int32) &&& 31).toUInt32).toInt32) &&& (255 : Int32))), .val (.int (((p0.toUInt32 >>> ((16 : Int32) &&& 31).toUInt32).toInt32) &&& (255 : Int32))), .val (.int ((p1 &&& (3 : Int32)) % (3 : Int32))), .val (.int (((p1.toUInt32 >>> ((8 : Int32) &&& 31).toUInt32).toInt32) &&& (255 : Int32))), .val (.int (((p1.toUInt32 >>> ((16 : Int32) &&& 31).toUInt32).toInt32) &&& (255 : Int32))), .val (.int 1), .val (.int 0), .val (.int (((p2.toUInt32 >>> ((8 : Int32) &&& 31).toUInt32).toInt32) &&& (255 : Int32))), .val (.ref a2), .val (.ref a12), .val (.ref a69), .val (.int 49), .val (.int 50), .val (.ref a87), .unset, .unset, .unset] (hb w at_202) rfl rfl rfl ?_
 have X93 := WS.drop (A := []) (B := (a71 :: a70 :: a69 :: a52 :: a51 :: a50 :: a21 :: WL)) X86
 have X94 := WS.drop (A := []) (B := (a70 :: a69 :: a52 :: a51 :: a50 :: a21 :: WL)) X93
 have X95 := WS.drop (A := []) (B := (a69 :: a52 :: a51 :: a50 :: a21 :: WL)) X94
 have X96 := WS.drop (A := []) (B := (a52 :: a51 :: a50 :: a21 :: WL)) X95
 have X97 := WS.drop (A := []) (B := (a51 :: a50 :: a21 :: WL)) X96
 have X98 := WS.drop (A := []) (B := (a50 :: a21 :: WL)) X97
 have X99 := WS.drop (A := []) (B := (a21 :: WL)) X98
 have X100 := WS.drop (A := []) (B := WL) X99
 have X101 := WS.fl (FL2 := (a87 :: a88 :: FL)) X100 (fun y hy => (List.mem_cons.mp hy).elim (fun q => q ▸ (mg 7 rfl)) (fun q0 => (List.mem_cons.mp q0).elim (fun q => q ▸ (mg 8 rfl)) (fun q1 => (List.mem_append_right [a21, a50, a51, a52, a69, a70, a71, a87, a88, a33, a34, a12, a13, a2, a3] q1))))
 exact mid_law0 cx p0 p1 p2 ((p0 &&& (3 : Int32)) % (3 : Int32)) (((p0.toUInt32 >>> ((8 : Int32) &&& 31).toUInt32).toInt32) &&& (255 : Int32)) (((p0.toUInt32 >>> ((16 : Int32) &&& 31).toUInt32).toInt32) &&& (255 : Int32)) ((p1 &&& (3 : Int32)) % (3 : Int32)) (((p1.toUInt32 >>> ((8 : Int32) &&& 31).toUInt32).toInt32) &&& (255 : Int32)) (((p1.toUInt32 >>> ((16 : Int32) &&& 31).toUInt32).toInt32) &&& (255 : Int32)) (1 : Int32) (((p2.toUInt32 >>> ((8 : Int32) &&& 31).toUInt32).toInt32) &&& (255 : Int32)) (49 : Int32) (50 : Int32) (.ref a2) (.ref a12) (.ref a69) a87 a88 x4 x14 ((((([] ++ [(101 : Int32), 120, 105, 115, 116, 115, 32, 40, 115, 101, 108, 101, 99, 116, 32, 49, 32, 102, 114, 111, 109, 32]) ++ ((([] ++ x4) ++ [(32 : Int32)]) ++ [(116 : Int32), 49])) ++ [(32 : Int32), 119, 104, 101, 114, 101, 32]) ++ x14) ++ [(41 : Int32)]) hx w hml hnm hret hlk (WS.mono X101 (nle rfl) (nle rfl)) K92 G89 G6 G16 (rng255 _) (rng255 _) (rng255 _) (rng255 _) (rng255 _) (by decide) (by decide) F67.2.2.2.2.1 F85.2.2.2.2.1 (by simp)
theorem ct_law_11 (cx : Cx a0 Z gC gF v_AL v_DO k_DO) (p0 : Int32) (p1 : Int32) (p2 : Int32) (h : Heap) (WL FL : List Addr)  (es : ¬ (p2 &&& (1 : Int32)) = (0 : Int32)) (ec : ¬ (p2 &&& (2 : Int32)) = (0 : Int32)) :
   Ct l Z EL1 n0 x code maxLocals ret room_1 #[(.int p0), (.int p1), (.int p2)] h WL FL (Q_law Z p0 p1 p2 h) := by
 refine Ct.of (plainFor_of_name pn12) ?_
 intro p e s m below meth c s1 hx w hml hnm hret hlk X0
 refine Wo.cast (f' := (mkF m 0 #[.val (.int p0), .val (.int p1), .val (.int p2), .unset, .unset, .unset, .unset, .unset, .unset, .unset, .unset, .unset, .unset, .unset, .unset, .unset, .unset, .unset, .unset, .unset, .unset] [])) (by first | (simp [entryFrame, mkF, argsToLocals, Value.category, maxLocals]; done) | rfl) ?_
 have K0 : Keep h h [] := Keep.refl _ _
 show Wo _ _ _ _ _ _ _ _ _ _ _ s1 (mkF m 0 #[.val (.int p0), .val (.int p1), .val (.int p2), .unset, .unset, .unset, .unset, .unset, .unset, .unset, .unset, .unset, .unset, .unset, .unset, .unset, .unset, .unset, .unset, .unset, .unset] [])
 refine P.iloadN X0 hx 1 (hb w at_0) rfl rfl ?_
 refine P.iconst X0 hx 2 3 (hb w at_1) rfl rfl ?_
 refine P.iand X0 hx 3 (z := (p0 &&& (3 : Int32))) (hb w at_2) rfl rfl ?_
 refine P.iconst X0 hx 4 3 (hb w at_3) rfl rfl ?_
 refine P.irem X0 hx 5 (z := ((p0 &&& (3 : Int32)) % (3 : Int32))) (hb w at_4) (by decide) rfl rfl ?_
 refine P.istoreN X0 hx 6 #[.val (.int p0), .val (.int p1), .val (.int p2), .val (.int ((p0 &&& (3 : Int32)) % (3 : Int32))), .unset, .unset, .unset, .unset, .unset, .unset, .unset, .unset, .unset, .unset, .unset, .unset, .unset, .unset, .unset, .unset, .unset] (hb w at_5) rfl rfl ?_
 refine P.iloadN X0 hx 7 (hb w at_6) rfl rfl ?_
 refine P.bipush X0 hx 9 8 (hb w at_7) rfl rfl ?_
 refine P.iushr X0 hx 10 (z := ((p0.toUInt32 >>> ((8 : Int32) &&& 31).toUInt32).toInt32)) (hb w at_9) rfl rfl ?_
 refine P.sipush X0 hx 13 255 (hb w at_10) rfl rfl ?_
 refine P.iand X0 hx 14 (z := (((p0.toUInt32 >>> ((8 : Int32) &&& 31).toUInt32).toInt32) &&& (255 : Int32))) (hb w at_13) rfl rfl ?_
 refine P.i2c X0 hx 15 (z := (((p0.toUInt32 >>> ((8 : Int32) &&& 31).toUInt32).toInt32) &&& (255 : Int32))) (hb w at_14) (by rw [i2c_mask]) rfl ?_
 refine P.istore X0 hx 17 #[.val (.int p0), .val (.int p1), .val (.int p2), .val (.int ((p0 &&& (3 : Int32)) % (3 : Int32))), .val (.int (((p0.toUInt32 >>> ((8 : Int32) &&& 31).toUInt32).toInt32) &&& (255 : Int32))), .unset, .unset, .unset, .unset, .unset, .unset, .unset, .unset, .unset, .unset, .unset, .unset, .unset, .unset, .unset, .unset] (hb w at_15) rfl rfl ?_
 refine P.iloadN X0 hx 18 (hb w at_17) rfl rfl ?_
 refine P.bipush X0 hx 20 16 (hb w at_18) rfl rfl ?_
 refine P.iushr X0 hx 21 (z := ((p0.toUInt32 >>> ((16 : Int32) &&& 31).toUInt32).toInt32)) (hb w at_20) rfl rfl ?_
 refine P.sipush X0 hx 24 255 (hb w at_21) rfl rfl ?_
 refine P.iand X0 hx 25 (z := (((p0.toUInt32 >>> ((16 : Int32) &&& 31).toUInt32).toInt32) &&& (255 : Int32))) (hb w at_24) rfl rfl ?_
 refine P.i2c X0 hx 26 (z := (((p0.toUInt32 >>> ((16 : Int32) &&& 31).toUInt32).toInt32) &&& (255 : Int32))) (hb w at_25) (by rw [i2c_mask]) rfl ?_
 refine P.istore X0 hx 28 #[.val (.int p0), .val (.int p1), .val (.int p2), .val (.int ((p0 &&& (3 : Int32)) % (3 : Int32))), .val (.int (((p0.toUInt32 >>> ((8 : Int32) &&& 31).toUInt32).toInt32) &&& (255 : Int32))), .val (.int (((p0.toUInt32 >>> ((16 : Int32) &&& 31).toUInt32).toInt32) &&& (255 : Int32))), .unset, .unset, .unset, .unset, .unset, .unset, .unset, .unset, .unset, .unset, .unset, .unset, .unset, .unset, .unset] (hb w at_26) rfl rfl ?_
 refine P.iloadN X0 hx 29 (hb w at_28) rfl rfl ?_
 refine P.iconst X0 hx 30 3 (hb w at_29) rfl rfl ?_
 refine P.iand X0 hx 31 (z := (p1 &&& (3 : Int32))) (hb w at_30) rfl rfl ?_
 refine P.iconst X0 hx 32 3 (hb w at_31) rfl rfl ?_
 refine P.irem X0 hx 33 (z := ((p1 &&& (3 : Int32)) % (3 : Int32))) (hb w at_32) (by decide) rfl rfl ?_
 refine P.istore X0 hx 35 #[.val (.int p0), .val (.int p1), .val (.int p2), .val (.int ((p0 &&& (3 : Int32)) % (3 : Int32))), .val (.int (((p0.toUInt32 >>> ((8 : Int32) &&& 31).toUInt32).toInt32) &&& (255 : Int32))), .val (.int (((p0.toUInt32 >>> ((16 : Int32) &&& 31).toUInt32).toInt32) &&& (255 : Int32))), .val (.int ((p1 &&& (3 : Int32)) % (3 : Int32))), .unset, .unset, .unset, .unset, .unset, .unset, .unset, .unset, .unset, .unset, .unset, .unset, .unset, .unset] (hb w at_33) rfl rfl ?_
 refine P.iloadN X0 hx 36 (hb w at_35) rfl rfl ?_
 refine P.bipush X0 hx 38 8 (hb w at_36) rfl rfl ?_
 refine P.iushr X0 hx 39 (z := ((p1.toUInt32 >>> ((8 : Int32) &&& 31).toUInt32).toInt32)) (hb w at_38) rfl rfl ?_
 refine P.sipush X0 hx 42 255 (hb w at_39) rfl rfl ?_
 refine P.iand X0 hx 43 (z := (((p1.toUInt32 >>> ((8 : Int32) &&& 31).toUInt32).toInt32) &&& (255 : Int32))) (hb w at_42) rfl rfl ?_
 refine P.i2c X0 hx 44 (z := (((p1.toUInt32 >>> ((8 : Int32) &&& 31).toUInt32).toInt32) &&& (255 : Int32))) (hb w at_43) (by rw [i2c_mask]) rfl ?_
 refine P.istore X0 hx 46 #[.val (.int p0), .val (.int p1), .val (.int p2), .val (.int ((p0 &&& (3 : Int32)) % (3 : Int32))), .val (.int (((p0.toUInt32 >>> ((8 : Int32) &&& 31).toUInt32).toInt32) &&& (255 : Int32))), .val (.int (((p0.toUInt32 >>> ((16 : Int32) &&& 31).toUInt32).toInt32) &&& (255 : Int32))), .val (.int ((p1 &&& (3 : Int32)) % (3 : Int32))), .val (.int (((p1.toUInt32 >>> ((8 : Int32) &&& 31).toUInt32).toInt32) &&& (255 : Int32))), .unset, .unset, .unset, .unset, .unset, .unset, .unset, .unset, .unset, .unset, .unset, .unset, .unset] (hb w at_44) rfl rfl ?_
 refine P.iloadN X0 hx 47 (hb w at_46) rfl rfl ?_
 refine P.bipush X0 hx 49 16 (hb w at_47) rfl rfl ?_
 refine P.iushr X0 hx 50 (z := ((p1.toUInt32 >>> ((16 : Int32) &&& 31).toUInt32).toInt32)) (hb w at_49) rfl rfl ?_
 refine P.sipush X0 hx 53 255 (hb w at_50) rfl rfl ?_
 refine P.iand X0 hx 54 (z := (((p1.toUInt32 >>> ((16 : Int32) &&& 31).toUInt32).toInt32) &&& (255 : Int32))) (hb w at_53) rfl rfl ?_
 refine P.i2c X0 hx 55 (z := (((p1.toUInt32 >>> ((16 : Int32) &&& 31).toUInt32).toInt32) &&& (255 : Int32))) (hb w at_54) (by rw [i2c_mask]) rfl ?_
 refine P.istore X0 hx 57 #[.val (.int p0), .val (.int p1), .val (.int p2), .val (.int ((p0 &&& (3 : Int32)) % (3 : Int32))), .val (.int (((p0.toUInt32 >>> ((8 : Int32) &&& 31).toUInt32).toInt32) &&& (255 : Int32))), .val (.int (((p0.toUInt32 >>> ((16 : Int32) &&& 31).toUInt32).toInt32) &&& (255 : Int32))), .val (.int ((p1 &&& (3 : Int32)) % (3 : Int32))), .val (.int (((p1.toUInt32 >>> ((8 : Int32) &&& 31).toUInt32).toInt32) &&& (255 : Int32))), .val (.int (((p1.toUInt32 >>> ((16 : Int32) &&& 31).toUInt32).toInt32) &&& (255 : Int32))), .unset, .unset, .unset, .unset, .unset, .unset, .unset, .unset, .unset, .unset, .unset, .unset] (hb w at_55) rfl rfl ?_
 refine P.iloadN X0 hx 58 (hb w at_57) rfl rfl ?_
 refine P.iconst X0 hx 59 1 (hb w at_58) rfl rfl ?_
 refine P.iand X0 hx 60 (z := (p2 &&& (1 : Int32))) (hb w at_59) rfl rfl ?_
 refine P.ifNo X0 hx 63 (hb w at_60) ((if0 _ _).trans (feq es).1) rfl ?_
 refine P.iconst X0 hx 64 1 (hb w at_63) rfl rfl ?_
 refine P.goto X0 hx 68 (hb w at_64) (by decide) (by decide) ?_
 refine P.istore X0 hx 70 #[.val (.int p0), .val (.int p1), .val (.int p2), .val (.int ((p0 &&& (3 : Int32)) % (3 : Int32))), .val (.int (((p0.toUInt32 >>> ((8 : Int32) &&& 31).toUInt32).toInt32) &&& (255 : Int32))), .val (.int (((p0.toUInt32 >>> ((16 : Int32) &&& 31).toUInt32).toInt32) &&& (255 : Int32))), .val (.int ((p1 &&& (3 : Int32)) % (3 : Int32))), .val (.int (((p1.toUInt32 >>> ((8 : Int32) &&& 31).toUInt32).toInt32) &&& (255 : Int32))), .val (.int (((p1.toUInt32 >>> ((16 : Int32) &&& 31).toUInt32).toInt32) &&& (255 : Int32))), .val (.int 1), .unset, .unset, .unset, .unset, .unset, .unset, .unset, .unset, .unset, .unset, .unset] (hb w at_68) rfl rfl ?_
 refine P.iloadN X0 hx 71 (hb w at_70) rfl rfl ?_
 refine P.iconst X0 hx 72 2 (hb w at_71) rfl rfl ?_
 refine P.iand X0 hx 73 (z := (p2 &&& (2 : Int32))) (hb w at_72) rfl rfl ?_
 refine P.ifNo X0 hx 76 (hb w at_73) ((if0 _ _).trans (feq ec).1) rfl ?_
 refine P.iconst X0 hx 77 1 (hb w at_76) rfl rfl ?_
 refine P.goto X0 hx 81 (hb w at_77) (by decide) (by decide) ?_
 refine P.istore X0 hx 83 #[.val (.int p0), .val (.int p1), .val (.int p2), .val (.int ((p0 &&& (3 : Int32)) % (3 : Int32))), .val (.int (((p0.toUInt32 >>> ((8 : Int32) &&& 31).toUInt32).toInt32) &&& (255 : Int32))), .val (.int (((p0.toUInt32 >>> ((16 : Int32) &&& 31).toUInt32).toInt32) &&& (255 : Int32))), .val (.int ((p1 &&& (3 : Int32)) % (3 : Int32))), .val (.int (((p1.toUInt32 >>> ((8 : Int32) &&& 31).toUInt32).toInt32) &&& (255 : Int32))), .val (.int (((p1.toUInt32 >>> ((16 : Int32) &&& 31).toUInt32).toInt32) &&& (255 : Int32))), .val (.int 1), .val (.int 1), .unset, .unset, .unset, .unset, .unset, .unset, .unset, .unset, .unset, .unset] (hb w at_81) rfl rfl ?_
 refine P.iloadN X0 hx 84 (hb w at_83) rfl rfl ?_
 refine P.bipush X0 hx 86 8 (hb w at_84) rfl rfl ?_
 refine P.iushr X0 hx 87 (z := ((p2.toUInt32 >>> ((8 : Int32) &&& 31).toUInt32).toInt32)) (hb w at_86) rfl rfl ?_
 refine P.sipush X0 hx 90 255 (hb w at_87) rfl rfl ?_
 refine P.iand X0 hx 91 (z := (((p2.toUInt32 >>> ((8 : Int32) &&& 31).toUInt32).toInt32) &&& (255 : Int32))) (hb w at_90) rfl rfl ?_
 refine P.i2c X0 hx 92 (z := (((p2.toUInt32 >>> ((8 : Int32) &&& 31).toUInt32).toInt32) &&& (255 : Int32))) (hb w at_91) (by rw [i2c_mask]) rfl ?_
 refine P.istore X0 hx 94 #[.val (.int p0), .val (.int p1), .val (.int p2), .val (.int ((p0 &&& (3 : Int32)) % (3 : Int32))), .val (.int (((p0.toUInt32 >>> ((8 : Int32) &&& 31).toUInt32).toInt32) &&& (255 : Int32))), .val (.int (((p0.toUInt32 >>> ((16 : Int32) &&& 31).toUInt32).toInt32) &&& (255 : Int32))), .val (.int ((p1 &&& (3 : Int32)) % (3 : Int32))), .val (.int (((p1.toUInt32 >>> ((8 : Int32) &&& 31).toUInt32).toInt32) &&& (255 : Int32))), .val (.int (((p1.toUInt32 >>> ((16 : Int32) &&& 31).toUInt32).toInt32) &&& (255 : Int32))), .val (.int 1), .val (.int 1), .val (.int (((p2.toUInt32 >>> ((8 : Int32) &&& 31).toUInt32).toInt32) &&& (255 : Int32))), .unset, .unset, .unset, .unset, .unset, .unset, .unset, .unset, .unset] (hb w at_92) rfl rfl ?_
 refine P.iloadN X0 hx 95 (hb w at_94) rfl rfl ?_
 refine P.iload X0 hx 97 (hb w at_95) rfl rfl ?_
 refine P.iload X0 hx 99 (hb w at_97) rfl rfl ?_
 refine X0.callS hx (w0 cx) (w1 cx) (w2 cx) (w3 cx) (by decide) (Ct.pay (W := 0) (ct_str cx ((p0 &&& (3 : Int32)) % (3 : Int32)) (((p0.toUInt32 >>> ((8 : Int32) &&& 31).toUInt32).toInt32) &&& (255 : Int32)) (((p0.toUInt32 >>> ((16 : Int32) &&& 31).toUInt32).toInt32) &&& (255 : Int32)) h _ _ (r3 _) (rng255 _) (rng255 _)) (w3 cx) (w2 cx) (nle rfl) (nle rfl)) (by rw [hml]; rfl) (argsL := [.int ((p0 &&& (3 : Int32)) % (3 : Int32)), .int (((p0.toUInt32 >>> ((8 : Int32) &&& 31).toUInt32).toInt32) &&& (255 : Int32)), .int (((p0.toUInt32 >>> ((16 : Int32) &&& 31).toUInt32).toInt32) &&& (255 : Int32))]) (rest := []) (lenOf pd34 rfl) rfl rfl (nle rfl) (hb w at_99) (nle rfl) (nle rfl) ?_
 rintro T1 h1 _ _ _ X1 ⟨a2, a3, x4, rfl, rfl, rfl, J1, g7, G5, G6⟩
 have ge8 := Nat.le_trans K0.1 g7
 have K9 := K0.trans J1 all0
 have X10 := WS.drop (A := []) (B := WL) X1
 obtain ⟨eT, lT⟩ := strL G6
 refine P.astore X10 hx 104 #[.val (.int p0), .val (.int p1), .val (.int p2), .val (.int ((p0 &&& (3 : Int32)) % (3 : Int32))), .val (.int (((p0.toUInt32 >>> ((8 : Int32) &&& 31).toUInt32).toInt32) &&& (255 : Int32))), .val (.int (((p0.toUInt32 >>> ((16 : Int32) &&& 31).toUInt32).toInt32) &&& (255 : Int32))), .val (.int ((p1 &&& (3 : Int32)) % (3 : Int32))), .val (.int (((p1.toUInt32 >>> ((8 : Int32) &&& 31).toUInt32).toInt32) &&& (255 : Int32))), .val (.int (((p1.toUInt32 >>> ((16 : Int32) &&& 31).toUInt32).toInt32) &&& (255 : Int32))), .val (.int 1), .val (.int 1), .val (.int (((p2.toUInt32 >>> ((8 : Int32) &&& 31).toUInt32).toInt32) &&& (255 : Int32))), .val (.ref a2), .unset, .unset, .unset, .unset, .unset, .unset, .unset, .unset] (hb w at_102) rfl rfl rfl ?_
 refine P.iload X10 hx 106 (hb w at_104) rfl rfl ?_
 refine P.iload X10 hx 108 (hb w at_106) rfl rfl ?_
 refine P.iload X10 hx 110 (hb w at_108) rfl rfl ?_
 refine X10.callS hx (w0 cx) (w1 cx) (w2 cx) (w3 cx) (by decide) (Ct.pay (W := 0) (ct_str cx ((p1 &&& (3 : Int32)) % (3 : Int32)) (((p1.toUInt32 >>> ((8 : Int32) &&& 31).toUInt32).toInt32) &&& (255 : Int32)) (((p1.toUInt32 >>> ((16 : Int32) &&& 31).toUInt32).toInt32) &&& (255 : Int32)) h1 _ _ (r3 _) (rng255 _) (rng255 _)) (w3 cx) (w2 cx) (nle rfl) (nle rfl)) (by rw [hml]; rfl) (argsL := [.int ((p1 &&& (3 : Int32)) % (3 : Int32)), .int (((p1.toUInt32 >>> ((8 : Int32) &&& 31).toUInt32).toInt32) &&& (255 : Int32)), .int (((p1.toUInt32 >>> ((16 : Int32) &&& 31).toUInt32).toInt32) &&& (255 : Int32))]) (rest := []) (lenOf pd34 rfl) rfl rfl (nle rfl) (hb w at_110) (nle rfl) (nle rfl) ?_
 rintro T11 h11 _ _ _ X11 ⟨a12, a13, x14, rfl, rfl, rfl, J11, g17, G15, G16⟩
 have ge18 := Nat.le_trans K9.1 g17
 have K19 := K9.trans J11 all0
 have X20 := WS.drop (A := []) (B := WL) X11
 obtain ⟨eC, lC⟩ := strL G16
 refine P.astore X20 hx 115 #[.val (.int p0), .val (.int p1), .val (.int p2), .val (.int ((p0 &&& (3 : Int32)) % (3 : Int32))), .val (.int (((p0.toUInt32 >>> ((8 : Int32) &&& 31).toUInt32).toInt32) &&& (255 : Int32))), .val (.int (((p0.toUInt32 >>> ((16 : Int32) &&& 31).toUInt32).toInt32) &&& (255 : Int32))), .val (.int ((p1 &&& (3 : Int32)) % (3 : Int32))), .val (.int (((p1.toUInt32 >>> ((8 : Int32) &&& 31).toUInt32).toInt32) &&& (255 : Int32))), .val (.int (((p1.toUInt32 >>> ((16 : Int32) &&& 31).toUInt32).toInt32) &&& (255 : Int32))), .val (.int 1), .val (.int 1), .val (.int (((p2.toUInt32 >>> ((8 : Int32) &&& 31).toUInt32).toInt32) &&& (255 : Int32))), .val (.ref a2), .val (.ref a12), .unset, .unset, .unset, .unset, .unset, .unset, .unset] (hb w at_113) rfl rfl rfl ?_
 refine P.iload X20 hx 117 (hb w at_115) rfl rfl ?_
 refine P.ifNo X20 hx 120 (hb w at_117) (by decide) rfl ?_
 refine X20.newO hx (w26 cx) (w27 cx) (w28 cx) (hb w at_120) (nle rfl) (nle rfl) ?_
 intro T21 h21 a21 X21 E21 g21 A21 D21
 have ge22 := Nat.le_trans K19.1 g21
 have K23 := K19.ext E21
 have D24 : Fld Z h21 a21 "com/example/estate4/estate4/jdbc/SelectText" "columns" "Ljava/util/List;" .null := D21 (Or.inr (w68 cx)) (ty := (.object "java/util/List")) (by decide)
 have D25 : Fld Z h21 a21 "com/example/estate4/estate4/jdbc/SelectText" "tableColumns" "Ljava/util/List;" .null := D21 (Or.inr (w70 cx)) (ty := (.object "java/util/List")) (by decide)
 have D26 : Fld Z h21 a21 "com/example/estate4/estate4/jdbc/SelectText" "grouping" "Ljava/util/List;" .null := D21 (Or.inr (w72 cx)) (ty := (.object "java/util/List")) (by decide)
 have D27 : Fld Z h21 a21 "com/example/estate4/estate4/jdbc/SelectText" "from" "Ljava/lang/StringBuilder;" .null := D21 (Or.inr (w92 cx)) (ty := (.object "java/lang/StringBuilder")) (by decide)
 have D28 : Fld Z h21 a21 "com/example/estate4/estate4/jdbc/SelectText" "aliases" "Lcom/example/estate4/estate4/jdbc/SelectText$Aliases;" .null := D21 (Or.inr (w94 cx)) (ty := (.object "com/example/estate4/estate4/jdbc/SelectText$Aliases")) (by decide)
 have D29 : Fld Z h21 a21 "com/example/estate4/estate4/jdbc/SelectText" "table" "Ljava/lang/String;" .null := D21 (Or.inr (w96 cx)) (ty := (.object "java/lang/String")) (by decide)
 have D30 : Fld Z h21 a21 "com/example/estate4/estate4/jdbc/SelectText" "first" "Ljava/lang/String;" .null := D21 (Or.inr (w219 cx)) (ty := (.object "java/lang/String")) (by decide)
 have D31 : Fld Z h21 a21 "com/example/estate4/estate4/jdbc/SelectText" "joins" "Z" (.int 0) := D21 (Or.inl (w251 cx)) (ty := .boolean) (by decide)
 refine P.dup X21 hx 124 (hb w at_123) rfl rfl ?_
 refine P.iload X21 hx 126 (hb w at_124) rfl rfl ?_
 refine X21.callS hx (w234 cx) (w235 cx) (w6 cx) (w236 cx) (by decide) (Ct.pay (W := 2) (ct_valC cx (((p2.toUInt32 >>> ((8 : Int32) &&& 31).toUInt32).toInt32) &&& (255 : Int32)) h21 _ _ (rng255 _)) (w236 cx) (w6 cx) (nle rfl) (nle rfl)) (by rw [hml]; rfl) (argsL := [.int (((p2.toUInt32 >>> ((8 : Int32) &&& 31).toUInt32).toInt32) &&& (255 : Int32))]) (rest := [.ref a21, .ref a21]) (lenOf pd36 rfl) rfl rfl (nle rfl) (hb w at_126) (nle rfl) (nle rfl) ?_
 rintro T32 h32 _ _ _ X32 ⟨a33, a34, rfl, rfl, rfl, J32, g36, G35⟩
 have ge37 := Nat.le_trans K23.1 g36
 have K38 := K23.trans J32 all0
 have X39 := WS.drop (A := []) (B := (a21 :: WL)) X32
 have F40 := A21.keep J32
 have F41 := D24.keep J32 nin0
 have F42 := D25.keep J32 nin0
 have F43 := D26.keep J32 nin0
 have F44 := D27.keep J32 nin0
 have F45 := D28.keep J32 nin0
 have F46 := D29.keep J32 nin0
 have F47 := D30.keep J32 nin0
 have F48 := D31.keep J32 nin0
 refine X39.callC hx rfl (w29 cx) (w30 cx) (w31 cx) (by decide) (Ct.pay (W := 1) (ct_seli cx a21 a33 a34 ([(((p2.toUInt32 >>> ((8 : Int32) &&& 31).toUInt32).toInt32) &&& (255 : Int32))]) h32 _ _ F40 F41 F42 F43 F44 F45 F46 F47 F48 (mg 0 rfl) G35 (mg 0 rfl) (mg 1 rfl) (nle rfl)) (w31 cx) (w28 cx) (nle rfl) (nle rfl)) (by rw [hml]; rfl) (argsL := [.ref a33]) (rest := [.ref a21]) (lenOf pd2 rfl) rfl rfl (nle rfl) (hb w at_129) (nle rfl) (nle rfl) ?_
 rintro T49 h49 _ _ _ X49 ⟨a50, a51, a52, rfl, rfl, rfl, J49, g59, g60, g61, G53, G54, G55, G56, G57, G58⟩
 have ge62 := Nat.le_trans K38.1 g59
 have ge63 := Nat.le_trans K38.1 g60
 have ge64 := Nat.le_trans K38.1 g61
 have K65 := K38.trans J49 (allS (Or.inr ge22) all0)
 refine P.aload X49 hx 134 (hb w at_132) rfl rfl rfl ?_
 have F66 := F40.keep J49
 have F67 := (((G5.keep J11 nin0 nin0).ext E21).keep J32 nin0 nin0).keep J49 (ninS (X49.neF (mg 4 rfl) (mg 3 rfl)) nin0) (ninS (X49.neF (mg 5 rfl) (mg 3 rfl)) nin0)
 refine X49.callV hx (w310 cx) (w311 cx) (w313 cx) (w312 cx) (fun _ hZ => nf hZ (w313 cx)) (by decide) F66 (Ct.pay (W := 0) (ct_subs cx a21 a2 a3 x4 a50 h49 _ _ F66 G54 G57 G58 (mg 2 rfl) F67 (mg 4 rfl) (mg 5 rfl) (by omega)) (w314 cx) (w28 cx) (nle rfl) (nle rfl)) (by rw [hml]; rfl) (argsL := [.ref a2]) (rest := []) (lenOf pd37 rfl) rfl rfl (nle rfl) (hb w at_134) (nle rfl) (nle rfl) ?_
 rintro T68 h68 _ _ _ X68 ⟨a69, a70, a71, rfl, rfl, rfl, J68, g78, g79, g80, G72, G73, G74, G75, G76, G77⟩
 have ge81 := Nat.le_trans K65.1 g78
 have ge82 := Nat.le_trans K65.1 g79
 have ge83 := Nat.le_trans K65.1 g80
 have K84 := K65.trans J68 (allS (Or.inr ge64) all0)
 refine P.goto X68 hx 149 (hb w at_137) (by decide) (by decide) ?_
 refine P.astore X68 hx 151 #[.val (.int p0), .val (.int p1), .val (.int p2), .val (.int ((p0 &&& (3 : Int32)) % (3 : Int32))), .val (.int (((p0.toUInt32 >>> ((8 : Int32) &&& 31).toUInt32).toInt32) &&& (255 : Int32))), .val (.int (((p0.toUInt32 >>> ((16 : Int32) &&& 31).toUInt32).toInt32) &&& (255 : Int32))), .val (.int ((p1 &&& (3 : Int32)) % (3 : Int32))), .val (.int (((p1.toUInt32 >>> ((8 : Int32) &&& 31).toUInt32).toInt32) &&& (255 : Int32))), .val (.int (((p1.toUInt32 >>> ((16 : Int32) &&& 31).toUInt32).toInt32) &&& (255 : Int32))), .val (.int 1), .val (.int 1), .val (.int (((p2.toUInt32 >>> ((8 : Int32) &&& 31).toUInt32).toInt32) &&& (255 : Int32))), .val (.ref a2), .val (.ref a12), .val (.ref a69), .unset, .unset, .unset, .unset, .unset, .unset] (hb w at_149) rfl rfl rfl ?_
 refine P.iload X68 hx 153 (hb w at_151) rfl rfl ?_
 refine P.ifNo X68 hx 156 (hb w at_153) (by decide) rfl ?_
 refine P.bipush X68 hx 158 49 (hb w at_156) rfl rfl ?_
 refine P.goto X68 hx 163 (hb w at_158) (by decide) (by decide) ?_
 refine P.istore X68 hx 165 #[.val (.int p0), .val (.int p1), .val (.int p2), .val (.int ((p0 &&& (3 : Int32)) % (3 : Int32))), .val (.int (((p0.toUInt32 >>> ((8 : Int32) &&& 31).toUInt32).toInt32) &&& (255 : Int32))), .val (.int (((p0.toUInt32 >>> ((16 : Int32) &&& 31).toUInt32).toInt32) &&& (255 : Int32))), .val (.int ((p1 &&& (3 : Int32)) % (3 : Int32))), .val (.int (((p1.toUInt32 >>> ((8 : Int32) &&& 31).toUInt32).toInt32) &&& (255 : Int32))), .val (.int (((p1.toUInt32 >>> ((16 : Int32) &&& 31).toUInt32).toInt32) &&& (255 : Int32))), .val (.int 1), .val (.int 1), .val (.int (((p2.toUInt32 >>> ((8 : Int32) &&& 31).toUInt32).toInt32) &&& (255 : Int32))), .val (.ref a2), .val (.ref a12), .val (.ref a69), .val (.int 49), .unset, .unset, .unset, .unset, .unset] (hb w at_163) rfl rfl ?_
 refine P.iload X68 hx 167 (hb w at_165) rfl rfl ?_
 refine P.ifNo X68 hx 170 (hb w at_167) (by decide) rfl ?_
 refine P.bipush X68 hx 172 50 (hb w at_170) rfl rfl ?_
 refine P.goto X68 hx 177 (hb w at_172) (by decide) (by decide) ?_
 refine P.istore X68 hx 179 #[.val (.int p0), .val (.int p1), .val (.int p2), .val (.int ((p0 &&& (3 : Int32)) % (3 : Int32))), .val (.int (((p0.toUInt32 >>> ((8 : Int32) &&& 31).toUInt32).toInt32) &&& (255 : Int32))), .val (.int (((p0.toUInt32 >>> ((16 : Int32) &&& 31).toUInt32).toInt32) &&& (255 : Int32))), .val (.int ((p1 &&& (3 : Int32)) % (3 : Int32))), .val (.int (((p1.toUInt32 >>> ((8 : Int32) &&& 31).toUInt32).toInt32) &&& (255 : Int32))), .val (.int (((p1.toUInt32 >>> ((16 : Int32) &&& 31).toUInt32).toInt32) &&& (255 : Int32))), .val (.int 1), .val (.int 1), .val (.int (((p2.toUInt32 >>> ((8 : Int32) &&& 31).toUInt32).toInt32) &&& (255 : Int32))), .val (.ref a2), .val (.ref a12), .val (.ref a69), .val (.int 49), .val (.int 50), .unset, .unset, .unset, .unset] (hb w at_177) rfl rfl ?_
 refine P.iload X68 hx 181 (hb w at_179) rfl rfl ?_
 refine P.ifNo X68 hx 184 (hb w at_181) (by decide) rfl ?_
 refine P.aload X68 hx 186 (hb w at_184) rfl rfl rfl ?_
 refine P.iload X68 hx 188 (hb w at_186) rfl rfl ?_
 refine X68.callS hx (w234 cx) (w235 cx) (w6 cx) (w236 cx) (by decide) (Ct.pay (W := 1) (ct_valC cx (((p2.toUInt32 >>> ((8 : Int32) &&& 31).toUInt32).toInt32) &&& (255 : Int32)) h68 _ _ (rng255 _)) (w236 cx) (w6 cx) (nle rfl) (nle rfl)) (by rw [hml]; rfl) (argsL := [.int (((p2.toUInt32 >>> ((8 : Int32) &&& 31).toUInt32).toInt32) &&& (255 : Int32))]) (rest := [.ref a69]) (lenOf pd36 rfl) rfl rfl (nle rfl) (hb w at_188) (nle rfl) (nle rfl) ?_
 rintro T85 h85 _ _ _ X85 ⟨a86, a87, rfl, rfl, rfl, J85, g89, G88⟩
 have ge90 := Nat.le_trans K84.1 g89
 have K91 := K84.trans J85 all0
 have X92 := WS.drop (A := []) (B := (a71 :: a70 :: a69 :: a52 :: a51 :: a50 :: a21 :: WL)) X85
 have F93 := G72.keep J85
 have F94 := G73.keep J85 nin0
 have F95 := G76.keep J85 nin0 nin0
 have F96 := G74.keep J85 nin0
 have F97 := G77.keep J85 nin0
 have F98 := G75.keep J85 nin0
 have F99 := (G57.keep J68).keep J85
 refine X92.callV hx (w245 cx) (w246 cx) (w248 cx) (w247 cx) (fun _ hZ => nf hZ (w248 cx)) (by decide) F93 (Ct.pay (W := 0) (ct_cj cx (2 : Int32) (3 : Int32) (50 : Int32) a69 a50 a70 a71 ((([] ++ x4) ++ [(32 : Int32)]) ++ [(116 : Int32), 49]) a86 a87 ([(((p2.toUInt32 >>> ((8 : Int32) &&& 31).toUInt32).toInt32) &&& (255 : Int32))]) h85 _ _ F93 F96 F94 F98 F99 F97 F95 G88 (mg 2 rfl) (mg 5 rfl) (mg 1 rfl) (mg 0 rfl) (mg 0 rfl) (mg 1 rfl) (X92.ne (i := 2) (j := 5) rfl rfl (by decide)) (X92.ne (i := 2) (j := 1) rfl rfl (by decide)) (X92.ne (i := 2) (j := 0) rfl rfl (by decide)) (X92.ne (i := 5) (j := 1) rfl rfl (by decide)) (X92.ne (i := 5) (j := 0) rfl rfl (by decide)) (X92.ne (i := 1) (j := 0) rfl rfl (by decide)) rfl (by simp <;> omega) (by simp <;> omega) (by decide)) (w249 cx) (w28 cx) (nle rfl) (nle rfl)) (by rw [hml]; rfl) (argsL := [.ref a86]) (rest := []) (lenOf pd35 rfl) rfl rfl (nle rfl) (hb w at_191) (nle rfl) (nle rfl) ?_
 rintro T100 h100 _ _ _ X100 ⟨a101, a102, rfl, rfl, rfl, J100, g105, G103, G104⟩
 have ge106 := Nat.le_trans K91.1 g105
 have K107 := K91.trans J100 (allS (Or.inr ge83) (allS (Or.inr ge64) (allS (Or.inr ge82) (allS (Or.inr ge81) all0))))
 refine P.pop X100 hx 195 (hb w at_194) rfl rfl ?_
 refine P.aload X100 hx 197 (hb w at_195) rfl rfl rfl ?_
 refine P.aload X100 hx 199 (hb w at_197) rfl rfl rfl ?_
 have F108 := F93.keep J100
 have F109 := (((((G15.ext E21).keep J32 nin0 nin0).keep J49 (ninS (X100.neF (mg 4 rfl) (mg 7 rfl)) nin0) (ninS (X100.neF (mg 5 rfl) (mg 7 rfl)) nin0)).keep J68 (ninS (X100.neF (mg 4 rfl) (mg 6 rfl)) nin0) (ninS (X100.neF (mg 5 rfl) (mg 6 rfl)) nin0)).keep J85 nin0 nin0).keep J100 (ninS (X100.neF (mg 4 rfl) (mg 3 rfl)) (ninS (X100.neF (mg 4 rfl) (mg 6 rfl)) (ninS (X100.neF (mg 4 rfl) (mg 2 rfl)) (ninS (X100.neF (mg 4 rfl) (mg 1 rfl)) nin0)))) (ninS (X100.neF (mg 5 rfl) (mg 3 rfl)) (ninS (X100.neF (mg 5 rfl) (mg 6 rfl)) (ninS (X100.neF (mg 5 rfl) (mg 2 rfl)) (ninS (X100.neF (mg 5 rfl) (mg 1 rfl)) nin0))))
 refine X100.callV hx (w270 cx) (w271 cx) (w273 cx) (w272 cx) (fun _ hZ => nf hZ (w273 cx)) (by decide) F108 (Ct.pay (W := 0) (ct_exi1 cx a69 a70 a102 ((((((([] ++ x4) ++ [(32 : Int32)]) ++ [(116 : Int32), 49]) ++ [(32 : Int32), 99, 114, 111, 115, 115, 32, 106, 111, 105, 110, 32]) ++ [(((p2.toUInt32 >>> ((8 : Int32) &&& 31).toUInt32).toInt32) &&& (255 : Int32))]) ++ [(32 : Int32)]) ++ [(116 : Int32), 50]) a12 a13 x14 h100 _ _ F108 G103 G104 F109 (mg 3 rfl) (mg 2 rfl) (mg 0 rfl) (mg 4 rfl) (mg 5 rfl) lC (by simp <;> omega) (by simp <;> omega)) (w274 cx) (w28 cx) (nle rfl) (nle rfl)) (by rw [hml]; rfl) (argsL := [.ref a12]) (rest := []) (lenOf pd35 rfl) rfl rfl (nle rfl) (hb w at_199) (nle rfl) (nle rfl) ?_
 rintro T110 h110 _ _ _ X110 ⟨a111, a112, rfl, rfl, rfl, J110, g114, G113⟩
 have ge115 := Nat.le_trans K107.1 g114
 have K116 := K107.trans J110 all0
 refine P.astore X110 hx 204 #[.val (.int p0), .val (.int p1), .val (.int p2), .val (.int ((p0 &&& (3 : Int32)) % (3 : Int32))), .val (.int (((p0.toUInt32 >>> ((8 : Int32) &&& 31).toUInt32).toInt32) &&& (255 : Int32))), .val (.int (((p0.toUInt32 >>> ((16 : Int32) &&& 31).toUInt32).toInt32) &&& (255 : Int32))), .val (.int ((p1 &&& (3 : Int32)) % (3 : Int32))), .val (.int (((p1.toUInt32 >>> ((8 : Int32) &&& 31).toUInt32).toInt32) &&& (255 : Int32))), .val (.int (((p1.toUInt32 >>> ((16 : Int32) &&& 31).toUInt32).toInt32) &&& (255 : Int32))), .val (.int 1), .val (.int 1), .val (.int (((p2.toUInt32 >>> ((8 : Int32) &&& 31).toUInt32).toInt32) &&& (255 : Int32))), .val (.ref a2), .val (.ref a12), .val (.ref a69), .val (.int 49), .val (.int 50), .val (.ref a111), .unset, .unset, .unset] (hb w at_202) rfl rfl rfl ?_
 have X117 := WS.drop (A := []) (B := (a102 :: a71 :: a70 :: a69 :: a52 :: a51 :: a50 :: a21 :: WL)) X110
 have X118 := WS.drop (A := []) (B := (a71 :: a70 :: a69 :: a52 :: a51 :: a50 :: a21 :: WL)) X117
 have X119 := WS.drop (A := []) (B := (a70 :: a69 :: a52 :: a51 :: a50 :: a21 :: WL)) X118
 have X120 := WS.drop (A := []) (B := (a69 :: a52 :: a51 :: a50 :: a21 :: WL)) X119
 have X121 := WS.drop (A := []) (B := (a52 :: a51 :: a50 :: a21 :: WL)) X120
 have X122 := WS.drop (A := []) (B := (a51 :: a50 :: a21 :: WL)) X121
 have X123 := WS.drop (A := []) (B := (a50 :: a21 :: WL)) X122
 have X124 := WS.drop (A := []) (B := (a21 :: WL)) X123
 have X125 := WS.drop (A := []) (B := WL) X124
 have X126 := WS.fl (FL2 := (a111 :: a112 :: FL)) X125 (fun y hy => (List.mem_cons.mp hy).elim (fun q => q ▸ (mg 8 rfl)) (fun q0 => (List.mem_cons.mp q0).elim (fun q => q ▸ (mg 9 rfl)) (fun q1 => (List.mem_append_right [a21, a50, a51, a52, a69, a70, a71, a102, a111, a112, a86, a87, a33, a34, a12, a13, a2, a3] q1))))
 exact mid_law1 cx p0 p1 p2 ((p0 &&& (3 : Int32)) % (3 : Int32)) (((p0.toUInt32 >>> ((8 : Int32) &&& 31).toUInt32).toInt32) &&& (255 : Int32)) (((p0.toUInt32 >>> ((16 : Int32) &&& 31).toUInt32).toInt32) &&& (255 : Int32)) ((p1 &&& (3 : Int32)) % (3 : Int32)) (((p1.toUInt32 >>> ((8 : Int32) &&& 31).toUInt32).toInt32) &&& (255 : Int32)) (((p1.toUInt32 >>> ((16 : Int32) &&& 31).toUInt32).toInt32) &&& (255 : Int32)) (1 : Int32) (((p2.toUInt32 >>> ((8 : Int32) &&& 31).toUInt32).toInt32) &&& (255 : Int32)) (49 : Int32) (50 : Int32) (.ref a2) (.ref a12) (.ref a69) a111 a112 x4 x14 ((((([] ++ [(101 : Int32), 120, 105, 115, 116, 115, 32, 40, 115, 101, 108, 101, 99, 116, 32, 49, 32, 102, 114, 111, 109, 32]) ++ ((((((([] ++ x4) ++ [(32 : Int32)]) ++ [(116 : Int32), 49]) ++ [(32 : Int32), 99, 114, 111, 115, 115, 32, 106, 111, 105, 110, 32]) ++ [(((p2.toUInt32 >>> ((8 : Int32) &&& 31).toUInt32).toInt32) &&& (255 : Int32))]) ++ [(32 : Int32)]) ++ [(116 : Int32), 50])) ++ [(32 : Int32), 119, 104, 101, 114, 101, 32]) ++ x14) ++ [(41 : Int32)]) hx w hml hnm hret hlk (WS.mono X126 (nle rfl) (nle rfl)) K116 G113 G6 G16 (rng255 _) (rng255 _) (rng255 _) (rng255 _) (rng255 _) (by decide) (by decide) F67.2.2.2.2.1 F109.2.2.2.2.1 (by simp)
theorem ct_law (cx : Cx a0 Z gC gF v_AL v_DO k_DO) (p0 : Int32) (p1 : Int32) (p2 : Int32) (h : Heap) (WL FL : List Addr)  :
   Ct l Z EL1 n0 x code maxLocals ret room_1 #[(.int p0), (.int p1), (.int p2)] h WL FL (Q_law Z p0 p1 p2 h) := by
 by_cases es : (p2 &&& (1 : Int32)) = (0 : Int32) <;> by_cases ec : (p2 &&& (2 : Int32)) = (0 : Int32)
 · exact ct_law_00 cx p0 p1 p2 h WL FL es ec
 · exact ct_law_01 cx p0 p1 p2 h WL FL es ec
 · exact ct_law_10 cx p0 p1 p2 h WL FL es ec
 · exact ct_law_11 cx p0 p1 p2 h WL FL es ec
end Cts

set_option maxRecDepth 65536 in
set_option maxHeartbeats 4000000 in
theorem comes_1 {Post : Tables → Env → Array Value → State → Outcome → State → Prop} (hpost : ∀ tb e args s v u, (limb_1_1.after args s (.returned v) u = true ∧ limb_1_2.after args s (.returned v) u = true ∧ True) → Jvm.Pilot.@@N@@.Jvm.D.FramedW s (.returned v) u (Jvm.fieldLocs frame_1_writes args s ++ Jvm.arrayLocs frame_1_arrays args s ++ Jvm.staticLocs frame_1_statics s) 120 7296 → Post tb e args s (.returned v) u) :
    ArmFor flags0 classFile x code maxLocals ret World_1 tables_1 room_1 Calls_1 rest_1 Pre_1 Post := by
  intro l hfl _ _ p e ha hc hk s m args below hf hA hF happ hP
  obtain ⟨hcalls, hrest, hpre⟩ := hP
  obtain ⟨-, -, -, hnamed, -, -, -, hat⟩ := (Spec.applies_iff hf).mp happ
  obtain ⟨hg, hn⟩ := and_e (Cond.before_iff.mp (show (Jvm.Cond.and given_1 narrow_1).before args s = true from hpre))
  obtain ⟨h1, g0⟩ := and_e hg
  obtain ⟨b0, g1⟩ := and_e g0
  obtain ⟨b1, g2⟩ := and_e g1
  obtain ⟨z0, z1, z2, rfl⟩ : ∃ z0 z1 z2 : Value, args = #[z0, z1, z2] := by
    have hs : args.size = 3 := by simpa [Cond.value, given_1] using h1
    obtain ⟨L⟩ := args
    match L, hs with
    | [z0, z1, z2], _ => exact ⟨z0, z1, z2, rfl⟩
  have hw := fun d (hd : d ∈ tables_1) => atoms_spec (ws := Jvm.Cond.code x code maxLocals ret :: tables_1) hat d (List.mem_cons_of_mem _ hd)
  obtain ⟨hsets, hown0⟩ := atoms_of _ (rest_1_c_eq ▸ (show rest_1_c.before _ s = true from hrest))
  have hfit : Fit s := fun {y c} hc i hi => by
    obtain ⟨ha, rfl⟩ := Array.getElem?_eq_some_iff.mp hc
    have q := List.all_eq_true.mp ((Array.all_eq_true_iff_forall_mem.mp hF) _ (Array.getElem_mem ha)) i (List.mem_range.mpr hi)
    simpa [Array.getElem?_eq_getElem hi] using q
  obtain ⟨i_0, e_0⟩ := is_v b0
  obtain rfl : z0 = (.int i_0) := Option.some.inj e_0
  obtain ⟨i_1, e_1⟩ := is_v b1
  obtain rfl : z1 = (.int i_1) := Option.some.inj e_1
  obtain ⟨i_2, e_2⟩ := is_v g2
  obtain rfl : z2 = (.int i_2) := Option.some.inj e_2
  obtain ⟨i7, e7⟩ := is_v (Cond.before_iff.mp (hsets _ (List.mem_of_getElem? (i := 10) rfl)))
  have S7 : Sta s s.heap "java/lang/String" "COMPACT_STRINGS" "Z" (.int i7) := Sta.start e7 (Or.inl (hsets _ (List.mem_of_getElem? (i := 9) rfl)))
  have n7 := not_v (Cond.before_iff.mp (hsets _ (List.mem_of_getElem? (i := 11) rfl)))
  have c7 : ¬ (i7 = (0 : Int32)) := gotF (Cond.eq_ints e7 (Term.int_eval (0))) n7
  obtain ⟨i8, e8, r8⟩ := isR_v (Cond.before_iff.mp (hsets _ (List.mem_of_getElem? (i := 17) rfl)))
  have S8 : Sta s s.heap "jdk/internal/util/Preconditions" "SIOOBE_FORMATTER" "Ljava/util/function/BiFunction;" i8 := Sta.start e8 (Or.inl (hsets _ (List.mem_of_getElem? (i := 16) rfl)))
  obtain ⟨a_AL, e_AL⟩ := exa_v (Cond.before_iff.mp (hsets _ (List.mem_of_getElem? (i := 7) rfl)))
  have S_AL : Sta s s.heap "java/util/ArrayList" "DEFAULTCAPACITY_EMPTY_ELEMENTDATA" "[Ljava/lang/Object;" (.ref a_AL) := Sta.start e_AL (Or.inr ⟨(hw _ (List.mem_of_getElem? (i := 45) rfl)), (hsets _ (List.mem_of_getElem? (i := 2) rfl))⟩)
  have E_AL : Exa s s.heap a_AL "[Ljava/lang/Object;" := Exa.start e_AL (Cond.before_iff.mp (hsets _ (List.mem_of_getElem? (i := 7) rfl)))
  obtain ⟨a_DO, e_DO⟩ := exa_v (Cond.before_iff.mp (hsets _ (List.mem_of_getElem? (i := 21) rfl)))
  have S_DO : Sta s s.heap "java/lang/Integer" "DigitOnes" "[B" (.ref a_DO) := Sta.start e_DO (Or.inl (hsets _ (List.mem_of_getElem? (i := 20) rfl)))
  have E_DO : Exa s s.heap a_DO "[B" := Exa.start e_DO (Cond.before_iff.mp (hsets _ (List.mem_of_getElem? (i := 21) rfl)))
  obtain ⟨c_DO, A_DO⟩ : ∃ k, Arv s s.heap a_DO k .byte (100 : Int32) digO (.int 0) := digStart (f := digOF) hfit e_DO (fun _ => e_DO) (Cond.before_iff.mp (hsets _ (List.mem_of_getElem? (i := 22) rfl))) (Cond.before_iff.mp (hsets _ (List.mem_of_getElem? (i := 23) rfl))) (fun i hi => by rfl) E_DO (hw _ (List.mem_of_getElem? (i := 19) rfl))
  have cx : Cx #[(.int i_0), (.int i_1), (.int i_2)] s i7 i8 a_AL a_DO c_DO := ⟨hw, S7, c7, S8, r8, S_AL, E_AL, S_DO, E_DO, A_DO⟩
  have ew : EW s #[(.int i_0), (.int i_1), (.int i_2)] EL1 := (EW.cons (w252 cx) (by decide) (EW.cons (w289 cx) (by decide) (EW.cons (w290 cx) (by decide) (EW.cons (w275 cx) (by decide) (EW.cons (w104 cx) (by decide) (EW.cons (w18 cx) (by decide) EW.nil))))))
  have inv0 : Inv s EL1 s.heap.size s.vm s.heap [] [] := ⟨⟨_, ew⟩, CHv.start ew (fun p hp => hcalls.1 p hp) (hsets _ (List.mem_of_getElem? (i := 11) rfl)) (strAtoms cx _ (by simp [Bundle.stringAtoms])) (strAtoms cx _ (by simp [Bundle.stringAtoms, Bundle.sN])), Old.start s, fun _ q => (nomatch q), List.nodup_nil, fun _ q => (nomatch q)⟩
  obtain ⟨n, o, h1, h2, h3, _, L, WL', FL', rfl, I', N, ⟨rfl, -⟩, hq⟩ := ct_law (l := l) (Z := s) cx (n0 := s.heap.size) i_0 i_1 i_2 s.heap [] [] tables_1 p e ha hc hk s m _ below hf ((Spec.applies_iff_loose hf).mp happ).1 ⟨rfl, State.Warmed39.refl s, rfl, inv0⟩ trivial
  exact ⟨n, _, h1, h2, h3, hpost _ _ _ _ _ _ ⟨Cond.after_iff.mpr rfl, Cond.after_iff.mpr (eq_i res_at (Term.int_eval (1)) rfl), trivial⟩ ⟨hq.1, hq.2.1, hq.2.2.1, (hq.2.2.2.sift fun y hy => Or.inr (N y hy)).mono (by decide) (by decide)⟩⟩
theorem main_1_1 : Claimed_1_1 := comes_1 fun _ _ _ _ _ _ h hF => ⟨h.1, hF⟩
theorem main_1_2 : Claimed_1_2 := comes_1 fun _ _ _ _ _ _ h hF => ⟨h.2.1, hF⟩
end Jvm.Pilot.@@N@@
namespace Jvm.Pilot.@@N@@
open Jvm Jvm.ClassFile Sem Op Lib Jvm.Free Jvm.Stand Jvm.Pilot.@@N@@.Jvm.D
/-! MADE BY PROGRAM (witnessworld.py) out of the Statement's table words and the real class files: 38 classes; the members and pool entries that the words name. The judged class is class 1, her method 2. -/
namespace start1
open Jvm.ClassFile
def u (s : String) : CpInfo := .utf8 (stringToUtf16 s)
/-- a pool by its gaps: so many unusable entries, then the entry; so many at the end -/
def gap : Nat → List CpInfo → List CpInfo
  | 0, r => r
  | n + 1, r => .unusable :: gap n r
def poolList (es : List (Nat × CpInfo)) (last : Nat) : List CpInfo := es.foldr (fun e r => gap e.1 (e.2 :: r)) (gap last [])
def pool (es : List (Nat × CpInfo)) (last : Nat) : Array CpInfo := ⟨poolList es last⟩
def fileOf (pool : Array CpInfo) (this : Nat) (attrs : Array Attribute := #[]) (ms : Array MethodInfo := #[]) (fl : Nat := 33) (sup : Nat := 0) (ifs : Array Nat := #[]) (fds : Array FieldInfo := #[]) : ClassFile where
  minorVersion := 0
  majorVersion := 65
  constantPool := pool
  accessFlags := fl
  thisClass := this
  superClass := sup
  interfaces := ifs
  fields := fds
  methods := ms
  attributes := attrs
def plain (name : String) (sup : Option ClassId) : Class where
  name := name
  kind := .ordinary
  loader := none
  accessFlags := 33
  super := sup
  interfaces := #[]
  cf := none
  fields := #[]
  methods := #[]
  instanceTypes := #[]
  staticTypes := #[]
  resolved := #[]
  callSites := []
  init := .initialized
  statics := none
  mirror := none

def pool0 : Array CpInfo := pool [(5, u "<init>"), (0, u "()V"), (1, .class_ 10), (1, u "java/lang/Object"), (7, u "()Ljava/lang/String;"), (18, u "toString"), (58, u "clone"), (0, u "()Ljava/lang/Object;")] 26

def k0c0 : Code := { maxStack := 0, maxLocals := 1, code := object_method_1_code, exceptionTable := #[], attributes := #[] }
def k0m0 : Method := { name := "<init>", desc := "()V", sig := { parameters := [], returnType := none }, accessFlags := 1, code := some k0c0 }
def k0m1 : Method := { name := "clone", desc := "()Ljava/lang/Object;", sig := { parameters := [], returnType := some (.object "java/lang/Object") }, accessFlags := 260, code := none }
def k0c2 : Code := { maxStack := 2, maxLocals := 1, code := ⟨#[0xbb, 0x00, 0x01, 0x59, 0xb7, 0x00, 0x03, 0x2a, 0xb6, 0x00, 0x07, 0xb6, 0x00, 0x0d, 0xb6, 0x00, 0x13, 0x12, 0x17, 0xb6, 0x00, 0x13, 0x2a, 0xb6, 0x00, 0x19, 0xb8, 0x00, 0x1d, 0xb6, 0x00, 0x13, 0xb6, 0x00, 0x23, 0xb0]⟩, exceptionTable := #[], attributes := #[] }
def k0m2 : Method := { name := "toString", desc := "()Ljava/lang/String;", sig := { parameters := [], returnType := some (.object "java/lang/String") }, accessFlags := 1, code := some k0c2 }
/-- java/lang/Object -/
def k0 : Class := { plain "java/lang/Object" none with
  accessFlags := 33
  interfaces := #[]
  cf := some (fileOf pool0 8 #[] #[{ accessFlags := 1, nameIndex := 5, descriptorIndex := 6, attributes := #[] }, { accessFlags := 260, nameIndex := 96, descriptorIndex := 97, attributes := #[] }, { accessFlags := 1, nameIndex := 37, descriptorIndex := 18, attributes := #[] }] 33 0 #[] #[])
  fields := #[]
  methods := #[k0m0, k0m1, k0m2]
  instanceTypes := #[]
  staticTypes := #[]
  resolved := Array.replicate 124 none
  statics := none }

def pool1 : Array CpInfo := pool [(2, .class_ 4), (1, u "java/lang/Object"), (0, u "<init>"), (0, u "()V"), (0, .class_ 8), (0, u "java/lang/String"), (0, .methodref 7 10), (0, .nameAndType 5 11), (0, u "([C)V"), (0, .methodref 13 14), (0, .class_ 15), (0, .nameAndType 16 17), (0, u "com/example/estate4/estate4/jdbc/SelectTextExistsPinLaw"), (0, u "str"), (0, u "(ICC)Ljava/lang/String;"), (0, .class_ 19), (0, u "com/example/estate4/estate4/jdbc/SelectText"), (0, .methodref 7 21), (0, .nameAndType 22 23), (0, u "valueOf"), (0, u "(C)Ljava/lang/String;"), (0, .methodref 18 25), (0, .nameAndType 5 26), (0, u "(Ljava/lang/String;)V"), (0, .methodref 18 28), (0, .nameAndType 29 30), (0, u "subselect"), (0, u "(Ljava/lang/String;)Lcom/example/estate4/estate4/jdbc/SelectText;"), (0, .methodref 18 32), (0, .nameAndType 33 34), (0, u "crossJoin"), (0, u "(Ljava/lang/String;)Ljava/lang/String;"), (0, .methodref 18 36), (0, .nameAndType 37 34), (0, u "exists"), (0, .methodref 7 39), (0, .nameAndType 40 41), (0, u "equals"), (0, u "(Ljava/lang/Object;)Z"), (3, u "law"), (0, u "(III)Z")] 4

def k1m0 : Method := { name := "<init>", desc := "()V", sig := { parameters := [], returnType := none }, accessFlags := 1, code := none }
def k1c1 : Code := { maxStack := 6, maxLocals := 3, code := method_2_code, exceptionTable := #[], attributes := #[] }
def k1m1 : Method := { name := "str", desc := "(ICC)Ljava/lang/String;", sig := { parameters := [.int, .char, .char], returnType := some (.object "java/lang/String") }, accessFlags := 10, code := some k1c1 }
def k1c2 : Code := { maxStack := 4, maxLocals := 21, code := code, exceptionTable := #[], attributes := #[] }
def k1m2 : Method := { name := "law", desc := "(III)Z", sig := { parameters := [.int, .int, .int], returnType := some .boolean }, accessFlags := 9, code := some k1c2 }
/-- com/example/estate4/estate4/jdbc/SelectTextExistsPinLaw -/
def k1 : Class := { plain "com/example/estate4/estate4/jdbc/SelectTextExistsPinLaw" (some 0) with
  accessFlags := 49
  interfaces := #[]
  cf := some (fileOf pool1 13 #[] #[{ accessFlags := 1, nameIndex := 5, descriptorIndex := 6, attributes := #[] }, { accessFlags := 10, nameIndex := 16, descriptorIndex := 17, attributes := #[] }, { accessFlags := 9, nameIndex := 45, descriptorIndex := 46, attributes := #[] }] 49 2 #[] #[])
  fields := #[]
  methods := #[k1m0, k1m1, k1m2]
  instanceTypes := #[]
  staticTypes := #[]
  resolved := Array.replicate 51 none
  statics := none }

def pool2 : Array CpInfo := pool [(1, .class_ 2), (0, u "java/io/Serializable"), (0, .class_ 4), (0, u "java/lang/Object")] 2

/-- java/io/Serializable -/
def k2 : Class := { plain "java/io/Serializable" (some 0) with
  accessFlags := 1537
  interfaces := #[]
  cf := some (fileOf pool2 1 #[] #[] 1537 3 #[] #[])
  fields := #[]
  methods := #[]
  instanceTypes := #[]
  staticTypes := #[]
  resolved := Array.replicate 7 none
  statics := none }

def pool3 : Array CpInfo := pool [(1, .class_ 2), (0, u "java/lang/Comparable"), (0, .class_ 4), (0, u "java/lang/Object")] 7

/-- java/lang/Comparable -/
def k3 : Class := { plain "java/lang/Comparable" (some 0) with
  accessFlags := 1537
  interfaces := #[]
  cf := some (fileOf pool3 1 #[] #[] 1537 3 #[] #[])
  fields := #[]
  methods := #[]
  instanceTypes := #[]
  staticTypes := #[]
  resolved := Array.replicate 12 none
  statics := none }

def pool4 : Array CpInfo := pool [(2, .class_ 4), (1, u "java/lang/CharSequence"), (42, .class_ 48), (0, u "java/lang/CharSequence$1CodePointIterator"), (10, .class_ 60), (0, u "java/lang/CharSequence$1CharIterator"), (5, .class_ 67), (0, u "java/lang/Object")] 63

/-- java/lang/CharSequence -/
def k4 : Class := { plain "java/lang/CharSequence" (some 0) with
  accessFlags := 1537
  interfaces := #[]
  cf := some (fileOf pool4 2 #[.nestMembers #[47, 59]] #[] 1537 66 #[] #[])
  fields := #[]
  methods := #[]
  instanceTypes := #[]
  staticTypes := #[]
  resolved := Array.replicate 131 none
  statics := none }

def pool5 : Array CpInfo := pool [(1, .class_ 2), (0, u "java/lang/constant/Constable"), (0, .class_ 4), (0, u "java/lang/Object")] 6

/-- java/lang/constant/Constable -/
def k5 : Class := { plain "java/lang/constant/Constable" (some 0) with
  accessFlags := 1537
  interfaces := #[]
  cf := some (fileOf pool5 1 #[] #[] 1537 3 #[] #[])
  fields := #[]
  methods := #[]
  instanceTypes := #[]
  staticTypes := #[]
  resolved := Array.replicate 11 none
  statics := none }

def pool6 : Array CpInfo := pool [(1, .class_ 2), (0, u "java/lang/constant/ConstantDesc"), (0, .class_ 4), (0, u "java/lang/Object")] 32

/-- java/lang/constant/ConstantDesc -/
def k6 : Class := { plain "java/lang/constant/ConstantDesc" (some 0) with
  accessFlags := 1537
  interfaces := #[]
  cf := some (fileOf pool6 1 #[] #[] 1537 3 #[] #[])
  fields := #[]
  methods := #[]
  instanceTypes := #[]
  staticTypes := #[]
  resolved := Array.replicate 37 none
  statics := none }

def pool7 : Array CpInfo := pool [(1, .methodref 2 3), (0, .class_ 4), (0, .nameAndType 5 6), (0, u "java/lang/Object"), (0, u "<init>"), (0, u "()V"), (0, .string 8), (0, u ""), (0, .fieldref 10 11), (0, .class_ 12), (0, .nameAndType 13 14), (0, u "java/lang/String"), (0, u "value"), (0, u "[B"), (0, .fieldref 10 16), (0, .nameAndType 17 18), (0, u "coder"), (0, u "B"), (2, u "hash"), (0, u "I"), (2, u "hashIsZero"), (0, u "Z"), (0, .methodref 10 28), (0, .nameAndType 5 29), (0, u "([CIILjava/lang/Void;)V"), (8, .fieldref 10 39), (0, .nameAndType 40 26), (0, u "COMPACT_STRINGS"), (1, .class_ 44), (1, u "java/lang/StringUTF16"), (0, u "compress"), (1, .methodref 42 48), (0, .nameAndType 49 50), (0, u "coderFromArrayLen"), (0, u "([BI)B"), (2, u "toBytes"), (0, .methodref 55 56), (0, .class_ 57), (0, .nameAndType 58 59), (0, u "java/util/Arrays"), (0, u "copyOfRange"), (0, u "([BII)[B"), (47, .class_ 109), (1, u "java/lang/StringLatin1"), (32, u "()Z"), (34, .methodref 42 178), (0, .nameAndType 45 179), (0, u "([CII)[B"), (13, .class_ 195), (1, u "java/lang/System"), (13, .methodref 10 210), (0, .nameAndType 5 211), (0, u "([BB)V"), (0, .methodref 193 213), (0, .nameAndType 214 215), (0, u "arraycopy"), (0, u "(Ljava/lang/Object;ILjava/lang/Object;II)V"), (118, u "()I"), (0, .methodref 10 336), (0, .nameAndType 17 337), (0, u "()B"), (2, u "()[B"), (28, u "(C)Z"), (92, .nameAndType 463 464), (0, u "toString"), (0, u "()Ljava/lang/String;"), (24, .methodref 10 490), (0, .nameAndType 5 491), (0, u "(Ljava/lang/AbstractStringBuilder;Ljava/lang/Void;)V"), (1, .nameAndType 494 142), (0, u "isLatin1"), (11, .nameAndType 507 334), (0, u "length"), (24, u "getBytes"), (8, .methodref 107 542), (0, .nameAndType 543 544), (0, u "equals"), (0, u "([B[B)Z"), (4, .methodref 550 506), (0, .class_ 551), (0, u "java/lang/AbstractStringBuilder"), (0, .methodref 550 553), (0, .nameAndType 554 340), (0, u "getValue"), (18, u "(Ljava/lang/Object;)Z"), (1, .class_ 576), (0, u "java/lang/CharSequence"), (22, u "CASE_INSENSITIVE_ORDER"), (0, u "Ljava/util/Comparator;"), (181, u "valueOf"), (0, u "(C)Ljava/lang/String;"), (24, u "(Ljava/lang/Object;)Ljava/lang/String;"), (12, u "([BIB)V"), (185, .methodref 2 462), (2, u "([C)V"), (4, .methodref 107 1016), (0, .nameAndType 1017 369), (0, u "canEncode"), (0, .methodref 107 1019), (0, .nameAndType 53 1020), (0, u "(C)[B"), (26, .methodref 550 493), (53, u "serialPersistentFields"), (0, u "[Ljava/io/ObjectStreamField;"), (0, .class_ 1104), (0, u "java/lang/String$CaseInsensitiveComparator"), (1, .class_ 1107), (0, u "java/io/Serializable"), (0, .class_ 1109), (0, u "java/lang/Comparable"), (0, .class_ 1111), (0, u "java/lang/constant/Constable"), (0, .class_ 1113), (0, u "java/lang/constant/ConstantDesc"), (2, u "serialVersionUID"), (0, u "J"), (3, u "REPL"), (0, u "C"), (2, u "LATIN1"), (1, u "UTF16"), (105, u "(Ljava/lang/StringBuilder;)V")] 217

def k7m0 : Method := { name := "<init>", desc := "()V", sig := { parameters := [], returnType := none }, accessFlags := 1, code := none }
def k7c1 : Code := { maxStack := 5, maxLocals := 2, code := jdk_42_method_3_code, exceptionTable := #[], attributes := #[] }
def k7m1 : Method := { name := "<init>", desc := "([C)V", sig := { parameters := [(.array .char)], returnType := none }, accessFlags := 1, code := some k7c1 }
def k7c2 : Code := { maxStack := 3, maxLocals := 2, code := jdk_42_method_53_code, exceptionTable := #[], attributes := #[] }
def k7m2 : Method := { name := "<init>", desc := "(Ljava/lang/StringBuilder;)V", sig := { parameters := [(.object "java/lang/StringBuilder")], returnType := none }, accessFlags := 1, code := some k7c2 }
def k7c3 : Code := { maxStack := 2, maxLocals := 1, code := jdk_42_method_54_code, exceptionTable := #[], attributes := #[] }
def k7m3 : Method := { name := "length", desc := "()I", sig := { parameters := [], returnType := some .int }, accessFlags := 1, code := some k7c3 }
def k7c4 : Code := { maxStack := 2, maxLocals := 3, code := jdk_42_method_66_code, exceptionTable := #[], attributes := #[] }
def k7m4 : Method := { name := "equals", desc := "(Ljava/lang/Object;)Z", sig := { parameters := [(.object "java/lang/Object")], returnType := some .boolean }, accessFlags := 1, code := some k7c4 }
def k7c5 : Code := { maxStack := 1, maxLocals := 1, code := jdk_42_method_133_code, exceptionTable := #[], attributes := #[] }
def k7m5 : Method := { name := "valueOf", desc := "(Ljava/lang/Object;)Ljava/lang/String;", sig := { parameters := [(.object "java/lang/Object")], returnType := some (.object "java/lang/String") }, accessFlags := 9, code := some k7c5 }
def k7c6 : Code := { maxStack := 4, maxLocals := 1, code := jdk_42_method_139_code, exceptionTable := #[], attributes := #[] }
def k7m6 : Method := { name := "valueOf", desc := "(C)Ljava/lang/String;", sig := { parameters := [.char], returnType := some (.object "java/lang/String") }, accessFlags := 9, code := some k7c6 }
def k7c7 : Code := { maxStack := 5, maxLocals := 4, code := jdk_42_method_147_code, exceptionTable := #[], attributes := #[] }
def k7m7 : Method := { name := "getBytes", desc := "([BIB)V", sig := { parameters := [(.array .byte), .int, .byte], returnType := none }, accessFlags := 0, code := some k7c7 }
def k7c8 : Code := { maxStack := 4, maxLocals := 6, code := jdk_42_method_149_code, exceptionTable := #[], attributes := #[] }
def k7m8 : Method := { name := "<init>", desc := "([CIILjava/lang/Void;)V", sig := { parameters := [(.array .char), .int, .int, (.object "java/lang/Void")], returnType := none }, accessFlags := 2, code := some k7c8 }
def k7c9 : Code := { maxStack := 5, maxLocals := 5, code := jdk_42_method_150_code, exceptionTable := #[], attributes := #[] }
def k7m9 : Method := { name := "<init>", desc := "(Ljava/lang/AbstractStringBuilder;Ljava/lang/Void;)V", sig := { parameters := [(.object "java/lang/AbstractStringBuilder"), (.object "java/lang/Void")], returnType := none }, accessFlags := 0, code := some k7c9 }
def k7c10 : Code := { maxStack := 2, maxLocals := 3, code := jdk_42_method_151_code, exceptionTable := #[], attributes := #[] }
def k7m10 : Method := { name := "<init>", desc := "([BB)V", sig := { parameters := [(.array .byte), .byte], returnType := none }, accessFlags := 0, code := some k7c10 }
def k7c11 : Code := { maxStack := 1, maxLocals := 1, code := jdk_42_method_152_code, exceptionTable := #[], attributes := #[] }
def k7m11 : Method := { name := "coder", desc := "()B", sig := { parameters := [], returnType := some .byte }, accessFlags := 0, code := some k7c11 }
/-- java/lang/String -/
def k7 : Class := { plain "java/lang/String" (some 0) with
  accessFlags := 49
  interfaces := #[2, 3, 4, 5, 6]
  cf := some (fileOf pool7 10 #[.nestMembers #[1103]] #[{ accessFlags := 1, nameIndex := 5, descriptorIndex := 6, attributes := #[] }, { accessFlags := 1, nameIndex := 5, descriptorIndex := 1010, attributes := #[] }, { accessFlags := 1, nameIndex := 5, descriptorIndex := 1233, attributes := #[] }, { accessFlags := 1, nameIndex := 507, descriptorIndex := 334, attributes := #[] }, { accessFlags := 1, nameIndex := 543, descriptorIndex := 573, attributes := #[] }, { accessFlags := 9, nameIndex := 782, descriptorIndex := 808, attributes := #[] }, { accessFlags := 9, nameIndex := 782, descriptorIndex := 783, attributes := #[] }, { accessFlags := 0, nameIndex := 532, descriptorIndex := 821, attributes := #[] }, { accessFlags := 2, nameIndex := 5, descriptorIndex := 29, attributes := #[] }, { accessFlags := 0, nameIndex := 5, descriptorIndex := 491, attributes := #[] }, { accessFlags := 0, nameIndex := 5, descriptorIndex := 211, attributes := #[] }, { accessFlags := 0, nameIndex := 17, descriptorIndex := 337, attributes := #[] }] 49 2 #[1106, 1108, 575, 1110, 1112] #[{ accessFlags := 18, nameIndex := 13, descriptorIndex := 14, attributes := #[] }, { accessFlags := 18, nameIndex := 17, descriptorIndex := 18, attributes := #[] }, { accessFlags := 2, nameIndex := 21, descriptorIndex := 22, attributes := #[] }, { accessFlags := 2, nameIndex := 25, descriptorIndex := 26, attributes := #[] }, { accessFlags := 26, nameIndex := 1116, descriptorIndex := 1117, attributes := #[] }, { accessFlags := 24, nameIndex := 40, descriptorIndex := 26, attributes := #[] }, { accessFlags := 26, nameIndex := 1101, descriptorIndex := 1102, attributes := #[] }, { accessFlags := 26, nameIndex := 1121, descriptorIndex := 1122, attributes := #[] }, { accessFlags := 25, nameIndex := 599, descriptorIndex := 600, attributes := #[] }, { accessFlags := 24, nameIndex := 1125, descriptorIndex := 18, attributes := #[] }, { accessFlags := 24, nameIndex := 1127, descriptorIndex := 18, attributes := #[] }])
  fields := #[{ name := "value", type := (.array .byte), accessFlags := 18, slot := 0, constantValue := 0 }, { name := "coder", type := .byte, accessFlags := 18, slot := 1, constantValue := 0 }, { name := "hash", type := .int, accessFlags := 2, slot := 2, constantValue := 0 }, { name := "hashIsZero", type := .boolean, accessFlags := 2, slot := 3, constantValue := 0 }, { name := "serialVersionUID", type := .long, accessFlags := 26, slot := 0, constantValue := 0 }, { name := "COMPACT_STRINGS", type := .boolean, accessFlags := 24, slot := 1, constantValue := 0 }, { name := "serialPersistentFields", type := (.array (.object "java/io/ObjectStreamField")), accessFlags := 26, slot := 2, constantValue := 0 }, { name := "REPL", type := .char, accessFlags := 26, slot := 3, constantValue := 0 }, { name := "CASE_INSENSITIVE_ORDER", type := (.object "java/util/Comparator"), accessFlags := 25, slot := 4, constantValue := 0 }, { name := "LATIN1", type := .byte, accessFlags := 24, slot := 5, constantValue := 0 }, { name := "UTF16", type := .byte, accessFlags := 24, slot := 6, constantValue := 0 }]
  methods := #[k7m0, k7m1, k7m2, k7m3, k7m4, k7m5, k7m6, k7m7, k7m8, k7m9, k7m10, k7m11]
  instanceTypes := #[(.array .byte), .byte, .int, .boolean]
  staticTypes := #[.long, .boolean, (.array (.object "java/io/ObjectStreamField")), .char, (.object "java/util/Comparator"), .byte, .byte]
  resolved := Array.replicate 1451 none
  statics := some 0 }

def pool8 : Array CpInfo := pool [(1, .class_ 2), (0, u "com/example/estate4/estate4/jdbc/SelectText$Aliases"), (0, .methodref 1 4), (0, .nameAndType 5 6), (0, u "<init>"), (0, u "()V"), (0, .methodref 8 9), (0, .class_ 10), (0, .nameAndType 5 11), (0, u "com/example/estate4/estate4/jdbc/SelectText"), (0, u "(Ljava/lang/String;Lcom/example/estate4/estate4/jdbc/SelectText$Aliases;)V"), (0, .methodref 13 4), (0, .class_ 14), (0, u "java/lang/Object"), (0, .class_ 16), (0, u "java/util/ArrayList"), (0, .methodref 15 4), (0, .fieldref 8 19), (0, .nameAndType 20 21), (0, u "columns"), (0, u "Ljava/util/List;"), (0, .fieldref 8 23), (0, .nameAndType 24 21), (0, u "tableColumns"), (0, .fieldref 8 26), (0, .nameAndType 27 21), (0, u "grouping"), (0, .class_ 29), (0, u "java/lang/StringBuilder"), (0, .methodref 28 4), (0, .fieldref 8 32), (0, .nameAndType 33 34), (0, u "from"), (0, u "Ljava/lang/StringBuilder;"), (0, .fieldref 8 36), (0, .nameAndType 37 38), (0, u "aliases"), (0, u "Lcom/example/estate4/estate4/jdbc/SelectText$Aliases;"), (0, .fieldref 8 40), (0, .nameAndType 41 42), (0, u "table"), (0, u "Ljava/lang/String;"), (0, .methodref 1 44), (0, .nameAndType 45 46), (0, u "next"), (0, u "()Ljava/lang/String;"), (0, .fieldref 8 48), (0, .nameAndType 49 42), (0, u "first"), (0, .methodref 28 51), (0, .nameAndType 52 53), (0, u "append"), (0, u "(Ljava/lang/String;)Ljava/lang/StringBuilder;"), (0, .methodref 28 55), (0, .nameAndType 52 56), (0, u "(C)Ljava/lang/StringBuilder;"), (9, .class_ 68), (1, u "com/example/estate4/estate4/jdbc/SelectText$Joined"), (11, .fieldref 8 81), (0, .nameAndType 82 83), (0, u "joins"), (0, u "Z"), (13, .methodref 28 98), (0, .nameAndType 99 46), (0, u "toString"), (0, .string 101), (0, u " cross join "), (25, u "(Ljava/lang/String;)V"), (14, .string 143), (0, u " where "), (41, .methodref 28 186), (0, .nameAndType 52 187), (0, u "(Ljava/lang/Object;)Ljava/lang/StringBuilder;"), (4, .string 193), (0, u ")"), (0, .string 195), (0, u "exists (select 1 from "), (6, u "FIRST"), (7, u "subselect"), (0, u "(Ljava/lang/String;)Lcom/example/estate4/estate4/jdbc/SelectText;"), (4, u "crossJoin"), (0, u "(Ljava/lang/String;)Ljava/lang/String;"), (9, u "exists")] 8

def k8c0 : Code := { maxStack := 4, maxLocals := 2, code := prog_6_method_1_code, exceptionTable := #[], attributes := #[] }
def k8m0 : Method := { name := "<init>", desc := "(Ljava/lang/String;)V", sig := { parameters := [(.object "java/lang/String")], returnType := none }, accessFlags := 1, code := some k8c0 }
def k8c1 : Code := { maxStack := 3, maxLocals := 3, code := prog_6_method_2_code, exceptionTable := #[], attributes := #[] }
def k8m1 : Method := { name := "<init>", desc := "(Ljava/lang/String;Lcom/example/estate4/estate4/jdbc/SelectText$Aliases;)V", sig := { parameters := [(.object "java/lang/String"), (.object "com/example/estate4/estate4/jdbc/SelectText$Aliases")], returnType := none }, accessFlags := 2, code := some k8c1 }
def k8c2 : Code := { maxStack := 4, maxLocals := 2, code := prog_6_method_3_code, exceptionTable := #[], attributes := #[] }
def k8m2 : Method := { name := "subselect", desc := "(Ljava/lang/String;)Lcom/example/estate4/estate4/jdbc/SelectText;", sig := { parameters := [(.object "java/lang/String")], returnType := some (.object "com/example/estate4/estate4/jdbc/SelectText") }, accessFlags := 1, code := some k8c2 }
def k8c3 : Code := { maxStack := 2, maxLocals := 3, code := prog_6_method_11_code, exceptionTable := #[], attributes := #[] }
def k8m3 : Method := { name := "crossJoin", desc := "(Ljava/lang/String;)Ljava/lang/String;", sig := { parameters := [(.object "java/lang/String")], returnType := some (.object "java/lang/String") }, accessFlags := 1, code := some k8c3 }
def k8c4 : Code := { maxStack := 2, maxLocals := 2, code := prog_6_method_22_code, exceptionTable := #[], attributes := #[] }
def k8m4 : Method := { name := "exists", desc := "(Ljava/lang/String;)Ljava/lang/String;", sig := { parameters := [(.object "java/lang/String")], returnType := some (.object "java/lang/String") }, accessFlags := 1, code := some k8c4 }
/-- com/example/estate4/estate4/jdbc/SelectText -/
def k8 : Class := { plain "com/example/estate4/estate4/jdbc/SelectText" (some 0) with
  accessFlags := 49
  interfaces := #[]
  cf := some (fileOf pool8 8 #[.nestMembers #[1, 66]] #[{ accessFlags := 1, nameIndex := 5, descriptorIndex := 127, attributes := #[] }, { accessFlags := 2, nameIndex := 5, descriptorIndex := 11, attributes := #[] }, { accessFlags := 1, nameIndex := 210, descriptorIndex := 211, attributes := #[] }, { accessFlags := 1, nameIndex := 216, descriptorIndex := 217, attributes := #[] }, { accessFlags := 1, nameIndex := 227, descriptorIndex := 217, attributes := #[] }] 49 13 #[] #[{ accessFlags := 25, nameIndex := 202, descriptorIndex := 42, attributes := #[] }, { accessFlags := 18, nameIndex := 20, descriptorIndex := 21, attributes := #[] }, { accessFlags := 18, nameIndex := 24, descriptorIndex := 21, attributes := #[] }, { accessFlags := 18, nameIndex := 27, descriptorIndex := 21, attributes := #[] }, { accessFlags := 18, nameIndex := 33, descriptorIndex := 34, attributes := #[] }, { accessFlags := 18, nameIndex := 37, descriptorIndex := 38, attributes := #[] }, { accessFlags := 18, nameIndex := 41, descriptorIndex := 42, attributes := #[] }, { accessFlags := 18, nameIndex := 49, descriptorIndex := 42, attributes := #[] }, { accessFlags := 2, nameIndex := 82, descriptorIndex := 83, attributes := #[] }])
  fields := #[{ name := "FIRST", type := (.object "java/lang/String"), accessFlags := 25, slot := 0, constantValue := 0 }, { name := "columns", type := (.object "java/util/List"), accessFlags := 18, slot := 0, constantValue := 0 }, { name := "tableColumns", type := (.object "java/util/List"), accessFlags := 18, slot := 1, constantValue := 0 }, { name := "grouping", type := (.object "java/util/List"), accessFlags := 18, slot := 2, constantValue := 0 }, { name := "from", type := (.object "java/lang/StringBuilder"), accessFlags := 18, slot := 3, constantValue := 0 }, { name := "aliases", type := (.object "com/example/estate4/estate4/jdbc/SelectText$Aliases"), accessFlags := 18, slot := 4, constantValue := 0 }, { name := "table", type := (.object "java/lang/String"), accessFlags := 18, slot := 5, constantValue := 0 }, { name := "first", type := (.object "java/lang/String"), accessFlags := 18, slot := 6, constantValue := 0 }, { name := "joins", type := .boolean, accessFlags := 2, slot := 7, constantValue := 0 }]
  methods := #[k8m0, k8m1, k8m2, k8m3, k8m4]
  instanceTypes := #[(.object "java/util/List"), (.object "java/util/List"), (.object "java/util/List"), (.object "java/lang/StringBuilder"), (.object "com/example/estate4/estate4/jdbc/SelectText$Aliases"), (.object "java/lang/String"), (.object "java/lang/String"), .boolean]
  staticTypes := #[(.object "java/lang/String")]
  resolved := ⟨none :: some (.cls 9) :: none :: some (.method ⟨9, 0⟩) :: List.replicate 232 none⟩
  statics := none }

def pool9 : Array CpInfo := pool [(1, .methodref 2 3), (0, .class_ 4), (0, .nameAndType 5 6), (0, u "java/lang/Object"), (0, u "<init>"), (0, u "()V"), (0, .class_ 8), (0, u "java/lang/StringBuilder"), (0, .methodref 7 3), (0, .string 11), (0, u "t"), (0, .methodref 7 13), (0, .nameAndType 14 15), (0, u "append"), (0, u "(Ljava/lang/String;)Ljava/lang/StringBuilder;"), (0, .fieldref 17 18), (0, .class_ 19), (0, .nameAndType 20 21), (0, u "com/example/estate4/estate4/jdbc/SelectText$Aliases"), (0, u "handedOut"), (0, u "I"), (0, .methodref 7 23), (0, .nameAndType 14 24), (0, u "(I)Ljava/lang/StringBuilder;"), (0, .methodref 7 26), (0, .nameAndType 27 28), (0, u "toString"), (0, u "()Ljava/lang/String;"), (2, u "next"), (3, .class_ 36), (0, u "com/example/estate4/estate4/jdbc/SelectText")] 2

def k9c0 : Code := { maxStack := 1, maxLocals := 1, code := prog_7_method_1_code, exceptionTable := #[], attributes := #[] }
def k9m0 : Method := { name := "<init>", desc := "()V", sig := { parameters := [], returnType := none }, accessFlags := 2, code := some k9c0 }
def k9c1 : Code := { maxStack := 3, maxLocals := 2, code := prog_7_method_2_code, exceptionTable := #[], attributes := #[] }
def k9m1 : Method := { name := "next", desc := "()Ljava/lang/String;", sig := { parameters := [], returnType := some (.object "java/lang/String") }, accessFlags := 0, code := some k9c1 }
/-- com/example/estate4/estate4/jdbc/SelectText$Aliases -/
def k9 : Class := { plain "com/example/estate4/estate4/jdbc/SelectText$Aliases" (some 0) with
  accessFlags := 48
  interfaces := #[]
  cf := some (fileOf pool9 17 #[.nestHost 35] #[{ accessFlags := 2, nameIndex := 5, descriptorIndex := 6, attributes := #[] }, { accessFlags := 0, nameIndex := 31, descriptorIndex := 28, attributes := #[] }] 48 2 #[] #[{ accessFlags := 2, nameIndex := 20, descriptorIndex := 21, attributes := #[] }])
  fields := #[{ name := "handedOut", type := .int, accessFlags := 2, slot := 0, constantValue := 0 }]
  methods := #[k9m0, k9m1]
  instanceTypes := #[.int]
  staticTypes := #[]
  resolved := Array.replicate 39 none
  statics := none }

def pool10 : Array CpInfo := pool [(8, .class_ 10), (1, u "java/lang/Iterable"), (24, .class_ 36), (0, u "java/lang/Object")] 25

/-- java/lang/Iterable -/
def k10 : Class := { plain "java/lang/Iterable" (some 0) with
  accessFlags := 1537
  interfaces := #[]
  cf := some (fileOf pool10 8 #[] #[] 1537 35 #[] #[])
  fields := #[]
  methods := #[]
  instanceTypes := #[]
  staticTypes := #[]
  resolved := Array.replicate 62 none
  statics := none }

def pool11 : Array CpInfo := pool [(10, .class_ 12), (1, u "java/util/Collection"), (47, .class_ 61), (0, u "java/lang/Object"), (0, .class_ 63), (0, u "java/lang/Iterable")] 51

/-- java/util/Collection -/
def k11 : Class := { plain "java/util/Collection" (some 0) with
  accessFlags := 1537
  interfaces := #[10]
  cf := some (fileOf pool11 10 #[] #[] 1537 60 #[62] #[])
  fields := #[]
  methods := #[]
  instanceTypes := #[]
  staticTypes := #[]
  resolved := Array.replicate 115 none
  statics := none }

def pool12 : Array CpInfo := pool [(1, .methodref 2 3), (0, .class_ 4), (0, .nameAndType 5 6), (0, u "java/lang/Object"), (0, u "<init>"), (0, u "()V"), (1, .class_ 10), (1, u "java/util/AbstractCollection"), (66, .class_ 78), (0, u "java/util/Collection")] 81

def k12c0 : Code := { maxStack := 1, maxLocals := 1, code := jdk_22_method_1_code, exceptionTable := #[], attributes := #[] }
def k12m0 : Method := { name := "<init>", desc := "()V", sig := { parameters := [], returnType := none }, accessFlags := 4, code := some k12c0 }
/-- java/util/AbstractCollection -/
def k12 : Class := { plain "java/util/AbstractCollection" (some 0) with
  accessFlags := 1057
  interfaces := #[11]
  cf := some (fileOf pool12 8 #[] #[{ accessFlags := 4, nameIndex := 5, descriptorIndex := 6, attributes := #[] }] 1057 2 #[77] #[])
  fields := #[]
  methods := #[k12m0]
  instanceTypes := #[]
  staticTypes := #[]
  resolved := Array.replicate 160 none
  statics := none }

def pool13 : Array CpInfo := pool [(8, .class_ 10), (1, u "java/util/SequencedCollection"), (15, .class_ 27), (0, u "java/lang/Object"), (0, .class_ 29), (0, u "java/util/Collection")] 27

/-- java/util/SequencedCollection -/
def k13 : Class := { plain "java/util/SequencedCollection" (some 0) with
  accessFlags := 1537
  interfaces := #[11]
  cf := some (fileOf pool13 8 #[] #[] 1537 26 #[28] #[])
  fields := #[]
  methods := #[]
  instanceTypes := #[]
  staticTypes := #[]
  resolved := Array.replicate 57 none
  statics := none }

def pool14 : Array CpInfo := pool [(8, .class_ 10), (1, u "java/util/List"), (92, .class_ 104), (0, u "java/lang/Object"), (15, .class_ 121), (0, u "java/util/SequencedCollection")] 129

/-- java/util/List -/
def k14 : Class := { plain "java/util/List" (some 0) with
  accessFlags := 1537
  interfaces := #[13]
  cf := some (fileOf pool14 8 #[] #[] 1537 103 #[120] #[])
  fields := #[]
  methods := #[]
  instanceTypes := #[]
  staticTypes := #[]
  resolved := Array.replicate 251 none
  statics := none }

def pool15 : Array CpInfo := pool [(1, .methodref 2 3), (0, .class_ 4), (0, .nameAndType 5 6), (0, u "java/util/AbstractCollection"), (0, u "<init>"), (0, u "()V"), (0, .fieldref 8 9), (0, .class_ 10), (0, .nameAndType 11 12), (0, u "java/util/AbstractList"), (0, u "modCount"), (0, u "I"), (64, .class_ 78), (0, u "java/util/AbstractList$Itr"), (3, .class_ 83), (0, u "java/util/AbstractList$ListItr"), (9, .class_ 94), (0, u "java/util/AbstractList$RandomAccessSubList"), (3, .class_ 99), (0, u "java/util/AbstractList$SubList"), (33, .class_ 134), (0, u "java/util/List"), (73, .class_ 209), (0, u "java/util/AbstractList$SubList$1"), (0, .class_ 211), (0, u "java/util/AbstractList$RandomAccessSpliterator")] 6

def k15c0 : Code := { maxStack := 2, maxLocals := 1, code := jdk_39_method_1_code, exceptionTable := #[], attributes := #[] }
def k15m0 : Method := { name := "<init>", desc := "()V", sig := { parameters := [], returnType := none }, accessFlags := 4, code := some k15c0 }
/-- java/util/AbstractList -/
def k15 : Class := { plain "java/util/AbstractList" (some 12) with
  accessFlags := 1057
  interfaces := #[14]
  cf := some (fileOf pool15 8 #[.nestMembers #[93, 98, 208, 210, 82, 77]] #[{ accessFlags := 4, nameIndex := 5, descriptorIndex := 6, attributes := #[] }] 1057 2 #[133] #[{ accessFlags := 132, nameIndex := 11, descriptorIndex := 12, attributes := #[] }])
  fields := #[{ name := "modCount", type := .int, accessFlags := 132, slot := 0, constantValue := 0 }]
  methods := #[k15m0]
  instanceTypes := #[.int]
  staticTypes := #[]
  resolved := Array.replicate 218 none
  statics := none }

def pool16 : Array CpInfo := pool [(1, .class_ 2), (0, u "java/util/RandomAccess"), (0, .class_ 4), (0, u "java/lang/Object")] 2

/-- java/util/RandomAccess -/
def k16 : Class := { plain "java/util/RandomAccess" (some 0) with
  accessFlags := 1537
  interfaces := #[]
  cf := some (fileOf pool16 1 #[] #[] 1537 3 #[] #[])
  fields := #[]
  methods := #[]
  instanceTypes := #[]
  staticTypes := #[]
  resolved := Array.replicate 7 none
  statics := none }

def pool17 : Array CpInfo := pool [(1, .class_ 2), (0, u "java/lang/Cloneable"), (0, .class_ 4), (0, u "java/lang/Object")] 2

/-- java/lang/Cloneable -/
def k17 : Class := { plain "java/lang/Cloneable" (some 0) with
  accessFlags := 1537
  interfaces := #[]
  cf := some (fileOf pool17 1 #[] #[] 1537 3 #[] #[])
  fields := #[]
  methods := #[]
  instanceTypes := #[]
  staticTypes := #[]
  resolved := Array.replicate 7 none
  statics := none }

def pool18 : Array CpInfo := pool [(1, .methodref 2 3), (0, .class_ 4), (0, .nameAndType 5 6), (0, u "java/util/AbstractList"), (0, u "<init>"), (0, u "()V"), (2, .fieldref 10 11), (0, .class_ 12), (0, .nameAndType 13 14), (0, u "java/util/ArrayList"), (0, u "elementData"), (0, u "[Ljava/lang/Object;"), (2, u "EMPTY_ELEMENTDATA"), (21, .fieldref 10 40), (0, .nameAndType 41 14), (0, u "DEFAULTCAPACITY_EMPTY_ELEMENTDATA"), (8, u "size"), (0, u "I"), (96, .class_ 149), (0, u "java/util/List"), (112, .class_ 263), (0, u "java/util/ArrayList$ListItr"), (3, .class_ 268), (0, u "java/util/ArrayList$Itr"), (7, .class_ 277), (0, u "java/util/ArrayList$SubList"), (12, .class_ 291), (0, u "java/util/ArrayList$ArrayListSpliterator"), (37, .class_ 330), (0, u "java/util/RandomAccess"), (0, .class_ 332), (0, u "java/lang/Cloneable"), (0, .class_ 334), (0, u "java/io/Serializable"), (0, u "serialVersionUID"), (0, u "J"), (3, u "DEFAULT_CAPACITY"), (159, .class_ 501), (0, u "java/util/ArrayList$SubList$2"), (0, .class_ 503), (0, u "java/util/ArrayList$SubList$1")] 5

def k18c0 : Code := { maxStack := 2, maxLocals := 1, code := jdk_38_method_2_code, exceptionTable := #[], attributes := #[] }
def k18m0 : Method := { name := "<init>", desc := "()V", sig := { parameters := [], returnType := none }, accessFlags := 1, code := some k18c0 }
/-- java/util/ArrayList -/
def k18 : Class := { plain "java/util/ArrayList" (some 15) with
  accessFlags := 33
  interfaces := #[14, 16, 17, 2]
  cf := some (fileOf pool18 10 #[.nestMembers #[290, 276, 500, 502, 262, 267]] #[{ accessFlags := 1, nameIndex := 5, descriptorIndex := 6, attributes := #[] }] 33 2 #[148, 329, 331, 333] #[{ accessFlags := 26, nameIndex := 335, descriptorIndex := 336, attributes := #[] }, { accessFlags := 26, nameIndex := 340, descriptorIndex := 51, attributes := #[] }, { accessFlags := 26, nameIndex := 17, descriptorIndex := 14, attributes := #[] }, { accessFlags := 26, nameIndex := 41, descriptorIndex := 14, attributes := #[] }, { accessFlags := 128, nameIndex := 13, descriptorIndex := 14, attributes := #[] }, { accessFlags := 2, nameIndex := 50, descriptorIndex := 51, attributes := #[] }])
  fields := #[{ name := "serialVersionUID", type := .long, accessFlags := 26, slot := 0, constantValue := 0 }, { name := "DEFAULT_CAPACITY", type := .int, accessFlags := 26, slot := 1, constantValue := 0 }, { name := "EMPTY_ELEMENTDATA", type := (.array (.object "java/lang/Object")), accessFlags := 26, slot := 2, constantValue := 0 }, { name := "DEFAULTCAPACITY_EMPTY_ELEMENTDATA", type := (.array (.object "java/lang/Object")), accessFlags := 26, slot := 3, constantValue := 0 }, { name := "elementData", type := (.array (.object "java/lang/Object")), accessFlags := 128, slot := 1, constantValue := 0 }, { name := "size", type := .int, accessFlags := 2, slot := 2, constantValue := 0 }]
  methods := #[k18m0]
  instanceTypes := #[.int, (.array (.object "java/lang/Object")), .int]
  staticTypes := #[.long, .int, (.array (.object "java/lang/Object")), (.array (.object "java/lang/Object"))]
  resolved := Array.replicate 509 none
  statics := some 1 }

def pool19 : Array CpInfo := pool [(1, .class_ 2), (0, u "java/lang/Appendable"), (0, .class_ 4), (0, u "java/lang/Object")] 9

/-- java/lang/Appendable -/
def k19 : Class := { plain "java/lang/Appendable" (some 0) with
  accessFlags := 1537
  interfaces := #[]
  cf := some (fileOf pool19 1 #[] #[] 1537 3 #[] #[])
  fields := #[]
  methods := #[]
  instanceTypes := #[]
  staticTypes := #[]
  resolved := Array.replicate 14 none
  statics := none }

def pool20 : Array CpInfo := pool [(1, .class_ 2), (0, u "java/lang/String"), (0, .methodref 4 5), (0, .class_ 6), (0, .nameAndType 7 8), (0, u "java/lang/Object"), (0, u "<init>"), (0, u "()V"), (1, .class_ 12), (1, u "java/lang/AbstractStringBuilder"), (0, u "EMPTYVALUE"), (0, u "[B"), (0, .fieldref 10 16), (0, .nameAndType 17 14), (0, u "value"), (0, .fieldref 1 19), (0, .nameAndType 20 21), (0, u "COMPACT_STRINGS"), (0, u "Z"), (0, .fieldref 10 23), (0, .nameAndType 24 25), (0, u "coder"), (0, u "B"), (6, .methodref 1 33), (0, .nameAndType 34 35), (0, u "length"), (0, u "()I"), (0, .class_ 37), (0, u "java/lang/Integer"), (1, .integer 2147483647), (0, .methodref 1 41), (0, .nameAndType 24 42), (0, u "()B"), (2, u "append"), (0, u "(Ljava/lang/String;)Ljava/lang/AbstractStringBuilder;"), (1, .class_ 49), (0, u "java/lang/CharSequence"), (19, u "(Ljava/lang/String;)V"), (5, u "maybeLatin1"), (3, .fieldref 10 80), (0, .nameAndType 81 82), (0, u "count"), (0, u "I"), (0, .methodref 10 84), (0, .nameAndType 85 86), (0, u "isLatin1"), (0, u "()Z"), (1, .class_ 90), (1, u "java/lang/StringLatin1"), (9, .methodref 10 101), (0, .nameAndType 102 103), (0, u "ensureCapacityInternal"), (0, u "(I)V"), (0, .methodref 10 105), (0, .nameAndType 106 107), (0, u "newCapacity"), (0, u "(I)I"), (0, .methodref 109 110), (0, .class_ 111), (0, .nameAndType 112 113), (0, u "java/util/Arrays"), (0, u "copyOf"), (0, u "([BI)[B"), (0, .methodref 115 116), (0, .class_ 117), (0, .nameAndType 118 119), (0, u "jdk/internal/util/ArraysSupport"), (0, u "newLength"), (0, u "(III)I"), (68, u "getChars"), (2, .methodref 88 192), (0, .nameAndType 193 194), (0, u "canEncode"), (0, u "(C)Z"), (13, .methodref 10 209), (0, .nameAndType 210 211), (0, u "putStringAt"), (0, u "(ILjava/lang/String;)V"), (5, u "inflateIfNeededFor"), (2, .nameAndType 221 222), (0, u "getBytes"), (0, u "([BIB)V"), (22, .methodref 36 246), (0, .nameAndType 247 107), (0, u "stringSize"), (0, .methodref 36 249), (0, .nameAndType 188 250), (0, u "(II[B)I"), (41, u "(C)Ljava/lang/AbstractStringBuilder;"), (104, .methodref 10 398), (0, .nameAndType 217 69), (0, .methodref 1 220), (3, u "()[B"), (40, .class_ 445), (0, u "java/lang/Appendable"), (65, u "(I)Ljava/lang/AbstractStringBuilder;"), (40, u "getValue")] 56

def k20m0 : Method := { name := "<init>", desc := "()V", sig := { parameters := [], returnType := none }, accessFlags := 0, code := none }
def k20c1 : Code := { maxStack := 2, maxLocals := 2, code := jdk_68_method_2_code, exceptionTable := #[], attributes := #[] }
def k20m1 : Method := { name := "<init>", desc := "(I)V", sig := { parameters := [.int], returnType := none }, accessFlags := 0, code := some k20c1 }
def k20c2 : Code := { maxStack := 1, maxLocals := 1, code := jdk_68_method_6_code, exceptionTable := #[], attributes := #[] }
def k20m2 : Method := { name := "length", desc := "()I", sig := { parameters := [], returnType := some .int }, accessFlags := 1, code := some k20c2 }
def k20c3 : Code := { maxStack := 4, maxLocals := 3, code := jdk_68_method_9_code, exceptionTable := #[], attributes := #[] }
def k20m3 : Method := { name := "ensureCapacityInternal", desc := "(I)V", sig := { parameters := [.int], returnType := none }, accessFlags := 2, code := some k20c3 }
def k20c4 : Code := { maxStack := 5, maxLocals := 6, code := jdk_68_method_10_code, exceptionTable := #[], attributes := #[] }
def k20m4 : Method := { name := "newCapacity", desc := "(I)I", sig := { parameters := [.int], returnType := some .int }, accessFlags := 2, code := some k20c4 }
def k20c5 : Code := { maxStack := 3, maxLocals := 3, code := jdk_68_method_22_code, exceptionTable := #[], attributes := #[] }
def k20m5 : Method := { name := "append", desc := "(Ljava/lang/String;)Ljava/lang/AbstractStringBuilder;", sig := { parameters := [(.object "java/lang/String")], returnType := some (.object "java/lang/AbstractStringBuilder") }, accessFlags := 1, code := some k20c5 }
def k20c6 : Code := { maxStack := 5, maxLocals := 2, code := jdk_68_method_31_code, exceptionTable := #[], attributes := #[] }
def k20m6 : Method := { name := "append", desc := "(C)Ljava/lang/AbstractStringBuilder;", sig := { parameters := [.char], returnType := some (.object "java/lang/AbstractStringBuilder") }, accessFlags := 1, code := some k20c6 }
def k20c7 : Code := { maxStack := 4, maxLocals := 4, code := jdk_68_method_32_code, exceptionTable := #[], attributes := #[] }
def k20m7 : Method := { name := "append", desc := "(I)Ljava/lang/AbstractStringBuilder;", sig := { parameters := [.int], returnType := some (.object "java/lang/AbstractStringBuilder") }, accessFlags := 1, code := some k20c7 }
def k20c8 : Code := { maxStack := 1, maxLocals := 1, code := jdk_68_method_64_code, exceptionTable := #[], attributes := #[] }
def k20m8 : Method := { name := "getValue", desc := "()[B", sig := { parameters := [], returnType := some (.array .byte) }, accessFlags := 16, code := some k20c8 }
def k20c9 : Code := { maxStack := 1, maxLocals := 1, code := jdk_68_method_68_code, exceptionTable := #[], attributes := #[] }
def k20m9 : Method := { name := "isLatin1", desc := "()Z", sig := { parameters := [], returnType := some .boolean }, accessFlags := 16, code := some k20c9 }
def k20c10 : Code := { maxStack := 2, maxLocals := 2, code := jdk_68_method_71_code, exceptionTable := #[], attributes := #[] }
def k20m10 : Method := { name := "inflateIfNeededFor", desc := "(Ljava/lang/String;)V", sig := { parameters := [(.object "java/lang/String")], returnType := none }, accessFlags := 2, code := some k20c10 }
def k20c11 : Code := { maxStack := 4, maxLocals := 3, code := jdk_68_method_73_code, exceptionTable := #[], attributes := #[] }
def k20m11 : Method := { name := "putStringAt", desc := "(ILjava/lang/String;)V", sig := { parameters := [.int, (.object "java/lang/String")], returnType := none }, accessFlags := 2, code := some k20c11 }
/-- java/lang/AbstractStringBuilder -/
def k20 : Class := { plain "java/lang/AbstractStringBuilder" (some 0) with
  accessFlags := 1056
  interfaces := #[19, 4]
  cf := some (fileOf pool20 10 #[] #[{ accessFlags := 0, nameIndex := 7, descriptorIndex := 8, attributes := #[] }, { accessFlags := 0, nameIndex := 7, descriptorIndex := 103, attributes := #[] }, { accessFlags := 1, nameIndex := 34, descriptorIndex := 35, attributes := #[] }, { accessFlags := 2, nameIndex := 102, descriptorIndex := 103, attributes := #[] }, { accessFlags := 2, nameIndex := 106, descriptorIndex := 107, attributes := #[] }, { accessFlags := 1, nameIndex := 45, descriptorIndex := 46, attributes := #[] }, { accessFlags := 1, nameIndex := 45, descriptorIndex := 292, attributes := #[] }, { accessFlags := 1, nameIndex := 45, descriptorIndex := 511, attributes := #[] }, { accessFlags := 16, nameIndex := 552, descriptorIndex := 403, attributes := #[] }, { accessFlags := 16, nameIndex := 85, descriptorIndex := 86, attributes := #[] }, { accessFlags := 2, nameIndex := 217, descriptorIndex := 69, attributes := #[] }, { accessFlags := 2, nameIndex := 210, descriptorIndex := 211, attributes := #[] }] 1056 4 #[444, 48] #[{ accessFlags := 0, nameIndex := 17, descriptorIndex := 14, attributes := #[] }, { accessFlags := 0, nameIndex := 24, descriptorIndex := 25, attributes := #[] }, { accessFlags := 0, nameIndex := 75, descriptorIndex := 21, attributes := #[] }, { accessFlags := 0, nameIndex := 81, descriptorIndex := 82, attributes := #[] }, { accessFlags := 26, nameIndex := 13, descriptorIndex := 14, attributes := #[] }])
  fields := #[{ name := "value", type := (.array .byte), accessFlags := 0, slot := 0, constantValue := 0 }, { name := "coder", type := .byte, accessFlags := 0, slot := 1, constantValue := 0 }, { name := "maybeLatin1", type := .boolean, accessFlags := 0, slot := 2, constantValue := 0 }, { name := "count", type := .int, accessFlags := 0, slot := 3, constantValue := 0 }, { name := "EMPTYVALUE", type := (.array .byte), accessFlags := 26, slot := 0, constantValue := 0 }]
  methods := #[k20m0, k20m1, k20m2, k20m3, k20m4, k20m5, k20m6, k20m7, k20m8, k20m9, k20m10, k20m11]
  instanceTypes := #[(.array .byte), .byte, .boolean, .int]
  staticTypes := #[(.array .byte)]
  resolved := Array.replicate 609 none
  statics := none }

def pool21 : Array CpInfo := pool [(1, .methodref 2 3), (0, .class_ 4), (0, .nameAndType 5 6), (0, u "java/lang/AbstractStringBuilder"), (0, u "<init>"), (0, u "(I)V"), (10, .methodref 18 19), (0, .class_ 20), (0, .nameAndType 21 22), (0, u "java/lang/String"), (0, u "valueOf"), (0, u "(Ljava/lang/Object;)Ljava/lang/String;"), (0, .methodref 24 25), (0, .class_ 26), (0, .nameAndType 27 28), (0, u "java/lang/StringBuilder"), (0, u "append"), (0, u "(Ljava/lang/String;)Ljava/lang/StringBuilder;"), (0, .methodref 2 30), (0, .nameAndType 27 31), (0, u "(Ljava/lang/String;)Ljava/lang/AbstractStringBuilder;"), (18, .methodref 2 51), (0, .nameAndType 27 52), (0, u "(C)Ljava/lang/AbstractStringBuilder;"), (0, .methodref 2 54), (0, .nameAndType 27 55), (0, u "(I)Ljava/lang/AbstractStringBuilder;"), (81, .methodref 18 138), (0, .nameAndType 5 139), (0, u "(Ljava/lang/StringBuilder;)V"), (5, u "()V"), (10, u "()I"), (111, u "(I)Ljava/lang/StringBuilder;"), (17, u "(C)Ljava/lang/StringBuilder;"), (20, u "(Ljava/lang/Object;)Ljava/lang/StringBuilder;"), (35, .methodref 2 344), (0, .nameAndType 345 156), (0, u "length"), (3, .class_ 350), (0, u "java/lang/Appendable"), (0, .class_ 352), (0, u "java/io/Serializable"), (0, .class_ 354), (0, u "java/lang/Comparable"), (0, .class_ 356), (0, u "java/lang/CharSequence"), (0, u "serialVersionUID"), (0, u "J"), (40, u "toString"), (0, u "()Ljava/lang/String;")] 21

def k21c0 : Code := { maxStack := 2, maxLocals := 1, code := jdk_67_method_1_code, exceptionTable := #[], attributes := #[] }
def k21m0 : Method := { name := "<init>", desc := "()V", sig := { parameters := [], returnType := none }, accessFlags := 1, code := some k21c0 }
def k21c1 : Code := { maxStack := 2, maxLocals := 2, code := jdk_67_method_6_code, exceptionTable := #[], attributes := #[] }
def k21m1 : Method := { name := "append", desc := "(Ljava/lang/Object;)Ljava/lang/StringBuilder;", sig := { parameters := [(.object "java/lang/Object")], returnType := some (.object "java/lang/StringBuilder") }, accessFlags := 1, code := some k21c1 }
def k21c2 : Code := { maxStack := 2, maxLocals := 2, code := jdk_67_method_7_code, exceptionTable := #[], attributes := #[] }
def k21m2 : Method := { name := "append", desc := "(Ljava/lang/String;)Ljava/lang/StringBuilder;", sig := { parameters := [(.object "java/lang/String")], returnType := some (.object "java/lang/StringBuilder") }, accessFlags := 1, code := some k21c2 }
def k21c3 : Code := { maxStack := 2, maxLocals := 2, code := jdk_67_method_14_code, exceptionTable := #[], attributes := #[] }
def k21m3 : Method := { name := "append", desc := "(C)Ljava/lang/StringBuilder;", sig := { parameters := [.char], returnType := some (.object "java/lang/StringBuilder") }, accessFlags := 1, code := some k21c3 }
def k21c4 : Code := { maxStack := 2, maxLocals := 2, code := jdk_67_method_15_code, exceptionTable := #[], attributes := #[] }
def k21m4 : Method := { name := "append", desc := "(I)Ljava/lang/StringBuilder;", sig := { parameters := [.int], returnType := some (.object "java/lang/StringBuilder") }, accessFlags := 1, code := some k21c4 }
def k21c5 : Code := { maxStack := 3, maxLocals := 1, code := jdk_67_method_42_code, exceptionTable := #[], attributes := #[] }
def k21m5 : Method := { name := "toString", desc := "()Ljava/lang/String;", sig := { parameters := [], returnType := some (.object "java/lang/String") }, accessFlags := 1, code := some k21c5 }
def k21c6 : Code := { maxStack := 1, maxLocals := 1, code := jdk_67_method_93_code, exceptionTable := #[], attributes := #[] }
def k21m6 : Method := { name := "length", desc := "()I", sig := { parameters := [], returnType := some .int }, accessFlags := 4161, code := some k21c6 }
/-- java/lang/StringBuilder -/
def k21 : Class := { plain "java/lang/StringBuilder" (some 20) with
  accessFlags := 49
  interfaces := #[19, 2, 3, 4]
  cf := some (fileOf pool21 24 #[] #[{ accessFlags := 1, nameIndex := 5, descriptorIndex := 145, attributes := #[] }, { accessFlags := 1, nameIndex := 27, descriptorIndex := 307, attributes := #[] }, { accessFlags := 1, nameIndex := 27, descriptorIndex := 28, attributes := #[] }, { accessFlags := 1, nameIndex := 27, descriptorIndex := 286, attributes := #[] }, { accessFlags := 1, nameIndex := 27, descriptorIndex := 268, attributes := #[] }, { accessFlags := 1, nameIndex := 399, descriptorIndex := 400, attributes := #[] }, { accessFlags := 4161, nameIndex := 345, descriptorIndex := 156, attributes := #[] }] 49 2 #[349, 351, 353, 355] #[{ accessFlags := 24, nameIndex := 357, descriptorIndex := 358, attributes := #[] }])
  fields := #[{ name := "serialVersionUID", type := .long, accessFlags := 24, slot := 0, constantValue := 0 }]
  methods := #[k21m0, k21m1, k21m2, k21m3, k21m4, k21m5, k21m6]
  instanceTypes := #[(.array .byte), .byte, .boolean, .int]
  staticTypes := #[.long]
  resolved := Array.replicate 422 none
  statics := none }

def pool22 : Array CpInfo := pool [(2, .class_ 4), (1, u "java/lang/Object"), (0, u "<init>"), (0, u "()V"), (1, .class_ 10), (1, u "java/lang/System"), (0, u "allowSecurityManager"), (0, u "I"), (16, u "cons"), (0, u "Ljava/io/Console;"), (77, .class_ 110), (1, u "java/lang/System$CallersHolder"), (43, u "initialErrStream"), (0, u "Ljava/io/PrintStream;"), (19, u "security"), (0, u "Ljava/lang/SecurityManager;"), (31, .class_ 209), (0, u "java/lang/System$1"), (7, u "props"), (0, u "Ljava/util/Properties;"), (2, u "lineSeparator"), (0, u "Ljava/lang/String;"), (96, .class_ 321), (1, u "java/lang/System$LoggerFinder"), (5, .class_ 328), (0, u "java/lang/System$Logger"), (67, u "err"), (2, u "out"), (91, u "notSupportedJnuEncoding"), (15, u "in"), (17, u "initialIn"), (0, u "Ljava/io/InputStream;"), (35, u "bootLayer"), (0, u "Ljava/lang/ModuleLayer;"), (99, .class_ 664), (0, u "java/lang/System$2"), (9, u "NEVER"), (2, u "MAYBE"), (49, u "arraycopy"), (0, u "(Ljava/lang/Object;ILjava/lang/Object;II)V"), (72, .class_ 802), (0, u "java/lang/System$Logger$Level")] 31

def k22m0 : Method := { name := "<init>", desc := "()V", sig := { parameters := [], returnType := none }, accessFlags := 2, code := none }
def k22m1 : Method := { name := "arraycopy", desc := "(Ljava/lang/Object;ILjava/lang/Object;II)V", sig := { parameters := [(.object "java/lang/Object"), .int, (.object "java/lang/Object"), .int, .int], returnType := none }, accessFlags := 265, code := none }
/-- java/lang/System -/
def k22 : Class := { plain "java/lang/System" (some 0) with
  accessFlags := 49
  interfaces := #[]
  cf := some (fileOf pool22 8 #[.nestMembers #[319, 327, 801, 108, 663, 208]] #[{ accessFlags := 2, nameIndex := 5, descriptorIndex := 6, attributes := #[] }, { accessFlags := 265, nameIndex := 727, descriptorIndex := 728, attributes := #[] }] 49 2 #[] #[{ accessFlags := 25, nameIndex := 507, descriptorIndex := 526, attributes := #[] }, { accessFlags := 25, nameIndex := 399, descriptorIndex := 155, attributes := #[] }, { accessFlags := 25, nameIndex := 396, descriptorIndex := 155, attributes := #[] }, { accessFlags := 10, nameIndex := 525, descriptorIndex := 526, attributes := #[] }, { accessFlags := 26, nameIndex := 674, descriptorIndex := 12, attributes := #[] }, { accessFlags := 26, nameIndex := 677, descriptorIndex := 12, attributes := #[] }, { accessFlags := 10, nameIndex := 11, descriptorIndex := 12, attributes := #[] }, { accessFlags := 74, nameIndex := 175, descriptorIndex := 176, attributes := #[] }, { accessFlags := 10, nameIndex := 491, descriptorIndex := 222, attributes := #[] }, { accessFlags := 74, nameIndex := 29, descriptorIndex := 30, attributes := #[] }, { accessFlags := 74, nameIndex := 154, descriptorIndex := 155, attributes := #[] }, { accessFlags := 10, nameIndex := 217, descriptorIndex := 218, attributes := #[] }, { accessFlags := 10, nameIndex := 221, descriptorIndex := 222, attributes := #[] }, { accessFlags := 8, nameIndex := 562, descriptorIndex := 563, attributes := #[] }])
  fields := #[{ name := "in", type := (.object "java/io/InputStream"), accessFlags := 25, slot := 0, constantValue := 0 }, { name := "out", type := (.object "java/io/PrintStream"), accessFlags := 25, slot := 1, constantValue := 0 }, { name := "err", type := (.object "java/io/PrintStream"), accessFlags := 25, slot := 2, constantValue := 0 }, { name := "initialIn", type := (.object "java/io/InputStream"), accessFlags := 10, slot := 3, constantValue := 0 }, { name := "NEVER", type := .int, accessFlags := 26, slot := 4, constantValue := 0 }, { name := "MAYBE", type := .int, accessFlags := 26, slot := 5, constantValue := 0 }, { name := "allowSecurityManager", type := .int, accessFlags := 10, slot := 6, constantValue := 0 }, { name := "security", type := (.object "java/lang/SecurityManager"), accessFlags := 74, slot := 7, constantValue := 0 }, { name := "notSupportedJnuEncoding", type := (.object "java/lang/String"), accessFlags := 10, slot := 8, constantValue := 0 }, { name := "cons", type := (.object "java/io/Console"), accessFlags := 74, slot := 9, constantValue := 0 }, { name := "initialErrStream", type := (.object "java/io/PrintStream"), accessFlags := 74, slot := 10, constantValue := 0 }, { name := "props", type := (.object "java/util/Properties"), accessFlags := 10, slot := 11, constantValue := 0 }, { name := "lineSeparator", type := (.object "java/lang/String"), accessFlags := 10, slot := 12, constantValue := 0 }, { name := "bootLayer", type := (.object "java/lang/ModuleLayer"), accessFlags := 8, slot := 13, constantValue := 0 }]
  methods := #[k22m0, k22m1]
  instanceTypes := #[]
  staticTypes := #[(.object "java/io/InputStream"), (.object "java/io/PrintStream"), (.object "java/io/PrintStream"), (.object "java/io/InputStream"), .int, .int, .int, (.object "java/lang/SecurityManager"), (.object "java/lang/String"), (.object "java/io/Console"), (.object "java/io/PrintStream"), (.object "java/util/Properties"), (.object "java/lang/String"), (.object "java/lang/ModuleLayer")]
  resolved := Array.replicate 834 none
  statics := none }

def pool23 : Array CpInfo := pool [(2, .class_ 4), (1, u "java/lang/Object"), (0, u "<init>"), (0, u "()V"), (1, .class_ 10), (1, u "java/lang/Number"), (2, .class_ 14), (0, u "java/io/Serializable"), (0, u "serialVersionUID"), (0, u "J")] 20

def k23m0 : Method := { name := "<init>", desc := "()V", sig := { parameters := [], returnType := none }, accessFlags := 1, code := none }
/-- java/lang/Number -/
def k23 : Class := { plain "java/lang/Number" (some 0) with
  accessFlags := 1057
  interfaces := #[2]
  cf := some (fileOf pool23 8 #[] #[{ accessFlags := 1, nameIndex := 5, descriptorIndex := 6, attributes := #[] }] 1057 2 #[13] #[{ accessFlags := 26, nameIndex := 15, descriptorIndex := 16, attributes := #[] }])
  fields := #[{ name := "serialVersionUID", type := .long, accessFlags := 26, slot := 0, constantValue := 0 }]
  methods := #[k23m0]
  instanceTypes := #[]
  staticTypes := #[.long]
  resolved := Array.replicate 37 none
  statics := none }

def pool24 : Array CpInfo := pool [(1, .class_ 2), (0, u "java/lang/Integer"), (16, u "digits"), (0, u "[C"), (33, u "(I)I"), (19, u "stringSize"), (2, u "getChars"), (0, u "(II[B)I"), (4, .fieldref 1 84), (0, .nameAndType 85 86), (0, u "DigitOnes"), (0, u "[B"), (2, u "DigitTens"), (99, .class_ 190), (0, u "java/lang/Integer$IntegerCache"), (3, u "I"), (8, .class_ 204), (0, u "java/lang/Number"), (2, u "value"), (94, u "TYPE"), (0, u "Ljava/lang/Class;"), (0, .class_ 305), (0, u "java/lang/Comparable"), (0, .class_ 307), (0, u "java/lang/constant/Constable"), (0, .class_ 309), (0, u "java/lang/constant/ConstantDesc"), (0, u "MIN_VALUE"), (1, u "MAX_VALUE"), (3, u "SIZE"), (1, u "BYTES"), (1, u "serialVersionUID"), (0, u "J")] 131

def k24c0 : Code := { maxStack := 4, maxLocals := 7, code := jdk_33_method_12_code, exceptionTable := #[], attributes := #[] }
def k24m0 : Method := { name := "getChars", desc := "(II[B)I", sig := { parameters := [.int, .int, (.array .byte)], returnType := some .int }, accessFlags := 8, code := some k24c0 }
def k24c1 : Code := { maxStack := 2, maxLocals := 4, code := jdk_33_method_13_code, exceptionTable := #[], attributes := #[] }
def k24m1 : Method := { name := "stringSize", desc := "(I)I", sig := { parameters := [.int], returnType := some .int }, accessFlags := 8, code := some k24c1 }
/-- java/lang/Integer -/
def k24 : Class := { plain "java/lang/Integer" (some 23) with
  accessFlags := 49
  interfaces := #[3, 5, 6]
  cf := some (fileOf pool24 1 #[.nestMembers #[189]] #[{ accessFlags := 8, nameIndex := 77, descriptorIndex := 78, attributes := #[] }, { accessFlags := 8, nameIndex := 74, descriptorIndex := 54, attributes := #[] }] 49 203 #[304, 306, 308] #[{ accessFlags := 25, nameIndex := 310, descriptorIndex := 194, attributes := #[] }, { accessFlags := 25, nameIndex := 312, descriptorIndex := 194, attributes := #[] }, { accessFlags := 25, nameIndex := 302, descriptorIndex := 303, attributes := #[] }, { accessFlags := 24, nameIndex := 19, descriptorIndex := 20, attributes := #[] }, { accessFlags := 24, nameIndex := 89, descriptorIndex := 86, attributes := #[] }, { accessFlags := 24, nameIndex := 85, descriptorIndex := 86, attributes := #[] }, { accessFlags := 18, nameIndex := 207, descriptorIndex := 194, attributes := #[] }, { accessFlags := 25, nameIndex := 316, descriptorIndex := 194, attributes := #[] }, { accessFlags := 25, nameIndex := 318, descriptorIndex := 194, attributes := #[] }, { accessFlags := 26, nameIndex := 320, descriptorIndex := 321, attributes := #[] }])
  fields := #[{ name := "MIN_VALUE", type := .int, accessFlags := 25, slot := 0, constantValue := 0 }, { name := "MAX_VALUE", type := .int, accessFlags := 25, slot := 1, constantValue := 0 }, { name := "TYPE", type := (.object "java/lang/Class"), accessFlags := 25, slot := 2, constantValue := 0 }, { name := "digits", type := (.array .char), accessFlags := 24, slot := 3, constantValue := 0 }, { name := "DigitTens", type := (.array .byte), accessFlags := 24, slot := 4, constantValue := 0 }, { name := "DigitOnes", type := (.array .byte), accessFlags := 24, slot := 5, constantValue := 0 }, { name := "value", type := .int, accessFlags := 18, slot := 0, constantValue := 0 }, { name := "SIZE", type := .int, accessFlags := 25, slot := 6, constantValue := 0 }, { name := "BYTES", type := .int, accessFlags := 25, slot := 7, constantValue := 0 }, { name := "serialVersionUID", type := .long, accessFlags := 26, slot := 8, constantValue := 0 }]
  methods := #[k24m0, k24m1]
  instanceTypes := #[.int]
  staticTypes := #[.int, .int, (.object "java/lang/Class"), (.array .char), (.array .byte), (.array .byte), .int, .int, .long]
  resolved := Array.replicate 453 none
  statics := some 2 }

def pool25 : Array CpInfo := pool [(2, .class_ 4), (1, u "java/lang/Object"), (0, u "<init>"), (0, u "()V"), (7, .class_ 16), (1, u "java/util/Arrays"), (57, .class_ 76), (1, u "java/util/Arrays$NaturalOrder"), (32, u "()Ljava/lang/Object;"), (3, .class_ 115), (1, u "java/util/Arrays$LegacyMergeSort"), (1, u "Z"), (10, .nameAndType 129 109), (0, u "clone"), (9, u "copyOfRange"), (10, .methodref 151 152), (0, .class_ 153), (0, .nameAndType 154 155), (0, u "java/lang/System"), (0, u "arraycopy"), (0, u "(Ljava/lang/Object;ILjava/lang/Object;II)V"), (146, u "copyOf"), (1, .methodref 305 306), (0, .class_ 307), (0, .nameAndType 308 309), (0, u "java/lang/Math"), (0, u "min"), (0, u "(II)I"), (0, .methodref 311 128), (0, .class_ 312), (0, u "[B"), (26, .methodref 14 340), (0, .nameAndType 341 342), (0, u "copyOfRangeByte"), (0, u "([BII)[B"), (0, .methodref 14 344), (0, .nameAndType 345 346), (0, u "checkLength"), (0, u "(II)V"), (28, .class_ 376), (0, u "java/util/Arrays$ArrayList"), (68, u "$assertionsDisabled"), (269, u "MIN_ARRAY_SORT_GRAN"), (0, u "I"), (2, u "INSERTIONSORT_THRESHOLD"), (149, u "([BI)[B"), (105, .class_ 976), (0, u "java/util/Arrays$ArrayItr")] 52

def k25m0 : Method := { name := "<init>", desc := "()V", sig := { parameters := [], returnType := none }, accessFlags := 2, code := none }
def k25c1 : Code := { maxStack := 6, maxLocals := 3, code := jdk_65_method_121_code, exceptionTable := #[], attributes := #[] }
def k25m1 : Method := { name := "copyOf", desc := "([BI)[B", sig := { parameters := [(.array .byte), .int], returnType := some (.array .byte) }, accessFlags := 9, code := some k25c1 }
def k25c2 : Code := { maxStack := 4, maxLocals := 2, code := jdk_65_method_131_code, exceptionTable := #[], attributes := #[] }
def k25m2 : Method := { name := "checkLength", desc := "(II)V", sig := { parameters := [.int, .int], returnType := none }, accessFlags := 10, code := some k25c2 }
def k25c3 : Code := { maxStack := 3, maxLocals := 3, code := jdk_65_method_132_code, exceptionTable := #[], attributes := #[] }
def k25m3 : Method := { name := "copyOfRange", desc := "([BII)[B", sig := { parameters := [(.array .byte), .int, .int], returnType := some (.array .byte) }, accessFlags := 9, code := some k25c3 }
def k25c4 : Code := { maxStack := 6, maxLocals := 5, code := jdk_65_method_133_code, exceptionTable := #[], attributes := #[] }
def k25m4 : Method := { name := "copyOfRangeByte", desc := "([BII)[B", sig := { parameters := [(.array .byte), .int, .int], returnType := some (.array .byte) }, accessFlags := 10, code := some k25c4 }
/-- java/util/Arrays -/
def k25 : Class := { plain "java/util/Arrays" (some 0) with
  accessFlags := 49
  interfaces := #[]
  cf := some (fileOf pool25 14 #[.nestMembers #[975, 375, 113, 74]] #[{ accessFlags := 2, nameIndex := 5, descriptorIndex := 6, attributes := #[] }, { accessFlags := 9, nameIndex := 302, descriptorIndex := 869, attributes := #[] }, { accessFlags := 10, nameIndex := 345, descriptorIndex := 346, attributes := #[] }, { accessFlags := 9, nameIndex := 139, descriptorIndex := 342, attributes := #[] }, { accessFlags := 10, nameIndex := 341, descriptorIndex := 342, attributes := #[] }] 49 2 #[] #[{ accessFlags := 26, nameIndex := 715, descriptorIndex := 716, attributes := #[] }, { accessFlags := 26, nameIndex := 719, descriptorIndex := 716, attributes := #[] }, { accessFlags := 4120, nameIndex := 445, descriptorIndex := 117, attributes := #[] }])
  fields := #[{ name := "MIN_ARRAY_SORT_GRAN", type := .int, accessFlags := 26, slot := 0, constantValue := 0 }, { name := "INSERTIONSORT_THRESHOLD", type := .int, accessFlags := 26, slot := 1, constantValue := 0 }, { name := "$assertionsDisabled", type := .boolean, accessFlags := 4120, slot := 2, constantValue := 0 }]
  methods := #[k25m0, k25m1, k25m2, k25m3, k25m4]
  instanceTypes := #[]
  staticTypes := #[.int, .int, .boolean]
  resolved := Array.replicate 1029 none
  statics := none }

def pool26 : Array CpInfo := pool [(1, .class_ 2), (0, u "java/lang/Math"), (1, .class_ 6), (1, u "java/lang/Object"), (0, u "<init>"), (0, u "()V"), (89, .class_ 100), (1, u "java/lang/Math$RandomNumberGeneratorHolder"), (71, u "negativeZeroFloatBits"), (0, u "J"), (2, u "negativeZeroDoubleBits"), (21, u "max"), (2, u "min"), (43, u "$assertionsDisabled"), (0, u "Z"), (88, u "(II)I"), (2, u "twoToTheDoubleScaleDown"), (0, u "D"), (4, u "twoToTheDoubleScaleUp"), (9, u "E"), (3, u "PI"), (2, u "TAU"), (2, u "DEGREES_TO_RADIANS"), (0, u "RADIANS_TO_DEGREES")] 94

def k26m0 : Method := { name := "<init>", desc := "()V", sig := { parameters := [], returnType := none }, accessFlags := 2, code := none }
def k26c1 : Code := { maxStack := 2, maxLocals := 2, code := jdk_29_method_65_code, exceptionTable := #[], attributes := #[] }
def k26m1 : Method := { name := "max", desc := "(II)I", sig := { parameters := [.int, .int], returnType := some .int }, accessFlags := 9, code := some k26c1 }
def k26c2 : Code := { maxStack := 2, maxLocals := 2, code := jdk_29_method_69_code, exceptionTable := #[], attributes := #[] }
def k26m2 : Method := { name := "min", desc := "(II)I", sig := { parameters := [.int, .int], returnType := some .int }, accessFlags := 9, code := some k26c2 }
/-- java/lang/Math -/
def k26 : Class := { plain "java/lang/Math" (some 0) with
  accessFlags := 49
  interfaces := #[]
  cf := some (fileOf pool26 1 #[.nestMembers #[98]] #[{ accessFlags := 2, nameIndex := 7, descriptorIndex := 8, attributes := #[] }, { accessFlags := 9, nameIndex := 198, descriptorIndex := 335, attributes := #[] }, { accessFlags := 9, nameIndex := 201, descriptorIndex := 335, attributes := #[] }] 49 4 #[] #[{ accessFlags := 25, nameIndex := 354, descriptorIndex := 339, attributes := #[] }, { accessFlags := 25, nameIndex := 358, descriptorIndex := 339, attributes := #[] }, { accessFlags := 25, nameIndex := 361, descriptorIndex := 339, attributes := #[] }, { accessFlags := 26, nameIndex := 364, descriptorIndex := 339, attributes := #[] }, { accessFlags := 26, nameIndex := 365, descriptorIndex := 339, attributes := #[] }, { accessFlags := 26, nameIndex := 172, descriptorIndex := 173, attributes := #[] }, { accessFlags := 26, nameIndex := 176, descriptorIndex := 173, attributes := #[] }, { accessFlags := 8, nameIndex := 344, descriptorIndex := 339, attributes := #[] }, { accessFlags := 8, nameIndex := 338, descriptorIndex := 339, attributes := #[] }, { accessFlags := 4120, nameIndex := 245, descriptorIndex := 246, attributes := #[] }])
  fields := #[{ name := "E", type := .double, accessFlags := 25, slot := 0, constantValue := 0 }, { name := "PI", type := .double, accessFlags := 25, slot := 1, constantValue := 0 }, { name := "TAU", type := .double, accessFlags := 25, slot := 2, constantValue := 0 }, { name := "DEGREES_TO_RADIANS", type := .double, accessFlags := 26, slot := 3, constantValue := 0 }, { name := "RADIANS_TO_DEGREES", type := .double, accessFlags := 26, slot := 4, constantValue := 0 }, { name := "negativeZeroFloatBits", type := .long, accessFlags := 26, slot := 5, constantValue := 0 }, { name := "negativeZeroDoubleBits", type := .long, accessFlags := 26, slot := 6, constantValue := 0 }, { name := "twoToTheDoubleScaleUp", type := .double, accessFlags := 8, slot := 7, constantValue := 0 }, { name := "twoToTheDoubleScaleDown", type := .double, accessFlags := 8, slot := 8, constantValue := 0 }, { name := "$assertionsDisabled", type := .boolean, accessFlags := 4120, slot := 9, constantValue := 0 }]
  methods := #[k26m0, k26m1, k26m2]
  instanceTypes := #[]
  staticTypes := #[.double, .double, .double, .double, .double, .long, .long, .double, .double, .boolean]
  resolved := Array.replicate 460 none
  statics := none }

def pool27 : Array CpInfo := pool [(4, .class_ 6), (1, u "java/lang/Object"), (0, u "<init>"), (0, u "()V"), (5, .class_ 16), (1, u "java/lang/StringLatin1"), (73, u "canEncode"), (14, u "(C)Z"), (15, u "$assertionsDisabled"), (0, u "Z"), (98, .class_ 223), (1, u "java/lang/StringLatin1$LinesSpliterator"), (57, u "equals"), (0, u "([B[B)Z"), (97, u "toBytes"), (1, u "(C)[B"), (7, .class_ 391), (0, u "java/lang/StringLatin1$CharsSpliterator")] 3

def k27m0 : Method := { name := "<init>", desc := "()V", sig := { parameters := [], returnType := none }, accessFlags := 0, code := none }
def k27c1 : Code := { maxStack := 2, maxLocals := 1, code := jdk_43_method_3_code, exceptionTable := #[], attributes := #[] }
def k27m1 : Method := { name := "canEncode", desc := "(C)Z", sig := { parameters := [.char], returnType := some .boolean }, accessFlags := 9, code := some k27c1 }
def k27c2 : Code := { maxStack := 3, maxLocals := 3, code := jdk_43_method_13_code, exceptionTable := #[], attributes := #[] }
def k27m2 : Method := { name := "equals", desc := "([B[B)Z", sig := { parameters := [(.array .byte), (.array .byte)], returnType := some .boolean }, accessFlags := 9, code := some k27c2 }
def k27c3 : Code := { maxStack := 4, maxLocals := 1, code := jdk_43_method_46_code, exceptionTable := #[], attributes := #[] }
def k27m3 : Method := { name := "toBytes", desc := "(C)[B", sig := { parameters := [.char], returnType := some (.array .byte) }, accessFlags := 9, code := some k27c3 }
/-- java/lang/StringLatin1 -/
def k27 : Class := { plain "java/lang/StringLatin1" (some 0) with
  accessFlags := 48
  interfaces := #[]
  cf := some (fileOf pool27 14 #[.nestMembers #[390, 221]] #[{ accessFlags := 0, nameIndex := 7, descriptorIndex := 8, attributes := #[] }, { accessFlags := 9, nameIndex := 90, descriptorIndex := 105, attributes := #[] }, { accessFlags := 9, nameIndex := 281, descriptorIndex := 282, attributes := #[] }, { accessFlags := 9, nameIndex := 380, descriptorIndex := 382, attributes := #[] }] 48 4 #[] #[{ accessFlags := 4120, nameIndex := 121, descriptorIndex := 122, attributes := #[] }])
  fields := #[{ name := "$assertionsDisabled", type := .boolean, accessFlags := 4120, slot := 0, constantValue := 0 }]
  methods := #[k27m0, k27m1, k27m2, k27m3]
  instanceTypes := #[]
  staticTypes := #[.boolean]
  resolved := Array.replicate 395 none
  statics := none }

def pool28 : Array CpInfo := pool [(9, u "<init>"), (6, .class_ 18), (1, u "java/lang/Object"), (0, u "()V"), (1, .class_ 23), (1, u "jdk/internal/util/ArraysSupport"), (0, u "LOG2_ARRAY_LONG_INDEX_SCALE"), (0, u "I"), (2, u "U"), (0, u "Ljdk/internal/misc/Unsafe;"), (8, u "BIG_ENDIAN"), (0, u "Z"), (8, u "LOG2_BYTE_BIT_SIZE"), (4, u "LOG2_ARRAY_INT_INDEX_SCALE"), (54, u "JLA"), (0, u "Ljdk/internal/access/JavaLangAccess;"), (11, u "LOG2_ARRAY_BOOLEAN_INDEX_SCALE"), (9, u "LOG2_ARRAY_BYTE_INDEX_SCALE"), (5, u "LOG2_ARRAY_CHAR_INDEX_SCALE"), (5, u "LOG2_ARRAY_SHORT_INDEX_SCALE"), (18, u "LOG2_ARRAY_FLOAT_INDEX_SCALE"), (24, u "LOG2_ARRAY_DOUBLE_INDEX_SCALE"), (6, .methodref 195 196), (0, .class_ 197), (0, .nameAndType 198 199), (0, u "java/lang/Math"), (0, u "max"), (0, u "(II)I"), (0, .integer 2147483639), (76, u "T_BOOLEAN"), (2, u "T_CHAR"), (1, u "T_FLOAT"), (1, u "T_DOUBLE"), (1, u "T_BYTE"), (1, u "T_SHORT"), (1, u "T_INT"), (1, u "T_LONG"), (1, u "SOFT_MAX_ARRAY_LENGTH"), (56, u "newLength"), (0, u "(III)I")] 25

def k28m0 : Method := { name := "<init>", desc := "()V", sig := { parameters := [], returnType := none }, accessFlags := 2, code := none }
def k28c1 : Code := { maxStack := 3, maxLocals := 4, code := jdk_48_method_27_code, exceptionTable := #[], attributes := #[] }
def k28m1 : Method := { name := "newLength", desc := "(III)I", sig := { parameters := [.int, .int, .int], returnType := some .int }, accessFlags := 9, code := some k28c1 }
/-- jdk/internal/util/ArraysSupport -/
def k28 : Class := { plain "jdk/internal/util/ArraysSupport" (some 0) with
  accessFlags := 33
  interfaces := #[]
  cf := some (fileOf pool28 21 #[] #[{ accessFlags := 2, nameIndex := 9, descriptorIndex := 19, attributes := #[] }, { accessFlags := 9, nameIndex := 351, descriptorIndex := 352, attributes := #[] }] 33 16 #[] #[{ accessFlags := 24, nameIndex := 28, descriptorIndex := 29, attributes := #[] }, { accessFlags := 26, nameIndex := 38, descriptorIndex := 39, attributes := #[] }, { accessFlags := 25, nameIndex := 121, descriptorIndex := 25, attributes := #[] }, { accessFlags := 25, nameIndex := 131, descriptorIndex := 25, attributes := #[] }, { accessFlags := 25, nameIndex := 137, descriptorIndex := 25, attributes := #[] }, { accessFlags := 25, nameIndex := 143, descriptorIndex := 25, attributes := #[] }, { accessFlags := 25, nameIndex := 53, descriptorIndex := 25, attributes := #[] }, { accessFlags := 25, nameIndex := 24, descriptorIndex := 25, attributes := #[] }, { accessFlags := 25, nameIndex := 162, descriptorIndex := 25, attributes := #[] }, { accessFlags := 25, nameIndex := 187, descriptorIndex := 25, attributes := #[] }, { accessFlags := 26, nameIndex := 48, descriptorIndex := 25, attributes := #[] }, { accessFlags := 25, nameIndex := 277, descriptorIndex := 25, attributes := #[] }, { accessFlags := 25, nameIndex := 280, descriptorIndex := 25, attributes := #[] }, { accessFlags := 25, nameIndex := 282, descriptorIndex := 25, attributes := #[] }, { accessFlags := 25, nameIndex := 284, descriptorIndex := 25, attributes := #[] }, { accessFlags := 25, nameIndex := 286, descriptorIndex := 25, attributes := #[] }, { accessFlags := 25, nameIndex := 288, descriptorIndex := 25, attributes := #[] }, { accessFlags := 25, nameIndex := 290, descriptorIndex := 25, attributes := #[] }, { accessFlags := 25, nameIndex := 292, descriptorIndex := 25, attributes := #[] }, { accessFlags := 26, nameIndex := 108, descriptorIndex := 109, attributes := #[] }, { accessFlags := 25, nameIndex := 294, descriptorIndex := 25, attributes := #[] }])
  fields := #[{ name := "U", type := (.object "jdk/internal/misc/Unsafe"), accessFlags := 24, slot := 0, constantValue := 0 }, { name := "BIG_ENDIAN", type := .boolean, accessFlags := 26, slot := 1, constantValue := 0 }, { name := "LOG2_ARRAY_BOOLEAN_INDEX_SCALE", type := .int, accessFlags := 25, slot := 2, constantValue := 0 }, { name := "LOG2_ARRAY_BYTE_INDEX_SCALE", type := .int, accessFlags := 25, slot := 3, constantValue := 0 }, { name := "LOG2_ARRAY_CHAR_INDEX_SCALE", type := .int, accessFlags := 25, slot := 4, constantValue := 0 }, { name := "LOG2_ARRAY_SHORT_INDEX_SCALE", type := .int, accessFlags := 25, slot := 5, constantValue := 0 }, { name := "LOG2_ARRAY_INT_INDEX_SCALE", type := .int, accessFlags := 25, slot := 6, constantValue := 0 }, { name := "LOG2_ARRAY_LONG_INDEX_SCALE", type := .int, accessFlags := 25, slot := 7, constantValue := 0 }, { name := "LOG2_ARRAY_FLOAT_INDEX_SCALE", type := .int, accessFlags := 25, slot := 8, constantValue := 0 }, { name := "LOG2_ARRAY_DOUBLE_INDEX_SCALE", type := .int, accessFlags := 25, slot := 9, constantValue := 0 }, { name := "LOG2_BYTE_BIT_SIZE", type := .int, accessFlags := 26, slot := 10, constantValue := 0 }, { name := "T_BOOLEAN", type := .int, accessFlags := 25, slot := 11, constantValue := 0 }, { name := "T_CHAR", type := .int, accessFlags := 25, slot := 12, constantValue := 0 }, { name := "T_FLOAT", type := .int, accessFlags := 25, slot := 13, constantValue := 0 }, { name := "T_DOUBLE", type := .int, accessFlags := 25, slot := 14, constantValue := 0 }, { name := "T_BYTE", type := .int, accessFlags := 25, slot := 15, constantValue := 0 }, { name := "T_SHORT", type := .int, accessFlags := 25, slot := 16, constantValue := 0 }, { name := "T_INT", type := .int, accessFlags := 25, slot := 17, constantValue := 0 }, { name := "T_LONG", type := .int, accessFlags := 25, slot := 18, constantValue := 0 }, { name := "JLA", type := (.object "jdk/internal/access/JavaLangAccess"), accessFlags := 26, slot := 19, constantValue := 0 }, { name := "SOFT_MAX_ARRAY_LENGTH", type := .int, accessFlags := 25, slot := 20, constantValue := 0 }]
  methods := #[k28m0, k28m1]
  instanceTypes := #[]
  staticTypes := #[(.object "jdk/internal/misc/Unsafe"), .boolean, .int, .int, .int, .int, .int, .int, .int, .int, .int, .int, .int, .int, .int, .int, .int, .int, .int, (.object "jdk/internal/access/JavaLangAccess"), .int]
  resolved := Array.replicate 378 none
  statics := none }

def pool29 : Array CpInfo := pool [(6, .class_ 8), (1, u "java/lang/Object"), (0, u "<init>"), (0, u "()V"), (1, .class_ 14), (1, u "java/lang/StringUTF16"), (31, u "$assertionsDisabled"), (0, u "Z"), (13, u "HI_BYTE_SHIFT"), (0, u "I"), (2, u "LO_BYTE_SHIFT"), (49, .methodref 12 116), (0, .nameAndType 117 118), (0, u "compress"), (0, u "([CI[BII)I"), (3, u "([CII)[B"), (138, u "coderFromArrayLen"), (0, u "([BI)B"), (106, .class_ 371), (1, u "java/lang/StringUTF16$LinesSpliterator"), (58, u "MAX_LENGTH"), (196, .class_ 628), (0, u "java/lang/StringUTF16$CodePointsSpliterator"), (0, .class_ 630), (0, u "java/lang/StringUTF16$CharsSpliterator")] 4

def k29m0 : Method := { name := "<init>", desc := "()V", sig := { parameters := [], returnType := none }, accessFlags := 0, code := none }
def k29c1 : Code := { maxStack := 2, maxLocals := 2, code := jdk_52_method_15_code, exceptionTable := #[], attributes := #[] }
def k29m1 : Method := { name := "coderFromArrayLen", desc := "([BI)B", sig := { parameters := [(.array .byte), .int], returnType := some .byte }, accessFlags := 8, code := some k29c1 }
def k29c2 : Code := { maxStack := 5, maxLocals := 6, code := jdk_52_method_16_code, exceptionTable := #[], attributes := #[] }
def k29m2 : Method := { name := "compress", desc := "([CII)[B", sig := { parameters := [(.array .char), .int, .int], returnType := some (.array .byte) }, accessFlags := 9, code := some k29c2 }
def k29c3 : Code := { maxStack := 3, maxLocals := 7, code := jdk_52_method_21_code, exceptionTable := #[], attributes := #[] }
def k29m3 : Method := { name := "compress", desc := "([CI[BII)I", sig := { parameters := [(.array .char), .int, (.array .byte), .int, .int], returnType := some .int }, accessFlags := 9, code := some k29c3 }
/-- java/lang/StringUTF16 -/
def k29 : Class := { plain "java/lang/StringUTF16" (some 0) with
  accessFlags := 48
  interfaces := #[]
  cf := some (fileOf pool29 12 #[.nestMembers #[627, 629, 369]] #[{ accessFlags := 0, nameIndex := 9, descriptorIndex := 10, attributes := #[] }, { accessFlags := 8, nameIndex := 261, descriptorIndex := 262, attributes := #[] }, { accessFlags := 9, nameIndex := 117, descriptorIndex := 122, attributes := #[] }, { accessFlags := 9, nameIndex := 117, descriptorIndex := 118, attributes := #[] }] 48 6 #[] #[{ accessFlags := 26, nameIndex := 61, descriptorIndex := 62, attributes := #[] }, { accessFlags := 26, nameIndex := 65, descriptorIndex := 62, attributes := #[] }, { accessFlags := 24, nameIndex := 430, descriptorIndex := 62, attributes := #[] }, { accessFlags := 4120, nameIndex := 46, descriptorIndex := 47, attributes := #[] }])
  fields := #[{ name := "HI_BYTE_SHIFT", type := .int, accessFlags := 26, slot := 0, constantValue := 0 }, { name := "LO_BYTE_SHIFT", type := .int, accessFlags := 26, slot := 1, constantValue := 0 }, { name := "MAX_LENGTH", type := .int, accessFlags := 24, slot := 2, constantValue := 0 }, { name := "$assertionsDisabled", type := .boolean, accessFlags := 4120, slot := 3, constantValue := 0 }]
  methods := #[k29m0, k29m1, k29m2, k29m3]
  instanceTypes := #[]
  staticTypes := #[.int, .int, .int, .boolean]
  resolved := Array.replicate 635 none
  statics := none }

def pool30 : Array CpInfo := pool [(2, .class_ 4), (1, u "java/lang/Object"), (0, u "<init>"), (0, u "()V"), (17, .class_ 26), (1, u "jdk/internal/util/Preconditions"), (28, .class_ 56), (0, u "jdk/internal/util/Preconditions$4"), (57, .class_ 115), (0, u "jdk/internal/util/Preconditions$1"), (7, u "SIOOBE_FORMATTER"), (0, u "Ljava/util/function/BiFunction;"), (0, .class_ 126), (0, u "jdk/internal/util/Preconditions$2"), (3, u "AIOOBE_FORMATTER"), (0, .class_ 132), (0, u "jdk/internal/util/Preconditions$3"), (3, u "IOOBE_FORMATTER")] 57

def k30m0 : Method := { name := "<init>", desc := "()V", sig := { parameters := [], returnType := none }, accessFlags := 1, code := none }
/-- jdk/internal/util/Preconditions -/
def k30 : Class := { plain "jdk/internal/util/Preconditions" (some 0) with
  accessFlags := 33
  interfaces := #[]
  cf := some (fileOf pool30 24 #[.nestMembers #[55, 131, 125, 114]] #[{ accessFlags := 1, nameIndex := 5, descriptorIndex := 6, attributes := #[] }] 33 2 #[] #[{ accessFlags := 25, nameIndex := 123, descriptorIndex := 124, attributes := #[] }, { accessFlags := 25, nameIndex := 130, descriptorIndex := 124, attributes := #[] }, { accessFlags := 25, nameIndex := 136, descriptorIndex := 124, attributes := #[] }])
  fields := #[{ name := "SIOOBE_FORMATTER", type := (.object "java/util/function/BiFunction"), accessFlags := 25, slot := 0, constantValue := 0 }, { name := "AIOOBE_FORMATTER", type := (.object "java/util/function/BiFunction"), accessFlags := 25, slot := 1, constantValue := 0 }, { name := "IOOBE_FORMATTER", type := (.object "java/util/function/BiFunction"), accessFlags := 25, slot := 2, constantValue := 0 }]
  methods := #[k30m0]
  instanceTypes := #[]
  staticTypes := #[(.object "java/util/function/BiFunction"), (.object "java/util/function/BiFunction"), (.object "java/util/function/BiFunction")]
  resolved := Array.replicate 194 none
  statics := some 3 }

/-- the primitive byte -/
def k31 : Class := { plain "byte" none with kind := .primitive 'B', accessFlags := 0x411 }
/-- [B -/
def k32 : Class := { plain "[B" (some 0) with kind := .array 31 .byte, interfaces := #[17, 2], accessFlags := 1041 }

/-- the primitive char -/
def k33 : Class := { plain "char" none with kind := .primitive 'C', accessFlags := 0x411 }
/-- [C -/
def k34 : Class := { plain "[C" (some 0) with kind := .array 33 .char, interfaces := #[17, 2], accessFlags := 1041 }

/-- the primitive int -/
def k35 : Class := { plain "int" none with kind := .primitive 'I', accessFlags := 0x411 }
/-- [I -/
def k36 : Class := { plain "[I" (some 0) with kind := .array 35 .int, interfaces := #[17, 2], accessFlags := 1041 }

/-- [Ljava/lang/Object; -/
def k37 : Class := { plain "[Ljava/lang/Object;" (some 0) with kind := .array 0 (.object "java/lang/Object"), interfaces := #[17, 2], accessFlags := 1041 }

def heap : Heap := #[{ cls := 7, slots := #[.long 0, .int 1, .null, .int 0, .null, .int 0, .int 0], vm := .statics 7 },
  { cls := 18, slots := #[.long 0, .int 0, .ref 5, .ref 6], vm := .statics 18 },
  { cls := 24, slots := #[.int 0, .int 0, .null, .null, .ref 7, .ref 4, .int 0, .int 0, .long 0], vm := .statics 24 },
  { cls := 30, slots := #[.null, .null, .null], vm := .statics 30 },
  { cls := 32, slots := #[.int 48, .int 49, .int 50, .int 51, .int 52, .int 53, .int 54, .int 55, .int 56, .int 57, .int 48, .int 49, .int 50, .int 51, .int 52, .int 53, .int 54, .int 55, .int 56, .int 57, .int 48, .int 49, .int 50, .int 51, .int 52, .int 53, .int 54, .int 55, .int 56, .int 57, .int 48, .int 49, .int 50, .int 51, .int 52, .int 53, .int 54, .int 55, .int 56, .int 57, .int 48, .int 49, .int 50, .int 51, .int 52, .int 53, .int 54, .int 55, .int 56, .int 57, .int 48, .int 49, .int 50, .int 51, .int 52, .int 53, .int 54, .int 55, .int 56, .int 57, .int 48, .int 49, .int 50, .int 51, .int 52, .int 53, .int 54, .int 55, .int 56, .int 57, .int 48, .int 49, .int 50, .int 51, .int 52, .int 53, .int 54, .int 55, .int 56, .int 57, .int 48, .int 49, .int 50, .int 51, .int 52, .int 53, .int 54, .int 55, .int 56, .int 57, .int 48, .int 49, .int 50, .int 51, .int 52, .int 53, .int 54, .int 55, .int 56, .int 57], vm := .none },
  { cls := 37, slots := #[], vm := .none },
  { cls := 37, slots := #[], vm := .none },
  { cls := 32, slots := #[.int 48, .int 48, .int 48, .int 48, .int 48, .int 48, .int 48, .int 48, .int 48, .int 48, .int 49, .int 49, .int 49, .int 49, .int 49, .int 49, .int 49, .int 49, .int 49, .int 49, .int 50, .int 50, .int 50, .int 50, .int 50, .int 50, .int 50, .int 50, .int 50, .int 50, .int 51, .int 51, .int 51, .int 51, .int 51, .int 51, .int 51, .int 51, .int 51, .int 51, .int 52, .int 52, .int 52, .int 52, .int 52, .int 52, .int 52, .int 52, .int 52, .int 52, .int 53, .int 53, .int 53, .int 53, .int 53, .int 53, .int 53, .int 53, .int 53, .int 53, .int 54, .int 54, .int 54, .int 54, .int 54, .int 54, .int 54, .int 54, .int 54, .int 54, .int 55, .int 55, .int 55, .int 55, .int 55, .int 55, .int 55, .int 55, .int 55, .int 55, .int 56, .int 56, .int 56, .int 56, .int 56, .int 56, .int 56, .int 56, .int 56, .int 56, .int 57, .int 57, .int 57, .int 57, .int 57, .int 57, .int 57, .int 57, .int 57, .int 57], vm := .none }]
def classes : Array Class := #[k0, k1, k2, k3, k4, k5, k6, k7, k8, k9, k10, k11, k12, k13, k14, k15, k16, k17, k18, k19, k20, k21, k22, k23, k24, k25, k26, k27, k28, k29, k30, k31, k32, k33, k34, k35, k36, k37]
def interned : List (Array UInt16 × Addr) := []
def slotsUsed : Nat := 223
def theMethod : MethodId := ⟨1, 2⟩
def args0 : Array Value := #[.int 5, .int 5, .int 5]
def aboutOver (below : List Frame) : State where
  vm := { classes := classes, interned := interned.toArray }
  heap := heap
  slotsUsed := slotsUsed
  threads := #[{ frames := .invoking theMethod args0 :: below }]
def below0 : List Frame := [.native { method := ⟨0, 0⟩, args := #[] }]
def about1 : State := aboutOver below0
def p0 : Program := .bare "" "" ""
def e0 : Env := launch0.env 0 0 0
theorem w_frames : about1.frames = Frame.invoking theMethod args0 :: below0 := rfl
set_option maxRecDepth 65536 in
theorem w_args : argsFit about1.vm theMethod args0 = true := by decide +kernel
set_option maxRecDepth 65536 in
theorem w_heap : heapFits about1 = true := by decide +kernel
set_option maxRecDepth 65536 in
theorem w_runnable : about1.curStatus? = some .runnable := by decide +kernel
set_option maxRecDepth 65536 in
theorem w_alone : about1.alone = true := by decide +kernel
set_option maxRecDepth 65536 in
theorem w_named : about1.methodNamed? x = some theMethod := by decide +kernel
set_option maxRecDepth 65536 in
theorem w_hears : about1.hears theMethod below0 = true := by decide +kernel
set_option maxRecDepth 65536 in
theorem w_ripe : about1.ripe theMethod args0 below0 = true := by decide +kernel
theorem w_running : about1.status = .running := rfl
set_option maxRecDepth 65536 in
theorem w_room : about1.hasRoom e0.platform room_1 = true :=
  launch0.hasRoom_least _ room_1 (by decide +kernel) (by decide +kernel) (by decide +kernel) (by decide +kernel) (by decide +kernel) (by decide +kernel)
theorem allAtoms_all (ts : List Jvm.Cond) (a : Array Jvm.Value) (st : Jvm.State) : (allAtoms ts).before a st = ts.all (fun c => c.before a st) := by
  induction ts with
  | nil => rfl
  | cons c t ih =>
    show (Jvm.Cond.and c (allAtoms t)).before a st = _
    rw [Jvm.Cond.before_and, ih, List.all_cons]
def words1 : List Jvm.Cond := Jvm.Cond.code x code maxLocals ret :: tables_1
/-- a 'code' word, met by the world's own term for the bytes: nothing is compared byte by byte -/
theorem code_word {y : MethodName} {bytes : ByteArray} {mx : Nat} {rt : Option FieldType} {a : Array Value} {s : State} {m : MethodId} {meth : Method} {c : Code} (h1 : s.methodNamed? y = some m) (h2 : s.vm.method? m = some meth) (h3 : meth.code = some c) (h4 : c.code = bytes)
    (h5 : (c.maxLocals == mx && c.exceptionTable.isEmpty && decide (c.maxStack ≤ mostOperands) && decide (meth.sig.returnType = rt) && !meth.locks && decide (parseMethodDescriptor y.desc = some meth.sig)) = true) : (Jvm.Cond.code y bytes mx rt).before a s = true := by
  simp only [Bool.and_eq_true, beq_iff_eq, Bool.not_eq_true', decide_eq_true_eq] at h5
  obtain ⟨⟨⟨⟨⟨g1, g2⟩, g3⟩, g4⟩, g5⟩, g6⟩ := h5
  simp [Cond.before, Cond.holds, Cond.value, h1, h2, h3, h4, g1, g2, g3, g4, g5, g6]
def isCode : Jvm.Cond → Bool
  | .code _ _ _ _ => true
  | _ => false
theorem all_split {L : List Jvm.Cond} {P : Jvm.Cond → Bool} (h1 : L.all (fun c => isCode c || P c) = true) (h2 : ∀ c ∈ L.filter isCode, P c = true) : L.all P = true := by
  refine List.all_eq_true.mpr fun c hc => ?_
  have h := List.all_eq_true.mp h1 c hc
  rcases Bool.eq_false_or_eq_true (isCode c) with hi | hi
  · exact h2 c (List.mem_filter.mpr ⟨hc, hi⟩)
  · simpa [hi] using h
set_option maxRecDepth 65536 in
theorem w_c0 : (Jvm.Cond.code x code maxLocals ret).before args0 about1 = true := code_word (m := ⟨1, 2⟩) (meth := k1m2) (c := k1c2) (by decide +kernel) rfl rfl rfl (by decide +kernel)
set_option maxRecDepth 65536 in
theorem w_c1 : (Jvm.Cond.code ({ cls := "com/example/estate4/estate4/jdbc/SelectTextExistsPinLaw", name := "str", desc := "(ICC)Ljava/lang/String;" } : Jvm.MethodName) method_2_code (3 : Nat) (Option.some (Jvm.ClassFile.FieldType.object "java/lang/String"))).before args0 about1 = true := code_word (m := ⟨1, 1⟩) (meth := k1m1) (c := k1c1) (by decide +kernel) rfl rfl rfl (by decide +kernel)
set_option maxRecDepth 65536 in
theorem w_c2 : (Jvm.Cond.code ({ cls := "java/lang/String", name := "<init>", desc := "([C)V" } : Jvm.MethodName) jdk_42_method_3_code (2 : Nat) (Option.none : Option Jvm.ClassFile.FieldType)).before args0 about1 = true := code_word (m := ⟨7, 1⟩) (meth := k7m1) (c := k7c1) (by decide +kernel) rfl rfl rfl (by decide +kernel)
set_option maxRecDepth 65536 in
theorem w_c3 : (Jvm.Cond.code ({ cls := "java/lang/String", name := "<init>", desc := "([CIILjava/lang/Void;)V" } : Jvm.MethodName) jdk_42_method_149_code (6 : Nat) (Option.none : Option Jvm.ClassFile.FieldType)).before args0 about1 = true := code_word (m := ⟨7, 8⟩) (meth := k7m8) (c := k7c8) (by decide +kernel) rfl rfl rfl (by decide +kernel)
set_option maxRecDepth 65536 in
theorem w_c4 : (Jvm.Cond.code ({ cls := "java/lang/Object", name := "<init>", desc := "()V" } : Jvm.MethodName) object_method_1_code (1 : Nat) (Option.none : Option Jvm.ClassFile.FieldType)).before args0 about1 = true := code_word (m := ⟨0, 0⟩) (meth := k0m0) (c := k0c0) (by decide +kernel) rfl rfl rfl (by decide +kernel)
set_option maxRecDepth 65536 in
theorem w_c5 : (Jvm.Cond.code ({ cls := "com/example/estate4/estate4/jdbc/SelectText", name := "<init>", desc := "(Ljava/lang/String;)V" } : Jvm.MethodName) prog_6_method_1_code (2 : Nat) (Option.none : Option Jvm.ClassFile.FieldType)).before args0 about1 = true := code_word (m := ⟨8, 0⟩) (meth := k8m0) (c := k8c0) (by decide +kernel) rfl rfl rfl (by decide +kernel)
set_option maxRecDepth 65536 in
theorem w_c6 : (Jvm.Cond.code ({ cls := "com/example/estate4/estate4/jdbc/SelectText$Aliases", name := "<init>", desc := "()V" } : Jvm.MethodName) prog_7_method_1_code (1 : Nat) (Option.none : Option Jvm.ClassFile.FieldType)).before args0 about1 = true := code_word (m := ⟨9, 0⟩) (meth := k9m0) (c := k9c0) (by decide +kernel) rfl rfl rfl (by decide +kernel)
set_option maxRecDepth 65536 in
theorem w_c7 : (Jvm.Cond.code ({ cls := "com/example/estate4/estate4/jdbc/SelectText", name := "<init>", desc := "(Ljava/lang/String;Lcom/example/estate4/estate4/jdbc/SelectText$Aliases;)V" } : Jvm.MethodName) prog_6_method_2_code (3 : Nat) (Option.none : Option Jvm.ClassFile.FieldType)).before args0 about1 = true := code_word (m := ⟨8, 1⟩) (meth := k8m1) (c := k8c1) (by decide +kernel) rfl rfl rfl (by decide +kernel)
set_option maxRecDepth 65536 in
theorem w_c8 : (Jvm.Cond.code ({ cls := "java/util/ArrayList", name := "<init>", desc := "()V" } : Jvm.MethodName) jdk_38_method_2_code (1 : Nat) (Option.none : Option Jvm.ClassFile.FieldType)).before args0 about1 = true := code_word (m := ⟨18, 0⟩) (meth := k18m0) (c := k18c0) (by decide +kernel) rfl rfl rfl (by decide +kernel)
set_option maxRecDepth 65536 in
theorem w_c9 : (Jvm.Cond.code ({ cls := "java/util/AbstractList", name := "<init>", desc := "()V" } : Jvm.MethodName) jdk_39_method_1_code (1 : Nat) (Option.none : Option Jvm.ClassFile.FieldType)).before args0 about1 = true := code_word (m := ⟨15, 0⟩) (meth := k15m0) (c := k15c0) (by decide +kernel) rfl rfl rfl (by decide +kernel)
set_option maxRecDepth 65536 in
theorem w_c10 : (Jvm.Cond.code ({ cls := "java/util/AbstractCollection", name := "<init>", desc := "()V" } : Jvm.MethodName) jdk_22_method_1_code (1 : Nat) (Option.none : Option Jvm.ClassFile.FieldType)).before args0 about1 = true := code_word (m := ⟨12, 0⟩) (meth := k12m0) (c := k12c0) (by decide +kernel) rfl rfl rfl (by decide +kernel)
set_option maxRecDepth 65536 in
theorem w_c11 : (Jvm.Cond.code ({ cls := "java/lang/StringBuilder", name := "<init>", desc := "()V" } : Jvm.MethodName) jdk_67_method_1_code (1 : Nat) (Option.none : Option Jvm.ClassFile.FieldType)).before args0 about1 = true := code_word (m := ⟨21, 0⟩) (meth := k21m0) (c := k21c0) (by decide +kernel) rfl rfl rfl (by decide +kernel)
set_option maxRecDepth 65536 in
theorem w_c12 : (Jvm.Cond.code ({ cls := "java/lang/AbstractStringBuilder", name := "<init>", desc := "(I)V" } : Jvm.MethodName) jdk_68_method_2_code (2 : Nat) (Option.none : Option Jvm.ClassFile.FieldType)).before args0 about1 = true := code_word (m := ⟨20, 1⟩) (meth := k20m1) (c := k20c1) (by decide +kernel) rfl rfl rfl (by decide +kernel)
set_option maxRecDepth 65536 in
theorem w_c13 : (Jvm.Cond.code ({ cls := "com/example/estate4/estate4/jdbc/SelectText$Aliases", name := "next", desc := "()Ljava/lang/String;" } : Jvm.MethodName) prog_7_method_2_code (2 : Nat) (Option.some (Jvm.ClassFile.FieldType.object "java/lang/String"))).before args0 about1 = true := code_word (m := ⟨9, 1⟩) (meth := k9m1) (c := k9c1) (by decide +kernel) rfl rfl rfl (by decide +kernel)
set_option maxRecDepth 65536 in
theorem w_c14 : (Jvm.Cond.code ({ cls := "java/lang/StringBuilder", name := "append", desc := "(Ljava/lang/String;)Ljava/lang/StringBuilder;" } : Jvm.MethodName) jdk_67_method_7_code (2 : Nat) (Option.some (Jvm.ClassFile.FieldType.object "java/lang/StringBuilder"))).before args0 about1 = true := code_word (m := ⟨21, 2⟩) (meth := k21m2) (c := k21c2) (by decide +kernel) rfl rfl rfl (by decide +kernel)
set_option maxRecDepth 65536 in
theorem w_c15 : (Jvm.Cond.code ({ cls := "java/lang/AbstractStringBuilder", name := "append", desc := "(Ljava/lang/String;)Ljava/lang/AbstractStringBuilder;" } : Jvm.MethodName) jdk_68_method_22_code (3 : Nat) (Option.some (Jvm.ClassFile.FieldType.object "java/lang/AbstractStringBuilder"))).before args0 about1 = true := code_word (m := ⟨20, 5⟩) (meth := k20m5) (c := k20c5) (by decide +kernel) rfl rfl rfl (by decide +kernel)
set_option maxRecDepth 65536 in
theorem w_c16 : (Jvm.Cond.code ({ cls := "java/lang/String", name := "length", desc := "()I" } : Jvm.MethodName) jdk_42_method_54_code (1 : Nat) (Option.some Jvm.ClassFile.FieldType.int)).before args0 about1 = true := code_word (m := ⟨7, 3⟩) (meth := k7m3) (c := k7c3) (by decide +kernel) rfl rfl rfl (by decide +kernel)
set_option maxRecDepth 65536 in
theorem w_c17 : (Jvm.Cond.code ({ cls := "java/lang/String", name := "coder", desc := "()B" } : Jvm.MethodName) jdk_42_method_152_code (1 : Nat) (Option.some Jvm.ClassFile.FieldType.byte)).before args0 about1 = true := code_word (m := ⟨7, 11⟩) (meth := k7m11) (c := k7c11) (by decide +kernel) rfl rfl rfl (by decide +kernel)
set_option maxRecDepth 65536 in
theorem w_c18 : (Jvm.Cond.code ({ cls := "java/lang/AbstractStringBuilder", name := "ensureCapacityInternal", desc := "(I)V" } : Jvm.MethodName) jdk_68_method_9_code (3 : Nat) (Option.none : Option Jvm.ClassFile.FieldType)).before args0 about1 = true := code_word (m := ⟨20, 3⟩) (meth := k20m3) (c := k20c3) (by decide +kernel) rfl rfl rfl (by decide +kernel)
set_option maxRecDepth 65536 in
theorem w_c19 : (Jvm.Cond.code ({ cls := "java/lang/AbstractStringBuilder", name := "putStringAt", desc := "(ILjava/lang/String;)V" } : Jvm.MethodName) jdk_68_method_73_code (3 : Nat) (Option.none : Option Jvm.ClassFile.FieldType)).before args0 about1 = true := code_word (m := ⟨20, 11⟩) (meth := k20m11) (c := k20c11) (by decide +kernel) rfl rfl rfl (by decide +kernel)
set_option maxRecDepth 65536 in
theorem w_c20 : (Jvm.Cond.code ({ cls := "java/lang/AbstractStringBuilder", name := "inflateIfNeededFor", desc := "(Ljava/lang/String;)V" } : Jvm.MethodName) jdk_68_method_71_code (2 : Nat) (Option.none : Option Jvm.ClassFile.FieldType)).before args0 about1 = true := code_word (m := ⟨20, 10⟩) (meth := k20m10) (c := k20c10) (by decide +kernel) rfl rfl rfl (by decide +kernel)
set_option maxRecDepth 65536 in
theorem w_c21 : (Jvm.Cond.code ({ cls := "java/lang/String", name := "getBytes", desc := "([BIB)V" } : Jvm.MethodName) jdk_42_method_147_code (4 : Nat) (Option.none : Option Jvm.ClassFile.FieldType)).before args0 about1 = true := code_word (m := ⟨7, 7⟩) (meth := k7m7) (c := k7c7) (by decide +kernel) rfl rfl rfl (by decide +kernel)
set_option maxRecDepth 65536 in
theorem w_c22 : (Jvm.Cond.code ({ cls := "java/lang/StringBuilder", name := "append", desc := "(I)Ljava/lang/StringBuilder;" } : Jvm.MethodName) jdk_67_method_15_code (2 : Nat) (Option.some (Jvm.ClassFile.FieldType.object "java/lang/StringBuilder"))).before args0 about1 = true := code_word (m := ⟨21, 4⟩) (meth := k21m4) (c := k21c4) (by decide +kernel) rfl rfl rfl (by decide +kernel)
set_option maxRecDepth 65536 in
theorem w_c23 : (Jvm.Cond.code ({ cls := "java/lang/AbstractStringBuilder", name := "append", desc := "(I)Ljava/lang/AbstractStringBuilder;" } : Jvm.MethodName) jdk_68_method_32_code (4 : Nat) (Option.some (Jvm.ClassFile.FieldType.object "java/lang/AbstractStringBuilder"))).before args0 about1 = true := code_word (m := ⟨20, 7⟩) (meth := k20m7) (c := k20c7) (by decide +kernel) rfl rfl rfl (by decide +kernel)
set_option maxRecDepth 65536 in
theorem w_c24 : (Jvm.Cond.code ({ cls := "java/lang/Integer", name := "stringSize", desc := "(I)I" } : Jvm.MethodName) jdk_33_method_13_code (4 : Nat) (Option.some Jvm.ClassFile.FieldType.int)).before args0 about1 = true := code_word (m := ⟨24, 1⟩) (meth := k24m1) (c := k24c1) (by decide +kernel) rfl rfl rfl (by decide +kernel)
set_option maxRecDepth 65536 in
theorem w_c25 : (Jvm.Cond.code ({ cls := "java/lang/AbstractStringBuilder", name := "isLatin1", desc := "()Z" } : Jvm.MethodName) jdk_68_method_68_code (1 : Nat) (Option.some Jvm.ClassFile.FieldType.boolean)).before args0 about1 = true := code_word (m := ⟨20, 9⟩) (meth := k20m9) (c := k20c9) (by decide +kernel) rfl rfl rfl (by decide +kernel)
set_option maxRecDepth 65536 in
theorem w_c26 : (Jvm.Cond.code ({ cls := "java/lang/Integer", name := "getChars", desc := "(II[B)I" } : Jvm.MethodName) jdk_33_method_12_code (7 : Nat) (Option.some Jvm.ClassFile.FieldType.int)).before args0 about1 = true := code_word (m := ⟨24, 0⟩) (meth := k24m0) (c := k24c0) (by decide +kernel) rfl rfl rfl (by decide +kernel)
set_option maxRecDepth 65536 in
theorem w_c27 : (Jvm.Cond.code ({ cls := "java/lang/StringBuilder", name := "toString", desc := "()Ljava/lang/String;" } : Jvm.MethodName) jdk_67_method_42_code (1 : Nat) (Option.some (Jvm.ClassFile.FieldType.object "java/lang/String"))).before args0 about1 = true := code_word (m := ⟨21, 5⟩) (meth := k21m5) (c := k21c5) (by decide +kernel) rfl rfl rfl (by decide +kernel)
set_option maxRecDepth 65536 in
theorem w_c28 : (Jvm.Cond.code ({ cls := "java/lang/String", name := "<init>", desc := "(Ljava/lang/StringBuilder;)V" } : Jvm.MethodName) jdk_42_method_53_code (2 : Nat) (Option.none : Option Jvm.ClassFile.FieldType)).before args0 about1 = true := code_word (m := ⟨7, 2⟩) (meth := k7m2) (c := k7c2) (by decide +kernel) rfl rfl rfl (by decide +kernel)
set_option maxRecDepth 65536 in
theorem w_c29 : (Jvm.Cond.code ({ cls := "java/lang/String", name := "<init>", desc := "(Ljava/lang/AbstractStringBuilder;Ljava/lang/Void;)V" } : Jvm.MethodName) jdk_42_method_150_code (5 : Nat) (Option.none : Option Jvm.ClassFile.FieldType)).before args0 about1 = true := code_word (m := ⟨7, 9⟩) (meth := k7m9) (c := k7c9) (by decide +kernel) rfl rfl rfl (by decide +kernel)
set_option maxRecDepth 65536 in
theorem w_c30 : (Jvm.Cond.code ({ cls := "java/lang/AbstractStringBuilder", name := "getValue", desc := "()[B" } : Jvm.MethodName) jdk_68_method_64_code (1 : Nat) (Option.some (Jvm.ClassFile.FieldType.array Jvm.ClassFile.FieldType.byte))).before args0 about1 = true := code_word (m := ⟨20, 8⟩) (meth := k20m8) (c := k20c8) (by decide +kernel) rfl rfl rfl (by decide +kernel)
set_option maxRecDepth 65536 in
theorem w_c31 : (Jvm.Cond.code ({ cls := "java/lang/StringBuilder", name := "length", desc := "()I" } : Jvm.MethodName) jdk_67_method_93_code (1 : Nat) (Option.some Jvm.ClassFile.FieldType.int)).before args0 about1 = true := code_word (m := ⟨21, 6⟩) (meth := k21m6) (c := k21c6) (by decide +kernel) rfl rfl rfl (by decide +kernel)
set_option maxRecDepth 65536 in
theorem w_c32 : (Jvm.Cond.code ({ cls := "java/lang/AbstractStringBuilder", name := "length", desc := "()I" } : Jvm.MethodName) jdk_68_method_6_code (1 : Nat) (Option.some Jvm.ClassFile.FieldType.int)).before args0 about1 = true := code_word (m := ⟨20, 2⟩) (meth := k20m2) (c := k20c2) (by decide +kernel) rfl rfl rfl (by decide +kernel)
set_option maxRecDepth 65536 in
theorem w_c33 : (Jvm.Cond.code ({ cls := "java/util/Arrays", name := "copyOfRange", desc := "([BII)[B" } : Jvm.MethodName) jdk_65_method_132_code (3 : Nat) (Option.some (Jvm.ClassFile.FieldType.array Jvm.ClassFile.FieldType.byte))).before args0 about1 = true := code_word (m := ⟨25, 3⟩) (meth := k25m3) (c := k25c3) (by decide +kernel) rfl rfl rfl (by decide +kernel)
set_option maxRecDepth 65536 in
theorem w_c34 : (Jvm.Cond.code ({ cls := "java/util/Arrays", name := "copyOfRangeByte", desc := "([BII)[B" } : Jvm.MethodName) jdk_65_method_133_code (5 : Nat) (Option.some (Jvm.ClassFile.FieldType.array Jvm.ClassFile.FieldType.byte))).before args0 about1 = true := code_word (m := ⟨25, 4⟩) (meth := k25m4) (c := k25c4) (by decide +kernel) rfl rfl rfl (by decide +kernel)
set_option maxRecDepth 65536 in
theorem w_c35 : (Jvm.Cond.code ({ cls := "java/util/Arrays", name := "checkLength", desc := "(II)V" } : Jvm.MethodName) jdk_65_method_131_code (2 : Nat) (Option.none : Option Jvm.ClassFile.FieldType)).before args0 about1 = true := code_word (m := ⟨25, 2⟩) (meth := k25m2) (c := k25c2) (by decide +kernel) rfl rfl rfl (by decide +kernel)
set_option maxRecDepth 65536 in
theorem w_c36 : (Jvm.Cond.code ({ cls := "java/lang/Math", name := "min", desc := "(II)I" } : Jvm.MethodName) jdk_29_method_69_code (2 : Nat) (Option.some Jvm.ClassFile.FieldType.int)).before args0 about1 = true := code_word (m := ⟨26, 2⟩) (meth := k26m2) (c := k26c2) (by decide +kernel) rfl rfl rfl (by decide +kernel)
set_option maxRecDepth 65536 in
theorem w_c37 : (Jvm.Cond.code ({ cls := "java/lang/StringBuilder", name := "append", desc := "(C)Ljava/lang/StringBuilder;" } : Jvm.MethodName) jdk_67_method_14_code (2 : Nat) (Option.some (Jvm.ClassFile.FieldType.object "java/lang/StringBuilder"))).before args0 about1 = true := code_word (m := ⟨21, 3⟩) (meth := k21m3) (c := k21c3) (by decide +kernel) rfl rfl rfl (by decide +kernel)
set_option maxRecDepth 65536 in
theorem w_c38 : (Jvm.Cond.code ({ cls := "java/lang/AbstractStringBuilder", name := "append", desc := "(C)Ljava/lang/AbstractStringBuilder;" } : Jvm.MethodName) jdk_68_method_31_code (2 : Nat) (Option.some (Jvm.ClassFile.FieldType.object "java/lang/AbstractStringBuilder"))).before args0 about1 = true := code_word (m := ⟨20, 6⟩) (meth := k20m6) (c := k20c6) (by decide +kernel) rfl rfl rfl (by decide +kernel)
set_option maxRecDepth 65536 in
theorem w_c39 : (Jvm.Cond.code ({ cls := "java/lang/StringLatin1", name := "canEncode", desc := "(C)Z" } : Jvm.MethodName) jdk_43_method_3_code (1 : Nat) (Option.some Jvm.ClassFile.FieldType.boolean)).before args0 about1 = true := code_word (m := ⟨27, 1⟩) (meth := k27m1) (c := k27c1) (by decide +kernel) rfl rfl rfl (by decide +kernel)
set_option maxRecDepth 65536 in
theorem w_c40 : (Jvm.Cond.code ({ cls := "java/lang/String", name := "valueOf", desc := "(C)Ljava/lang/String;" } : Jvm.MethodName) jdk_42_method_139_code (1 : Nat) (Option.some (Jvm.ClassFile.FieldType.object "java/lang/String"))).before args0 about1 = true := code_word (m := ⟨7, 6⟩) (meth := k7m6) (c := k7c6) (by decide +kernel) rfl rfl rfl (by decide +kernel)
set_option maxRecDepth 65536 in
theorem w_c41 : (Jvm.Cond.code ({ cls := "java/lang/StringLatin1", name := "toBytes", desc := "(C)[B" } : Jvm.MethodName) jdk_43_method_46_code (1 : Nat) (Option.some (Jvm.ClassFile.FieldType.array Jvm.ClassFile.FieldType.byte))).before args0 about1 = true := code_word (m := ⟨27, 3⟩) (meth := k27m3) (c := k27c3) (by decide +kernel) rfl rfl rfl (by decide +kernel)
set_option maxRecDepth 65536 in
theorem w_c42 : (Jvm.Cond.code ({ cls := "java/lang/String", name := "<init>", desc := "([BB)V" } : Jvm.MethodName) jdk_42_method_151_code (3 : Nat) (Option.none : Option Jvm.ClassFile.FieldType)).before args0 about1 = true := code_word (m := ⟨7, 10⟩) (meth := k7m10) (c := k7c10) (by decide +kernel) rfl rfl rfl (by decide +kernel)
set_option maxRecDepth 65536 in
theorem w_c43 : (Jvm.Cond.code ({ cls := "com/example/estate4/estate4/jdbc/SelectText", name := "crossJoin", desc := "(Ljava/lang/String;)Ljava/lang/String;" } : Jvm.MethodName) prog_6_method_11_code (3 : Nat) (Option.some (Jvm.ClassFile.FieldType.object "java/lang/String"))).before args0 about1 = true := code_word (m := ⟨8, 3⟩) (meth := k8m3) (c := k8c3) (by decide +kernel) rfl rfl rfl (by decide +kernel)
set_option maxRecDepth 65536 in
theorem w_c44 : (Jvm.Cond.code ({ cls := "java/lang/AbstractStringBuilder", name := "newCapacity", desc := "(I)I" } : Jvm.MethodName) jdk_68_method_10_code (6 : Nat) (Option.some Jvm.ClassFile.FieldType.int)).before args0 about1 = true := code_word (m := ⟨20, 4⟩) (meth := k20m4) (c := k20c4) (by decide +kernel) rfl rfl rfl (by decide +kernel)
set_option maxRecDepth 65536 in
theorem w_c45 : (Jvm.Cond.code ({ cls := "jdk/internal/util/ArraysSupport", name := "newLength", desc := "(III)I" } : Jvm.MethodName) jdk_48_method_27_code (4 : Nat) (Option.some Jvm.ClassFile.FieldType.int)).before args0 about1 = true := code_word (m := ⟨28, 1⟩) (meth := k28m1) (c := k28c1) (by decide +kernel) rfl rfl rfl (by decide +kernel)
set_option maxRecDepth 65536 in
theorem w_c46 : (Jvm.Cond.code ({ cls := "java/lang/Math", name := "max", desc := "(II)I" } : Jvm.MethodName) jdk_29_method_65_code (2 : Nat) (Option.some Jvm.ClassFile.FieldType.int)).before args0 about1 = true := code_word (m := ⟨26, 1⟩) (meth := k26m1) (c := k26c1) (by decide +kernel) rfl rfl rfl (by decide +kernel)
set_option maxRecDepth 65536 in
theorem w_c47 : (Jvm.Cond.code ({ cls := "java/util/Arrays", name := "copyOf", desc := "([BI)[B" } : Jvm.MethodName) jdk_65_method_121_code (3 : Nat) (Option.some (Jvm.ClassFile.FieldType.array Jvm.ClassFile.FieldType.byte))).before args0 about1 = true := code_word (m := ⟨25, 1⟩) (meth := k25m1) (c := k25c1) (by decide +kernel) rfl rfl rfl (by decide +kernel)
set_option maxRecDepth 65536 in
theorem w_c48 : (Jvm.Cond.code ({ cls := "com/example/estate4/estate4/jdbc/SelectText", name := "exists", desc := "(Ljava/lang/String;)Ljava/lang/String;" } : Jvm.MethodName) prog_6_method_22_code (2 : Nat) (Option.some (Jvm.ClassFile.FieldType.object "java/lang/String"))).before args0 about1 = true := code_word (m := ⟨8, 4⟩) (meth := k8m4) (c := k8c4) (by decide +kernel) rfl rfl rfl (by decide +kernel)
set_option maxRecDepth 65536 in
theorem w_c49 : (Jvm.Cond.code ({ cls := "java/lang/StringBuilder", name := "append", desc := "(Ljava/lang/Object;)Ljava/lang/StringBuilder;" } : Jvm.MethodName) jdk_67_method_6_code (2 : Nat) (Option.some (Jvm.ClassFile.FieldType.object "java/lang/StringBuilder"))).before args0 about1 = true := code_word (m := ⟨21, 1⟩) (meth := k21m1) (c := k21c1) (by decide +kernel) rfl rfl rfl (by decide +kernel)
set_option maxRecDepth 65536 in
theorem w_c50 : (Jvm.Cond.code ({ cls := "java/lang/String", name := "valueOf", desc := "(Ljava/lang/Object;)Ljava/lang/String;" } : Jvm.MethodName) jdk_42_method_133_code (1 : Nat) (Option.some (Jvm.ClassFile.FieldType.object "java/lang/String"))).before args0 about1 = true := code_word (m := ⟨7, 5⟩) (meth := k7m5) (c := k7c5) (by decide +kernel) rfl rfl rfl (by decide +kernel)
set_option maxRecDepth 65536 in
theorem w_c51 : (Jvm.Cond.code ({ cls := "java/lang/StringUTF16", name := "compress", desc := "([CII)[B" } : Jvm.MethodName) jdk_52_method_16_code (6 : Nat) (Option.some (Jvm.ClassFile.FieldType.array Jvm.ClassFile.FieldType.byte))).before args0 about1 = true := code_word (m := ⟨29, 2⟩) (meth := k29m2) (c := k29c2) (by decide +kernel) rfl rfl rfl (by decide +kernel)
set_option maxRecDepth 65536 in
theorem w_c52 : (Jvm.Cond.code ({ cls := "java/lang/StringUTF16", name := "compress", desc := "([CI[BII)I" } : Jvm.MethodName) jdk_52_method_21_code (7 : Nat) (Option.some Jvm.ClassFile.FieldType.int)).before args0 about1 = true := code_word (m := ⟨29, 3⟩) (meth := k29m3) (c := k29c3) (by decide +kernel) rfl rfl rfl (by decide +kernel)
set_option maxRecDepth 65536 in
theorem w_c53 : (Jvm.Cond.code ({ cls := "java/lang/StringUTF16", name := "coderFromArrayLen", desc := "([BI)B" } : Jvm.MethodName) jdk_52_method_15_code (2 : Nat) (Option.some Jvm.ClassFile.FieldType.byte)).before args0 about1 = true := code_word (m := ⟨29, 1⟩) (meth := k29m1) (c := k29c1) (by decide +kernel) rfl rfl rfl (by decide +kernel)
set_option maxRecDepth 65536 in
theorem w_c54 : (Jvm.Cond.code ({ cls := "java/lang/String", name := "equals", desc := "(Ljava/lang/Object;)Z" } : Jvm.MethodName) jdk_42_method_66_code (3 : Nat) (Option.some Jvm.ClassFile.FieldType.boolean)).before args0 about1 = true := code_word (m := ⟨7, 4⟩) (meth := k7m4) (c := k7c4) (by decide +kernel) rfl rfl rfl (by decide +kernel)
set_option maxRecDepth 65536 in
theorem w_c55 : (Jvm.Cond.code ({ cls := "java/lang/StringLatin1", name := "equals", desc := "([B[B)Z" } : Jvm.MethodName) jdk_43_method_13_code (3 : Nat) (Option.some Jvm.ClassFile.FieldType.boolean)).before args0 about1 = true := code_word (m := ⟨27, 2⟩) (meth := k27m2) (c := k27c2) (by decide +kernel) rfl rfl rfl (by decide +kernel)
set_option maxRecDepth 65536 in
theorem w_c56 : (Jvm.Cond.code ({ cls := "com/example/estate4/estate4/jdbc/SelectText", name := "subselect", desc := "(Ljava/lang/String;)Lcom/example/estate4/estate4/jdbc/SelectText;" } : Jvm.MethodName) prog_6_method_3_code (2 : Nat) (Option.some (Jvm.ClassFile.FieldType.object "com/example/estate4/estate4/jdbc/SelectText"))).before args0 about1 = true := code_word (m := ⟨8, 2⟩) (meth := k8m2) (c := k8c2) (by decide +kernel) rfl rfl rfl (by decide +kernel)
def codes1 : List Jvm.Cond := [Jvm.Cond.code x code maxLocals ret, Jvm.Cond.code ({ cls := "com/example/estate4/estate4/jdbc/SelectTextExistsPinLaw", name := "str", desc := "(ICC)Ljava/lang/String;" } : Jvm.MethodName) method_2_code (3 : Nat) (Option.some (Jvm.ClassFile.FieldType.object "java/lang/String")), Jvm.Cond.code ({ cls := "java/lang/String", name := "<init>", desc := "([C)V" } : Jvm.MethodName) jdk_42_method_3_code (2 : Nat) (Option.none : Option Jvm.ClassFile.FieldType), Jvm.Cond.code ({ cls := "java/lang/String", name := "<init>", desc := "([CIILjava/lang/Void;)V" } : Jvm.MethodName) jdk_42_method_149_code (6 : Nat) (Option.none : Option Jvm.ClassFile.FieldType), Jvm.Cond.code ({ cls := "java/lang/Object", name := "<init>", desc := "()V" } : Jvm.MethodName) object_method_1_code (1 : Nat) (Option.none : Option Jvm.ClassFile.FieldType), Jvm.Cond.code ({ cls := "com/example/estate4/estate4/jdbc/SelectText", name := "<init>", desc := "(Ljava/lang/String;)V" } : Jvm.MethodName) prog_6_method_1_code (2 : Nat) (Option.none : Option Jvm.ClassFile.FieldType), Jvm.Cond.code ({ cls := "com/example/estate4/estate4/jdbc/SelectText$Aliases", name := "<init>", desc := "()V" } : Jvm.MethodName) prog_7_method_1_code (1 : Nat) (Option.none : Option Jvm.ClassFile.FieldType), Jvm.Cond.code ({ cls := "com/example/estate4/estate4/jdbc/SelectText", name := "<init>", desc := "(Ljava/lang/String;Lcom/example/estate4/estate4/jdbc/SelectText$Aliases;)V" } : Jvm.MethodName) prog_6_method_2_code (3 : Nat) (Option.none : Option Jvm.ClassFile.FieldType), Jvm.Cond.code ({ cls := "java/util/ArrayList", name := "<init>", desc := "()V" } : Jvm.MethodName) jdk_38_method_2_code (1 : Nat) (Option.none : Option Jvm.ClassFile.FieldType), Jvm.Cond.code ({ cls := "java/util/AbstractList", name := "<init>", desc := "()V" } : Jvm.MethodName) jdk_39_method_1_code (1 : Nat) (Option.none : Option Jvm.ClassFile.FieldType), Jvm.Cond.code ({ cls := "java/util/AbstractCollection", name := "<init>", desc := "()V" } : Jvm.MethodName) jdk_22_method_1_code (1 : Nat) (Option.none : Option Jvm.ClassFile.FieldType), Jvm.Cond.code ({ cls := "java/lang/StringBuilder", name := "<init>", desc := "()V" } : Jvm.MethodName) jdk_67_method_1_code (1 : Nat) (Option.none : Option Jvm.ClassFile.FieldType), Jvm.Cond.code ({ cls := "java/lang/AbstractStringBuilder", name := "<init>", desc := "(I)V" } : Jvm.MethodName) jdk_68_method_2_code (2 : Nat) (Option.none : Option Jvm.ClassFile.FieldType), Jvm.Cond.code ({ cls := "com/example/estate4/estate4/jdbc/SelectText$Aliases", name := "next", desc := "()Ljava/lang/String;" } : Jvm.MethodName) prog_7_method_2_code (2 : Nat) (Option.some (Jvm.ClassFile.FieldType.object "java/lang/String")), Jvm.Cond.code ({ cls := "java/lang/StringBuilder", name := "append", desc := "(Ljava/lang/String;)Ljava/lang/StringBuilder;" } : Jvm.MethodName) jdk_67_method_7_code (2 : Nat) (Option.some (Jvm.ClassFile.FieldType.object "java/lang/StringBuilder")), Jvm.Cond.code ({ cls := "java/lang/AbstractStringBuilder", name := "append", desc := "(Ljava/lang/String;)Ljava/lang/AbstractStringBuilder;" } : Jvm.MethodName) jdk_68_method_22_code (3 : Nat) (Option.some (Jvm.ClassFile.FieldType.object "java/lang/AbstractStringBuilder")), Jvm.Cond.code ({ cls := "java/lang/String", name := "length", desc := "()I" } : Jvm.MethodName) jdk_42_method_54_code (1 : Nat) (Option.some Jvm.ClassFile.FieldType.int), Jvm.Cond.code ({ cls := "java/lang/String", name := "coder", desc := "()B" } : Jvm.MethodName) jdk_42_method_152_code (1 : Nat) (Option.some Jvm.ClassFile.FieldType.byte), Jvm.Cond.code ({ cls := "java/lang/AbstractStringBuilder", name := "ensureCapacityInternal", desc := "(I)V" } : Jvm.MethodName) jdk_68_method_9_code (3 : Nat) (Option.none : Option Jvm.ClassFile.FieldType), Jvm.Cond.code ({ cls := "java/lang/AbstractStringBuilder", name := "putStringAt", desc := "(ILjava/lang/String;)V" } : Jvm.MethodName) jdk_68_method_73_code (3 : Nat) (Option.none : Option Jvm.ClassFile.FieldType), Jvm.Cond.code ({ cls := "java/lang/AbstractStringBuilder", name := "inflateIfNeededFor", desc := "(Ljava/lang/String;)V" } : Jvm.MethodName) jdk_68_method_71_code (2 : Nat) (Option.none : Option Jvm.ClassFile.FieldType), Jvm.Cond.code ({ cls := "java/lang/String", name := "getBytes", desc := "([BIB)V" } : Jvm.MethodName) jdk_42_method_147_code (4 : Nat) (Option.none : Option Jvm.ClassFile.FieldType), Jvm.Cond.code ({ cls := "java/lang/StringBuilder", name := "append", desc := "(I)Ljava/lang/StringBuilder;" } : Jvm.MethodName) jdk_67_method_15_code (2 : Nat) (Option.some (Jvm.ClassFile.FieldType.object "java/lang/StringBuilder")), Jvm.Cond.code ({ cls := "java/lang/AbstractStringBuilder", name := "append", desc := "(I)Ljava/lang/AbstractStringBuilder;" } : Jvm.MethodName) jdk_68_method_32_code (4 : Nat) (Option.some (Jvm.ClassFile.FieldType.object "java/lang/AbstractStringBuilder")), Jvm.Cond.code ({ cls := "java/lang/Integer", name := "stringSize", desc := "(I)I" } : Jvm.MethodName) jdk_33_method_13_code (4 : Nat) (Option.some Jvm.ClassFile.FieldType.int), Jvm.Cond.code ({ cls := "java/lang/AbstractStringBuilder", name := "isLatin1", desc := "()Z" } : Jvm.MethodName) jdk_68_method_68_code (1 : Nat) (Option.some Jvm.ClassFile.FieldType.boolean), Jvm.Cond.code ({ cls := "java/lang/Integer", name := "getChars", desc := "(II[B)I" } : Jvm.MethodName) jdk_33_method_12_code (7 : Nat) (Option.some Jvm.ClassFile.FieldType.int), Jvm.Cond.code ({ cls := "java/lang/StringBuilder", name := "toString", desc := "()Ljava/lang/String;" } : Jvm.MethodName) jdk_67_method_42_code (1 : Nat) (Option.some (Jvm.ClassFile.FieldType.object "java/lang/String")), Jvm.Cond.code ({ cls := "java/lang/String", name := "<init>", desc := "(Ljava/lang/StringBuilder;)V" } : Jvm.MethodName) jdk_42_method_53_code (2 : Nat) (Option.none : Option Jvm.ClassFile.FieldType), Jvm.Cond.code ({ cls := "java/lang/String", name := "<init>", desc := "(Ljava/lang/AbstractStringBuilder;Ljava/lang/Void;)V" } : Jvm.MethodName) jdk_42_method_150_code (5 : Nat) (Option.none : Option Jvm.ClassFile.FieldType), Jvm.Cond.code ({ cls := "java/lang/AbstractStringBuilder", name := "getValue", desc := "()[B" } : Jvm.MethodName) jdk_68_method_64_code (1 : Nat) (Option.some (Jvm.ClassFile.FieldType.array Jvm.ClassFile.FieldType.byte)), Jvm.Cond.code ({ cls := "java/lang/StringBuilder", name := "length", desc := "()I" } : Jvm.MethodName) jdk_67_method_93_code (1 : Nat) (Option.some Jvm.ClassFile.FieldType.int), Jvm.Cond.code ({ cls := "java/lang/AbstractStringBuilder", name := "length", desc := "()I" } : Jvm.MethodName) jdk_68_method_6_code (1 : Nat) (Option.some Jvm.ClassFile.FieldType.int), Jvm.Cond.code ({ cls := "java/util/Arrays", name := "copyOfRange", desc := "([BII)[B" } : Jvm.MethodName) jdk_65_method_132_code (3 : Nat) (Option.some (Jvm.ClassFile.FieldType.array Jvm.ClassFile.FieldType.byte)), Jvm.Cond.code ({ cls := "java/util/Arrays", name := "copyOfRangeByte", desc := "([BII)[B" } : Jvm.MethodName) jdk_65_method_133_code (5 : Nat) (Option.some (Jvm.ClassFile.FieldType.array Jvm.ClassFile.FieldType.byte)), Jvm.Cond.code ({ cls := "java/util/Arrays", name := "checkLength", desc := "(II)V" } : Jvm.MethodName) jdk_65_method_131_code (2 : Nat) (Option.none : Option Jvm.ClassFile.FieldType), Jvm.Cond.code ({ cls := "java/lang/Math", name := "min", desc := "(II)I" } : Jvm.MethodName) jdk_29_method_69_code (2 : Nat) (Option.some Jvm.ClassFile.FieldType.int), Jvm.Cond.code ({ cls := "java/lang/StringBuilder", name := "append", desc := "(C)Ljava/lang/StringBuilder;" } : Jvm.MethodName) jdk_67_method_14_code (2 : Nat) (Option.some (Jvm.ClassFile.FieldType.object "java/lang/StringBuilder")), Jvm.Cond.code ({ cls := "java/lang/AbstractStringBuilder", name := "append", desc := "(C)Ljava/lang/AbstractStringBuilder;" } : Jvm.MethodName) jdk_68_method_31_code (2 : Nat) (Option.some (Jvm.ClassFile.FieldType.object "java/lang/AbstractStringBuilder")), Jvm.Cond.code ({ cls := "java/lang/StringLatin1", name := "canEncode", desc := "(C)Z" } : Jvm.MethodName) jdk_43_method_3_code (1 : Nat) (Option.some Jvm.ClassFile.FieldType.boolean), Jvm.Cond.code ({ cls := "java/lang/String", name := "valueOf", desc := "(C)Ljava/lang/String;" } : Jvm.MethodName) jdk_42_method_139_code (1 : Nat) (Option.some (Jvm.ClassFile.FieldType.object "java/lang/String")), Jvm.Cond.code ({ cls := "java/lang/StringLatin1", name := "toBytes", desc := "(C)[B" } : Jvm.MethodName) jdk_43_method_46_code (1 : Nat) (Option.some (Jvm.ClassFile.FieldType.array Jvm.ClassFile.FieldType.byte)), Jvm.Cond.code ({ cls := "java/lang/String", name := "<init>", desc := "([BB)V" } : Jvm.MethodName) jdk_42_method_151_code (3 : Nat) (Option.none : Option Jvm.ClassFile.FieldType), Jvm.Cond.code ({ cls := "com/example/estate4/estate4/jdbc/SelectText", name := "crossJoin", desc := "(Ljava/lang/String;)Ljava/lang/String;" } : Jvm.MethodName) prog_6_method_11_code (3 : Nat) (Option.some (Jvm.ClassFile.FieldType.object "java/lang/String")), Jvm.Cond.code ({ cls := "java/lang/AbstractStringBuilder", name := "newCapacity", desc := "(I)I" } : Jvm.MethodName) jdk_68_method_10_code (6 : Nat) (Option.some Jvm.ClassFile.FieldType.int), Jvm.Cond.code ({ cls := "jdk/internal/util/ArraysSupport", name := "newLength", desc := "(III)I" } : Jvm.MethodName) jdk_48_method_27_code (4 : Nat) (Option.some Jvm.ClassFile.FieldType.int), Jvm.Cond.code ({ cls := "java/lang/Math", name := "max", desc := "(II)I" } : Jvm.MethodName) jdk_29_method_65_code (2 : Nat) (Option.some Jvm.ClassFile.FieldType.int), Jvm.Cond.code ({ cls := "java/util/Arrays", name := "copyOf", desc := "([BI)[B" } : Jvm.MethodName) jdk_65_method_121_code (3 : Nat) (Option.some (Jvm.ClassFile.FieldType.array Jvm.ClassFile.FieldType.byte)), Jvm.Cond.code ({ cls := "com/example/estate4/estate4/jdbc/SelectText", name := "exists", desc := "(Ljava/lang/String;)Ljava/lang/String;" } : Jvm.MethodName) prog_6_method_22_code (2 : Nat) (Option.some (Jvm.ClassFile.FieldType.object "java/lang/String")), Jvm.Cond.code ({ cls := "java/lang/StringBuilder", name := "append", desc := "(Ljava/lang/Object;)Ljava/lang/StringBuilder;" } : Jvm.MethodName) jdk_67_method_6_code (2 : Nat) (Option.some (Jvm.ClassFile.FieldType.object "java/lang/StringBuilder")), Jvm.Cond.code ({ cls := "java/lang/String", name := "valueOf", desc := "(Ljava/lang/Object;)Ljava/lang/String;" } : Jvm.MethodName) jdk_42_method_133_code (1 : Nat) (Option.some (Jvm.ClassFile.FieldType.object "java/lang/String")), Jvm.Cond.code ({ cls := "java/lang/StringUTF16", name := "compress", desc := "([CII)[B" } : Jvm.MethodName) jdk_52_method_16_code (6 : Nat) (Option.some (Jvm.ClassFile.FieldType.array Jvm.ClassFile.FieldType.byte)), Jvm.Cond.code ({ cls := "java/lang/StringUTF16", name := "compress", desc := "([CI[BII)I" } : Jvm.MethodName) jdk_52_method_21_code (7 : Nat) (Option.some Jvm.ClassFile.FieldType.int), Jvm.Cond.code ({ cls := "java/lang/StringUTF16", name := "coderFromArrayLen", desc := "([BI)B" } : Jvm.MethodName) jdk_52_method_15_code (2 : Nat) (Option.some Jvm.ClassFile.FieldType.byte), Jvm.Cond.code ({ cls := "java/lang/String", name := "equals", desc := "(Ljava/lang/Object;)Z" } : Jvm.MethodName) jdk_42_method_66_code (3 : Nat) (Option.some Jvm.ClassFile.FieldType.boolean), Jvm.Cond.code ({ cls := "java/lang/StringLatin1", name := "equals", desc := "([B[B)Z" } : Jvm.MethodName) jdk_43_method_13_code (3 : Nat) (Option.some Jvm.ClassFile.FieldType.boolean), Jvm.Cond.code ({ cls := "com/example/estate4/estate4/jdbc/SelectText", name := "subselect", desc := "(Ljava/lang/String;)Lcom/example/estate4/estate4/jdbc/SelectText;" } : Jvm.MethodName) prog_6_method_3_code (2 : Nat) (Option.some (Jvm.ClassFile.FieldType.object "com/example/estate4/estate4/jdbc/SelectText"))]
set_option maxRecDepth 65536 in
theorem codes_eq : words1.filter isCode = codes1 := rfl
theorem w_codes : ∀ c ∈ words1.filter isCode, c.before args0 about1 = true := by
  rw [codes_eq]
  intro c hc
  simp only [codes1, List.mem_cons, List.not_mem_nil, or_false] at hc
  rcases hc with rfl | rfl | rfl | rfl | rfl | rfl | rfl | rfl | rfl | rfl | rfl | rfl | rfl | rfl | rfl | rfl | rfl | rfl | rfl | rfl | rfl | rfl | rfl | rfl | rfl | rfl | rfl | rfl | rfl | rfl | rfl | rfl | rfl | rfl | rfl | rfl | rfl | rfl | rfl | rfl | rfl | rfl | rfl | rfl | rfl | rfl | rfl | rfl | rfl | rfl | rfl | rfl | rfl | rfl | rfl | rfl | rfl
  · exact w_c0
  · exact w_c1
  · exact w_c2
  · exact w_c3
  · exact w_c4
  · exact w_c5
  · exact w_c6
  · exact w_c7
  · exact w_c8
  · exact w_c9
  · exact w_c10
  · exact w_c11
  · exact w_c12
  · exact w_c13
  · exact w_c14
  · exact w_c15
  · exact w_c16
  · exact w_c17
  · exact w_c18
  · exact w_c19
  · exact w_c20
  · exact w_c21
  · exact w_c22
  · exact w_c23
  · exact w_c24
  · exact w_c25
  · exact w_c26
  · exact w_c27
  · exact w_c28
  · exact w_c29
  · exact w_c30
  · exact w_c31
  · exact w_c32
  · exact w_c33
  · exact w_c34
  · exact w_c35
  · exact w_c36
  · exact w_c37
  · exact w_c38
  · exact w_c39
  · exact w_c40
  · exact w_c41
  · exact w_c42
  · exact w_c43
  · exact w_c44
  · exact w_c45
  · exact w_c46
  · exact w_c47
  · exact w_c48
  · exact w_c49
  · exact w_c50
  · exact w_c51
  · exact w_c52
  · exact w_c53
  · exact w_c54
  · exact w_c55
  · exact w_c56
set_option maxRecDepth 65536 in
theorem w_t1 : (words1.take 24).all (fun c => isCode c || c.before args0 about1) = true := by decide +kernel
set_option maxRecDepth 65536 in
theorem w_t2 : ((words1.drop 24).take 24).all (fun c => isCode c || c.before args0 about1) = true := by decide +kernel
set_option maxRecDepth 65536 in
theorem w_t3 : (((words1.drop 24).drop 24).take 24).all (fun c => isCode c || c.before args0 about1) = true := by decide +kernel
set_option maxRecDepth 65536 in
theorem w_t4 : ((((words1.drop 24).drop 24).drop 24).take 24).all (fun c => isCode c || c.before args0 about1) = true := by decide +kernel
set_option maxRecDepth 65536 in
theorem w_t5 : (((((words1.drop 24).drop 24).drop 24).drop 24).take 24).all (fun c => isCode c || c.before args0 about1) = true := by decide +kernel
set_option maxRecDepth 65536 in
theorem w_t6 : ((((((words1.drop 24).drop 24).drop 24).drop 24).drop 24).take 24).all (fun c => isCode c || c.before args0 about1) = true := by decide +kernel
set_option maxRecDepth 65536 in
theorem w_t7 : (((((((words1.drop 24).drop 24).drop 24).drop 24).drop 24).drop 24).take 24).all (fun c => isCode c || c.before args0 about1) = true := by decide +kernel
set_option maxRecDepth 65536 in
theorem w_t8 : ((((((((words1.drop 24).drop 24).drop 24).drop 24).drop 24).drop 24).drop 24).take 24).all (fun c => isCode c || c.before args0 about1) = true := by decide +kernel
set_option maxRecDepth 65536 in
theorem w_t9 : (((((((((words1.drop 24).drop 24).drop 24).drop 24).drop 24).drop 24).drop 24).drop 24).take 24).all (fun c => isCode c || c.before args0 about1) = true := by decide +kernel
set_option maxRecDepth 65536 in
theorem w_t10 : ((((((((((words1.drop 24).drop 24).drop 24).drop 24).drop 24).drop 24).drop 24).drop 24).drop 24).take 24).all (fun c => isCode c || c.before args0 about1) = true := by decide +kernel
set_option maxRecDepth 65536 in
theorem w_t11 : (((((((((((words1.drop 24).drop 24).drop 24).drop 24).drop 24).drop 24).drop 24).drop 24).drop 24).drop 24).take 24).all (fun c => isCode c || c.before args0 about1) = true := by decide +kernel
set_option maxRecDepth 65536 in
theorem w_t12 : ((((((((((((words1.drop 24).drop 24).drop 24).drop 24).drop 24).drop 24).drop 24).drop 24).drop 24).drop 24).drop 24).take 24).all (fun c => isCode c || c.before args0 about1) = true := by decide +kernel
set_option maxRecDepth 65536 in
theorem w_t13 : (((((((((((((words1.drop 24).drop 24).drop 24).drop 24).drop 24).drop 24).drop 24).drop 24).drop 24).drop 24).drop 24).drop 24).take 24).all (fun c => isCode c || c.before args0 about1) = true := by decide +kernel
set_option maxRecDepth 65536 in
theorem w_t14 : (((((((((((((words1.drop 24).drop 24).drop 24).drop 24).drop 24).drop 24).drop 24).drop 24).drop 24).drop 24).drop 24).drop 24).drop 24).all (fun c => isCode c || c.before args0 about1) = true := by decide +kernel
theorem w_tables : (allAtoms (Jvm.Cond.code x code maxLocals ret :: tables_1)).before args0 about1 = true := by
  rw [allAtoms_all]
  show words1.all (fun c => c.before args0 about1) = true
  refine all_split ?_ w_codes
  rw [← List.take_append_drop 24 words1, List.all_append, w_t1, ← List.take_append_drop 24 (words1.drop 24), List.all_append, w_t2, ← List.take_append_drop 24 ((words1.drop 24).drop 24), List.all_append, w_t3, ← List.take_append_drop 24 (((words1.drop 24).drop 24).drop 24), List.all_append, w_t4, ← List.take_append_drop 24 ((((words1.drop 24).drop 24).drop 24).drop 24), List.all_append, w_t5, ← List.take_append_drop 24 (((((words1.drop 24).drop 24).drop 24).drop 24).drop 24), List.all_append, w_t6, ← List.take_append_drop 24 ((((((words1.drop 24).drop 24).drop 24).drop 24).drop 24).drop 24), List.all_append, w_t7, ← List.take_append_drop 24 (((((((words1.drop 24).drop 24).drop 24).drop 24).drop 24).drop 24).drop 24), List.all_append, w_t8, ← List.take_append_drop 24 ((((((((words1.drop 24).drop 24).drop 24).drop 24).drop 24).drop 24).drop 24).drop 24), List.all_append, w_t9, ← List.take_append_drop 24 (((((((((words1.drop 24).drop 24).drop 24).drop 24).drop 24).drop 24).drop 24).drop 24).drop 24), List.all_append, w_t10, ← List.take_append_drop 24 ((((((((((words1.drop 24).drop 24).drop 24).drop 24).drop 24).drop 24).drop 24).drop 24).drop 24).drop 24), List.all_append, w_t11, ← List.take_append_drop 24 (((((((((((words1.drop 24).drop 24).drop 24).drop 24).drop 24).drop 24).drop 24).drop 24).drop 24).drop 24).drop 24), List.all_append, w_t12, ← List.take_append_drop 24 ((((((((((((words1.drop 24).drop 24).drop 24).drop 24).drop 24).drop 24).drop 24).drop 24).drop 24).drop 24).drop 24).drop 24), List.all_append, w_t13, w_t14]
  rfl
set_option maxRecDepth 65536 in
theorem w_rest : rest_1_c.before args0 about1 = true := by decide +kernel
set_option maxRecDepth 65536 in
theorem w_case : (Jvm.Cond.and given_1 narrow_1).before args0 about1 = true := by decide +kernel
set_option maxRecDepth 65536 in
theorem w_consts : constsHeld consts_1 about1 := Jvm.Lit.constsHeldB_iff.mp (by decide +kernel)
theorem w_applies : (headSpec (Jvm.Cond.code x code maxLocals ret :: tables_1) room_1).applies x e0.platform about1 = true :=
  (Spec.applies_iff w_frames).mpr ⟨w_running, w_runnable, w_alone, w_named, w_hears, w_ripe, w_room, w_tables⟩
theorem atStart : AtStart classFile x code maxLocals ret World_1 tables_1 room_1 Calls_1 rest_1 Pre_1 launch0 p0 e0 about1 theMethod args0 below0 :=
  ⟨lists_1, trivial, launch0.admits_env _ _ _, launch0.least_env, fairChoices_fair.cas, fairChoices_fair.clock, w_frames, w_args, w_heap, w_applies, ⟨w_consts, trivial⟩, w_rest, w_case⟩
end start1
theorem witness_1 : WitnessClaimed_1 := ⟨start1.p0, start1.e0, start1.about1, start1.theMethod, start1.args0, start1.below0, start1.atStart⟩
end Jvm.Pilot.@@N@@
