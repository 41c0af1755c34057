import JvmDerived
import JvmDerived.Pilot.@@N@@Statement
import JvmDerived.Pilot.@@N@@Code
set_option linter.unusedVariables false
set_option linter.unusedSimpArgs false
namespace Jvm.Pilot.@@N@@
open Jvm Jvm.ClassFile Sem Op Lib Jvm.Free Jvm.Stand Jvm.LawKit Jvm.RoadKit Bundle Jvm.Pilot.@@N@@.Jvm.D
namespace Wd
section Inv
variable {Z : State} {EL : List (String × Nat)} {n0 : Nat} {vm vm1 : Vm} {h h' : Heap} {WL FL : List Addr}
/-- of tables vm and heap h: the constants EL say their text; the start's cells stand; WL: cells of our own making that are no constant's; FL: other cells -/
def Inv (Z : State) (EL : List (String × Nat)) (n0 : Nat) (vm : Vm) (h : Heap) (WL FL : List Addr) : Prop :=
  (∃ a0, EW Z a0 EL) ∧ CHv Z EL vm h ∧ Old Z n0 h ∧ (∀ x ∈ WL, n0 ≤ x ∧ x < h.size ∧ Safe Z EL vm h x) ∧ WL.Nodup ∧ ∀ y ∈ FL, y < h.size ∧ y ∉ WL
theorem Inv.ext (I : Inv Z EL n0 vm h WL FL) (E : Ext h h') : Inv Z EL n0 vm h' WL FL := by
  obtain ⟨i1, i2, i3, i4, i5, i6⟩ := I
  exact ⟨i1, CHv.ext E i2, i3.ext E, fun x hx => ⟨(i4 x hx).1, Nat.lt_of_lt_of_le (i4 x hx).2.1 E.1, Safe.ext E i2 (i4 x hx).2.2⟩, i5, fun y hy => ⟨Nat.lt_of_lt_of_le (i6 y hy).1 E.1, (i6 y hy).2⟩⟩
theorem Inv.keep {ws : List Addr} (I : Inv Z EL n0 vm h WL FL) (K : Keep h h' ws) (hs : ∀ x ∈ ws, x ∈ WL) : Inv Z EL n0 vm h' WL FL := by
  obtain ⟨i1, i2, i3, i4, i5, i6⟩ := I
  have q : ∀ x ∈ ws, Safe Z EL vm h x := fun x hx => (i4 x (hs x hx)).2.2
  exact ⟨i1, CHv.keep K q i2, i3.keep K (fun x hx => (i4 x (hs x hx)).1), fun x hx => ⟨(i4 x hx).1, Nat.lt_of_lt_of_le (i4 x hx).2.1 K.1, Safe.keep K q i2 (i4 x hx).2.2⟩, i5, fun y hy => ⟨Nat.lt_of_lt_of_le (i6 y hy).1 K.1, (i6 y hy).2⟩⟩
theorem Inv.wr {a : Addr} {sl : Nat} {v : Value} (I : Inv Z EL n0 vm h WL FL) (W : Wr h h' a sl v) (ha : a ∈ WL) : Inv Z EL n0 vm h' WL FL :=
  I.keep (Keep.of_wr W) (allS ha all0)
theorem Inv.new (I : Inv Z EL n0 vm h WL FL) (E : Ext h h') (hlt : h.size < h'.size) : Inv Z EL n0 vm h' (h.size :: WL) FL := by
  have J := I.ext E
  obtain ⟨i1, i2, i3, i4, i5, i6⟩ := I
  obtain ⟨j1, j2, j3, j4, j5, j6⟩ := J
  refine ⟨j1, j2, j3, fun x hx => ?_, ?_, fun y hy => ⟨(j6 y hy).1, fun q => ?_⟩⟩
  · rcases List.mem_cons.mp hx with rfl | hx
    · exact ⟨by rw [← i3.1]; exact i3.2.1, hlt, Safe.ext E i2 (Safe.new (Nat.le_refl _))⟩
    · exact j4 x hx
  · exact List.nodup_cons.mpr ⟨fun q => Nat.lt_irrefl _ (i4 _ q).2.1, j5⟩
  · rcases List.mem_cons.mp q with rfl | q
    · exact Nat.lt_irrefl _ (i6 _ hy).1
    · exact (j6 y hy).2 q
/-- another cell comes into sight -/
theorem Inv.adopt {y : Addr} (I : Inv Z EL n0 vm h WL FL) (h1 : y < h.size) (h2 : y ∉ WL) : Inv Z EL n0 vm h WL (y :: FL) := by
  obtain ⟨i1, i2, i3, i4, i5, i6⟩ := I
  refine ⟨i1, i2, i3, i4, i5, fun x hx => ?_⟩
  rcases List.mem_cons.mp hx with rfl | hx
  · exact ⟨h1, h2⟩
  · exact i6 x hx
/-- a cell of ours is given up -/
theorem Inv.drop {A B : List Addr} {t : Addr} (I : Inv Z EL n0 vm h (A ++ t :: B) FL) : Inv Z EL n0 vm h (A ++ B) (t :: FL) := by
  obtain ⟨i1, i2, i3, i4, i5, i6⟩ := I
  have m : ∀ x, x ∈ A ++ B → x ∈ A ++ t :: B := fun x hx => by
    rcases List.mem_append.mp hx with q | q
    · exact List.mem_append_left _ q
    · exact List.mem_append_right _ (List.mem_cons_of_mem _ q)
  have pm : (A ++ t :: B).Perm (t :: (A ++ B)) := List.perm_middle
  have nd := pm.nodup_iff.mp i5
  obtain ⟨n1, n2⟩ := List.nodup_cons.mp nd
  refine ⟨i1, i2, i3, fun x hx => i4 x (m x hx), n2, fun y hy => ?_⟩
  rcases List.mem_cons.mp hy with rfl | hy
  · exact ⟨(i4 _ (List.mem_append_right _ (List.mem_cons_self ..))).2.1, n1⟩
  · exact ⟨(i6 y hy).1, fun q => (i6 y hy).2 (m y q)⟩
/-- other cells are forgotten -/
theorem Inv.fl {FL2 : List Addr} (I : Inv Z EL n0 vm h WL FL) (q : ∀ y ∈ FL2, y ∈ FL) : Inv Z EL n0 vm h WL FL2 := by
  obtain ⟨i1, i2, i3, i4, i5, i6⟩ := I
  exact ⟨i1, i2, i3, i4, i5, fun y hy => i6 y (q y hy)⟩
theorem Inv.ne {i j : Nat} {a b : Addr} (I : Inv Z EL n0 vm h WL FL) (ha : WL[i]? = some a) (hb : WL[j]? = some b) (q : i ≠ j) : a ≠ b := fun e => by
  obtain ⟨i1, i2, i3, i4, i5, i6⟩ := I
  subst e
  obtain ⟨hi, e1⟩ := List.getElem?_eq_some_iff.mp ha
  obtain ⟨hj, e2⟩ := List.getElem?_eq_some_iff.mp hb
  have pw := List.pairwise_iff_getElem.mp i5
  rcases Nat.lt_or_gt_of_ne q with z | z
  · exact pw i j hi hj z (e1.trans e2.symm)
  · exact pw j i hj hi z (e2.trans e1.symm)
theorem Inv.neF {a b : Addr} (I : Inv Z EL n0 vm h WL FL) (ha : a ∈ FL) (hb : b ∈ WL) : a ≠ b := fun e => by
  subst e; exact (I.2.2.2.2.2 _ ha).2 hb
theorem Inv.neT {A B : List Addr} {a b : Addr} (I : Inv Z EL n0 vm h (A ++ B) FL) (ha : a ∈ A) (hb : b ∈ B) : a ≠ b := fun e => by
  subst e; exact (List.nodup_append.mp I.2.2.2.2.1).2.2 a ha a hb rfl
theorem Inv.ge {a : Addr} (I : Inv Z EL n0 vm h WL FL) (ha : a ∈ WL) : n0 ≤ a := (I.2.2.2.1 a ha).1
theorem Inv.lt {a : Addr} (I : Inv Z EL n0 vm h WL FL) (ha : a ∈ WL) : a < h.size := (I.2.2.2.1 a ha).2.1
theorem Inv.old (I : Inv Z EL n0 vm h WL FL) : Old Z n0 h := I.2.2.1
theorem Inv.n0le (I : Inv Z EL n0 vm h WL FL) : n0 ≤ h.size := by have q := I.old; rw [← q.1]; exact q.2.1
end Inv
section Walk
variable {p : Program} {l : Launch} {e : Env} {R : Room} {s : State} {m : MethodId} {args : Array Value} {below : List Frame} {meth : Method} {c : Code} {T T' : State} {cells slots : Nat} {Z : State} {EL : List (String × Nat)} {n0 : Nat} {own : String} {h h' : Heap} {WL FL : List Addr} {a0 : Array Value}
/-- where the walk stands -/
def WS (p : Program) (l : Launch) (e : Env) (R : Room) (s : State) (m : MethodId) (args : Array Value) (below : List Frame) (meth : Method) (c : Code) (Z : State) (EL : List (String × Nat)) (n0 : Nat) (own : String) (T : State) (h : Heap) (WL FL : List Addr) (cells slots : Nat) : Prop :=
  ∃ (vm0 : Vm) (k0 : Nat) (locs : List Loc), Stand p l e R (s.setVm vm0) m args below meth c T locs cells slots ∧ T.heap = h ∧ s.Since vm0 k0 ∧ k0 ≤ h.size ∧ Z.Warmed39 vm0 ∧ vm0.findClass own = some m.cls ∧ Fr n0 locs ∧ Inv Z EL n0 vm0 h WL FL
theorem WS.here (X : WS p l e R s m args below meth c Z EL n0 own T h WL FL cells slots) : At T m c below := by
  obtain ⟨_, _, _, X, -⟩ := X; exact X.here
theorem WS.hZ (X : WS p l e R s m args below meth c Z EL n0 own T h WL FL cells slots) : ∃ vm0, Inv Z EL n0 vm0 h WL FL := by
  obtain ⟨vm0, _, _, _, _, _, _, _, _, _, I⟩ := X; exact ⟨vm0, I⟩
theorem WS.old (X : WS p l e R s m args below meth c Z EL n0 own T h WL FL cells slots) : Old Z n0 h := by obtain ⟨_, I⟩ := X.hZ; exact I.old
theorem WS.n0le (X : WS p l e R s m args below meth c Z EL n0 own T h WL FL cells slots) : n0 ≤ h.size := by obtain ⟨_, I⟩ := X.hZ; exact I.n0le
theorem WS.ge {a : Addr} (X : WS p l e R s m args below meth c Z EL n0 own T h WL FL cells slots) (ha : a ∈ WL) : n0 ≤ a := by obtain ⟨_, I⟩ := X.hZ; exact I.ge ha
theorem WS.ne {i j : Nat} {a b : Addr} (X : WS p l e R s m args below meth c Z EL n0 own T h WL FL cells slots) (ha : WL[i]? = some a) (hb : WL[j]? = some b) (q : i ≠ j) : a ≠ b := by obtain ⟨_, I⟩ := X.hZ; exact I.ne ha hb q
theorem WS.neF {a b : Addr} (X : WS p l e R s m args below meth c Z EL n0 own T h WL FL cells slots) (ha : a ∈ FL) (hb : b ∈ WL) : a ≠ b := by obtain ⟨_, I⟩ := X.hZ; exact I.neF ha hb
theorem WS.neT {A B : List Addr} {a b : Addr} (X : WS p l e R s m args below meth c Z EL n0 own T h (A ++ B) FL cells slots) (ha : a ∈ A) (hb : b ∈ B) : a ≠ b := by obtain ⟨_, I⟩ := X.hZ; exact I.neT ha hb
theorem WS.sta {C n d : String} {v : Value} (X : WS p l e R s m args below meth c Z EL n0 own T h WL FL cells slots) (F : Sta Z Z.heap C n d v) : Sta Z h C n d v := F.ext X.old.2
theorem WS.drop {A B : List Addr} {t : Addr} (X : WS p l e R s m args below meth c Z EL n0 own T h (A ++ t :: B) FL cells slots) : WS p l e R s m args below meth c Z EL n0 own T h (A ++ B) (t :: FL) cells slots := by
  obtain ⟨vm0, k0, locs, X, eT, hS, hk, hZ, hown, N, I⟩ := X; exact ⟨vm0, k0, locs, X, eT, hS, hk, hZ, hown, N, I.drop⟩
theorem WS.adopt {y : Addr} (X : WS p l e R s m args below meth c Z EL n0 own T h WL FL cells slots) (h1 : y < h.size) (h2 : y ∉ WL) : WS p l e R s m args below meth c Z EL n0 own T h WL (y :: FL) cells slots := by
  obtain ⟨vm0, k0, locs, X, eT, hS, hk, hZ, hown, N, I⟩ := X; exact ⟨vm0, k0, locs, X, eT, hS, hk, hZ, hown, N, I.adopt h1 h2⟩
theorem WS.fl {FL2 : List Addr} (X : WS p l e R s m args below meth c Z EL n0 own T h WL FL cells slots) (q : ∀ y ∈ FL2, y ∈ FL) : WS p l e R s m args below meth c Z EL n0 own T h WL FL2 cells slots := by
  obtain ⟨vm0, k0, locs, X, eT, hS, hk, hZ, hown, N, I⟩ := X; exact ⟨vm0, k0, locs, X, eT, hS, hk, hZ, hown, N, I.fl q⟩
theorem WS.mono {cells' slots' : Nat} (X : WS p l e R s m args below meth c Z EL n0 own T h WL FL cells slots) (h1 : cells ≤ cells') (h2 : slots ≤ slots') : WS p l e R s m args below meth c Z EL n0 own T h WL FL cells' slots' := by
  obtain ⟨vm0, k0, locs, X, eT, hS, hk, hZ, hown, N, I⟩ := X; exact ⟨vm0, k0, locs, X.mono h1 h2, eT, hS, hk, hZ, hown, N, I⟩
/-- what is to be shown from here on -/
def Wo (p : Program) (e : Env) (s : State) (below : List Frame) (Z : State) (EL : List (String × Nat)) (n0 : Nat) (WL0 FL0 : List Addr) (rm : Room) (Q : Option Value → Heap → List Addr → List Addr → Prop) (T : State) (f : JFrame) : Prop :=
  ∃ s₂ o, Steps p.tables e below (T.setTop f) s₂ ∧ s₂.status = .running ∧ Ended s₂ below o ∧ ∃ v L WL' FL', o = .returned v ∧ Inv Z EL n0 s₂.vm s₂.heap (WL' ++ WL0) (FL' ++ FL0) ∧ Fr n0 L ∧ Q v s₂.heap WL' FL' ∧ ReturnedEndW s o s₂ L rm.cells rm.slots
variable {WL0 FL0 : List Addr} {rm : Room} {Q : Option Value → Heap → List Addr → List Addr → Prop} {f f' : JFrame} {pc : Nat} {Ls : Array Slot} {st rest : List Value}
theorem Wo.by (k : ∀ t, Steps p.tables e below (T'.setTop f') t → Steps p.tables e below (T.setTop f) t) (o : Wo p e s below Z EL n0 WL0 FL0 rm Q T' f') : Wo p e s below Z EL n0 WL0 FL0 rm Q T f := by
  obtain ⟨s₂, o, h1, r⟩ := o; exact ⟨s₂, o, k _ h1, r⟩
theorem Wo.cast (q : f = f') (o : Wo p e s below Z EL n0 WL0 FL0 rm Q T f') : Wo p e s below Z EL n0 WL0 FL0 rm Q T f := q ▸ o
/-- a method's contract -/
def Ct (l : Launch) (Z : State) (EL : List (String × Nat)) (n0 : Nat) (y : MethodName) (bytes : ByteArray) (maxL : Nat) (ret : Option FieldType) (rm : Room) (as' : Array Value) (h : Heap) (WL FL : List Addr) (Q : Option Value → Heap → List Addr → List Addr → Prop) : Prop :=
  ∀ ws : List Jvm.Cond, MetFree l y (head1 (Jvm.Cond.code y bytes maxL ret :: ws) rm) (fun a U => a = as' ∧ Z.Warmed39 U.vm ∧ U.heap = h ∧ Inv Z EL n0 U.vm h WL FL) (fun _ _ _ _ _ => True)
    (fun _ U o U' => ∃ v L WL' FL', o = .returned v ∧ Inv Z EL n0 U'.vm U'.heap (WL' ++ WL) (FL' ++ FL) ∧ Fr n0 L ∧ Q v U'.heap WL' FL' ∧ ReturnedEndW U o U' L rm.cells rm.slots)
theorem Ct.of {y : MethodName} {bytes : ByteArray} {maxL : Nat} {ret : Option FieldType} {as' : Array Value} (hy : plainFor y = true)
    (body : ∀ p e s m below meth c s₁, p.tables.exec = Jvm.exec → c.code = bytes → c.maxLocals = maxL → meth.name = y.name → meth.sig.returnType = ret → meth.locks = false →
      WS p l e rm s m as' below meth c Z EL n0 y.cls s₁ h WL FL 0 0 → Wo p e s below Z EL n0 WL FL rm Q s₁ (entryFrame m as' maxL)) :
    Ct l Z EL n0 y bytes maxL ret rm as' h WL FL Q := by
  intro ws
  refine MetFree.of_bodySF hy hisR ?_
  intro p e s m args below meth c s₁ Bd hml hP _
  obtain ⟨rfl, hZ, hh, I⟩ := hP
  have e0 : s₁.heap = h := by rw [← hh, Bd.state]; rfl
  obtain ⟨s₂, o, h1, h2, h3, h4⟩ := body p e s m below meth c s₁ Bd.exec Bd.bytes hml (name_of_methodNamed Bd.named Bd.method).1 Bd.returns (BodyLoose.notSynchronized Bd)
    ⟨s.vm, h.size, [], Stand.of_body Bd, e0, (State.WarmedH.refl s).since _, Nat.le_refl _, hZ, findClass_of_methodNamed Bd.named, Fr.nil n0, I⟩
  exact ⟨s₂, o, h1, h2, h3, h4⟩
theorem Ct.mono {y : MethodName} {bytes : ByteArray} {maxL : Nat} {ret : Option FieldType} {as' : Array Value} {Q2 : Option Value → Heap → List Addr → List Addr → Prop} (C : Ct l Z EL n0 y bytes maxL ret rm as' h WL FL Q) (hq : ∀ v h' WL' FL', Q v h' WL' FL' → Q2 v h' WL' FL') : Ct l Z EL n0 y bytes maxL ret rm as' h WL FL Q2 := by
  intro ws p e ha hc hk s m args below hf happ hP hK
  obtain ⟨n, o, h1, h2, h3, v, L, WL', FL', r1, r2, r3, r4, r5⟩ := C ws p e ha hc hk s m args below hf happ hP hK
  exact ⟨n, o, h1, h2, h3, v, L, WL', FL', r1, r2, r3, hq _ _ _ _ r4, r5⟩
/-- the tables at hand -/
theorem WS.invT {vm0 : Vm} {locs : List Loc} (X : Stand p l e R (s.setVm vm0) m args below meth c T locs cells slots) (hZ : Z.Warmed39 vm0) (I : Inv Z EL n0 vm0 h WL FL) : Inv Z EL n0 T.vm h WL FL := by
  obtain ⟨⟨a0, i1⟩, i2, i3, i4, i5, i6⟩ := I
  have A := CHv.at X hZ i1 i2
  exact ⟨⟨a0, i1⟩, A.1, i3, fun x hx => ⟨(i4 x hx).1, (i4 x hx).2.1, A.safe (i4 x hx).2.1 (i4 x hx).2.2⟩, i5, i6⟩
theorem WS.retV {WL' FL' : List Addr} (X : WS p l e R s m args below meth c Z EL n0 own T h (WL' ++ WL0) (FL' ++ FL0) cells slots) (hx : p.tables.exec = Jvm.exec) (hret : meth.sig.returnType = none) (hlk : meth.locks = false) (hd : decode c.code pc = .ok (.return_, 1)) (hc : cells ≤ rm.cells) (hl : slots ≤ rm.slots) (hQ : Q none h WL' FL') :
    Wo p e s below Z EL n0 WL0 FL0 rm Q T (mkF m pc Ls []) := by
  obtain ⟨vm0, k0, locs, X, eT, hS, hk, hZ, hown, N, I⟩ := X
  obtain ⟨fs, hr, hrun, hend, hE⟩ := (X.mono hc hl).leaveW hS (by rw [eT]; exact hk) (v := none) (fun _ => rfl) hlk
  subst eT
  exact ⟨_, _, X.returnOut hx hret hd hr, hrun, hend, none, locs, WL', FL', rfl, (show Inv Z EL n0 T.vm T.heap (WL' ++ WL0) (FL' ++ FL0) from WS.invT X hZ I), N, hQ, hE⟩
theorem WS.retN {WL' FL' : List Addr} {z : Int32} {t : FieldType} (X : WS p l e R s m args below meth c Z EL n0 own T h (WL' ++ WL0) (FL' ++ FL0) cells slots) (hx : p.tables.exec = Jvm.exec) (hret : meth.sig.returnType = some t) (ht : t = .boolean ∨ t = .byte ∨ t = .char ∨ t = .short) (hlk : meth.locks = false) (hd : decode c.code pc = .ok (.ireturn, 1)) (hc : cells ≤ rm.cells) (hl : slots ≤ rm.slots) (hQ : Q (some (.int (nar t z))) h WL' FL') :
    Wo p e s below Z EL n0 WL0 FL0 rm Q T (mkF m pc Ls (.int z :: rest)) := by
  obtain ⟨vm0, k0, locs, X, eT, hS, hk, hZ, hown, N, I⟩ := X
  obtain ⟨fs, hr, hrun, hend, hE⟩ := (X.mono hc hl).leaveW hS (by rw [eT]; exact hk) (v := some (.int (nar t z))) (fun q => by rw [hret] at q; cases q) hlk
  subst eT
  exact ⟨_, _, RoadKit.retN X hx hret ht hd hr, hrun, hend, _, locs, WL', FL', rfl, (show Inv Z EL n0 T.vm T.heap (WL' ++ WL0) (FL' ++ FL0) from WS.invT X hZ I), N, hQ, hE⟩
theorem WS.ret {WL' FL' : List Addr} {w : Value} {t : FieldType} {i : Instr} (X : WS p l e R s m args below meth c Z EL n0 own T h (WL' ++ WL0) (FL' ++ FL0) cells slots) (hx : p.tables.exec = Jvm.exec) (hret : meth.sig.returnType = some t) (hn : narrow t w = w)
    (hi : (i = .ireturn ∧ (t = .int ∨ t = .boolean ∨ t = .byte ∨ t = .char ∨ t = .short) ∧ ∃ z, w = .int z) ∨ (i = .lreturn ∧ t = .long ∧ ∃ z, w = .long z) ∨ (i = .dreturn ∧ t = .double ∧ ∃ z, w = .double z) ∨ (i = .freturn ∧ t = .float ∧ ∃ z, w = .float z) ∨ (i = .areturn ∧ t.isReference = true ∧ w.isRef = true))
    (hlk : meth.locks = false) (hd : decode c.code pc = .ok (i, 1)) (hc : cells ≤ rm.cells) (hl : slots ≤ rm.slots) (hQ : Q (some w) h WL' FL') :
    Wo p e s below Z EL n0 WL0 FL0 rm Q T (mkF m pc Ls (w :: rest)) := by
  obtain ⟨vm0, k0, locs, X, eT, hS, hk, hZ, hown, N, I⟩ := X
  obtain ⟨fs, hr, hrun, hend, hE⟩ := (X.mono hc hl).leaveW hS (by rw [eT]; exact hk) (v := some w) (fun q => by rw [hret] at q; cases q) hlk
  subst eT
  exact ⟨_, _, retOut X hx hret hn hi hd hr, hrun, hend, _, locs, WL', FL', rfl, (show Inv Z EL n0 T.vm T.heap (WL' ++ WL0) (FL' ++ FL0) from WS.invT X hZ I), N, hQ, hE⟩
theorem WS.retA {WL' FL' : List Addr} {w : Value} {t : FieldType} (X : WS p l e R s m args below meth c Z EL n0 own T h (WL' ++ WL0) (FL' ++ FL0) cells slots) (hx : p.tables.exec = Jvm.exec) (hret : meth.sig.returnType = some t) (ht : t.isReference = true) (hw : w.isRef = true) (hlk : meth.locks = false) (hd : decode c.code pc = .ok (.areturn, 1)) (hc : cells ≤ rm.cells) (hl : slots ≤ rm.slots) (hQ : Q (some w) h WL' FL') :
    Wo p e s below Z EL n0 WL0 FL0 rm Q T (mkF m pc Ls (w :: rest)) :=
  X.ret hx hret (by cases t <;> first | (cases ht; done) | (rcases ref_cases hw with rfl | ⟨a, rfl⟩ <;> rfl)) (Or.inr (Or.inr (Or.inr (Or.inr ⟨rfl, ht, hw⟩)))) hlk hd hc hl hQ
theorem WS.retI {WL' FL' : List Addr} {z : Int32} (X : WS p l e R s m args below meth c Z EL n0 own T h (WL' ++ WL0) (FL' ++ FL0) cells slots) (hx : p.tables.exec = Jvm.exec) (hret : meth.sig.returnType = some .int) (hlk : meth.locks = false) (hd : decode c.code pc = .ok (.ireturn, 1)) (hc : cells ≤ rm.cells) (hl : slots ≤ rm.slots) (hQ : Q (some (.int z)) h WL' FL') :
    Wo p e s below Z EL n0 WL0 FL0 rm Q T (mkF m pc Ls (.int z :: rest)) :=
  X.ret hx hret rfl (Or.inl ⟨rfl, Or.inl rfl, z, rfl⟩) hlk hd hc hl hQ
/-- plain steps -/
theorem P.iloadN (X : WS p l e R s m args below meth c Z EL n0 own T h WL FL cells slots) (hx : p.tables.exec = Jvm.exec) (pc' : Nat) {k : Fin 4} {v : Int32} (hd : decode c.code pc = .ok (.iload_n k, 1)) (hl : Ls[k.val]? = some (.val (.int v))) (hp : pc + 1 = pc')
    (o : Wo p e s below Z EL n0 WL0 FL0 rm Q T (mkF m pc' Ls (.int v :: st))) : Wo p e s below Z EL n0 WL0 FL0 rm Q T (mkF m pc Ls (st)) := by
  subst hp; exact Wo.by (fun _ q => XS.iloadN X.here hx rfl hd hl q) o
theorem P.iload (X : WS p l e R s m args below meth c Z EL n0 own T h WL FL cells slots) (hx : p.tables.exec = Jvm.exec) (pc' : Nat) {k : Nat} {v : Int32} (hd : decode c.code pc = .ok (.iload k, 2)) (hl : Ls[k]? = some (.val (.int v))) (hp : pc + 2 = pc')
    (o : Wo p e s below Z EL n0 WL0 FL0 rm Q T (mkF m pc' Ls (.int v :: st))) : Wo p e s below Z EL n0 WL0 FL0 rm Q T (mkF m pc Ls (st)) := by
  subst hp; exact Wo.by (fun _ q => XS.iload X.here hx rfl hd hl q) o
theorem P.aloadN (X : WS p l e R s m args below meth c Z EL n0 own T h WL FL cells slots) (hx : p.tables.exec = Jvm.exec) (pc' : Nat) {k : Fin 4} {v : Value} (hd : decode c.code pc = .ok (.aload_n k, 1)) (hl : Ls[k.val]? = some (.val v)) (hv : v.isRef = true) (hp : pc + 1 = pc')
    (o : Wo p e s below Z EL n0 WL0 FL0 rm Q T (mkF m pc' Ls (v :: st))) : Wo p e s below Z EL n0 WL0 FL0 rm Q T (mkF m pc Ls (st)) := by
  subst hp; exact Wo.by (fun _ q => XS.aloadN X.here hx rfl hd hl hv q) o
theorem P.aload (X : WS p l e R s m args below meth c Z EL n0 own T h WL FL cells slots) (hx : p.tables.exec = Jvm.exec) (pc' : Nat) {k : Nat} {v : Value} (hd : decode c.code pc = .ok (.aload k, 2)) (hl : Ls[k]? = some (.val v)) (hv : v.isRef = true) (hp : pc + 2 = pc')
    (o : Wo p e s below Z EL n0 WL0 FL0 rm Q T (mkF m pc' Ls (v :: st))) : Wo p e s below Z EL n0 WL0 FL0 rm Q T (mkF m pc Ls (st)) := by
  subst hp; exact Wo.by (fun _ q => XS.aload X.here hx rfl hd hl hv q) o
theorem P.istoreN (X : WS p l e R s m args below meth c Z EL n0 own T h WL FL cells slots) (hx : p.tables.exec = Jvm.exec) (pc' : Nat) {k : Fin 4} {x : Int32} (L' : Array Slot) (hd : decode c.code pc = .ok (.istore_n k, 1)) (hl : storeLocals Ls k.val (.int x) = some L') (hp : pc + 1 = pc')
    (o : Wo p e s below Z EL n0 WL0 FL0 rm Q T (mkF m pc' L' (st))) : Wo p e s below Z EL n0 WL0 FL0 rm Q T (mkF m pc Ls (.int x :: st)) := by
  subst hp; exact Wo.by (fun _ q => XS.istoreN X.here hx rfl hd rfl hl q) o
theorem P.istore (X : WS p l e R s m args below meth c Z EL n0 own T h WL FL cells slots) (hx : p.tables.exec = Jvm.exec) (pc' : Nat) {k : Nat} {x : Int32} (L' : Array Slot) (hd : decode c.code pc = .ok (.istore k, 2)) (hl : storeLocals Ls k (.int x) = some L') (hp : pc + 2 = pc')
    (o : Wo p e s below Z EL n0 WL0 FL0 rm Q T (mkF m pc' L' (st))) : Wo p e s below Z EL n0 WL0 FL0 rm Q T (mkF m pc Ls (.int x :: st)) := by
  subst hp; exact Wo.by (fun _ q => XS.istore X.here hx rfl hd rfl hl q) o
theorem P.astoreN (X : WS p l e R s m args below meth c Z EL n0 own T h WL FL cells slots) (hx : p.tables.exec = Jvm.exec) (pc' : Nat) {k : Fin 4} {x : Value} (L' : Array Slot) (hd : decode c.code pc = .ok (.astore_n k, 1)) (hv : x.isRef = true) (hl : storeLocals Ls k.val x = some L') (hp : pc + 1 = pc')
    (o : Wo p e s below Z EL n0 WL0 FL0 rm Q T (mkF m pc' L' (st))) : Wo p e s below Z EL n0 WL0 FL0 rm Q T (mkF m pc Ls (x :: st)) := by
  subst hp; exact Wo.by (fun _ q => XS.astoreN X.here hx rfl hd rfl hv hl q) o
theorem P.astore (X : WS p l e R s m args below meth c Z EL n0 own T h WL FL cells slots) (hx : p.tables.exec = Jvm.exec) (pc' : Nat) {k : Nat} {x : Value} (L' : Array Slot) (hd : decode c.code pc = .ok (.astore k, 2)) (hv : x.isRef = true) (hl : storeLocals Ls k x = some L') (hp : pc + 2 = pc')
    (o : Wo p e s below Z EL n0 WL0 FL0 rm Q T (mkF m pc' L' (st))) : Wo p e s below Z EL n0 WL0 FL0 rm Q T (mkF m pc Ls (x :: st)) := by
  subst hp; exact Wo.by (fun _ q => XS.astore X.here hx rfl hd rfl hv hl q) o
theorem P.iconst (X : WS p l e R s m args below meth c Z EL n0 own T h WL FL cells slots) (hx : p.tables.exec = Jvm.exec) (pc' : Nat) (z : Int32) {i : Int} (hd : decode c.code pc = .ok (.iconst i, 1)) (hz : Int32.ofInt i = z) (hp : pc + 1 = pc')
    (o : Wo p e s below Z EL n0 WL0 FL0 rm Q T (mkF m pc' Ls (.int z :: st))) : Wo p e s below Z EL n0 WL0 FL0 rm Q T (mkF m pc Ls (st)) := by
  subst hp; subst hz; exact Wo.by (fun _ q => XS.iconst X.here hx rfl hd q) o
theorem P.bipush (X : WS p l e R s m args below meth c Z EL n0 own T h WL FL cells slots) (hx : p.tables.exec = Jvm.exec) (pc' : Nat) (z : Int32) {i : Int} (hd : decode c.code pc = .ok (.bipush i, 2)) (hz : (Int8.ofInt i).toInt32 = z) (hp : pc + 2 = pc')
    (o : Wo p e s below Z EL n0 WL0 FL0 rm Q T (mkF m pc' Ls (.int z :: st))) : Wo p e s below Z EL n0 WL0 FL0 rm Q T (mkF m pc Ls (st)) := by
  subst hp; subst hz; exact Wo.by (fun _ q => XS.bipush X.here hx rfl hd q) o
theorem P.sipush (X : WS p l e R s m args below meth c Z EL n0 own T h WL FL cells slots) (hx : p.tables.exec = Jvm.exec) (pc' : Nat) (z : Int32) {i : Int} (hd : decode c.code pc = .ok (.sipush i, 3)) (hz : (Int16.ofInt i).toInt32 = z) (hp : pc + 3 = pc')
    (o : Wo p e s below Z EL n0 WL0 FL0 rm Q T (mkF m pc' Ls (.int z :: st))) : Wo p e s below Z EL n0 WL0 FL0 rm Q T (mkF m pc Ls (st)) := by
  subst hp; subst hz; exact Wo.by (fun _ q => XS.sipush X.here hx rfl hd q) o
theorem P.aconstNull (X : WS p l e R s m args below meth c Z EL n0 own T h WL FL cells slots) (hx : p.tables.exec = Jvm.exec) (pc' : Nat) (hd : decode c.code pc = .ok (.aconst_null, 1))  (hp : pc + 1 = pc')
    (o : Wo p e s below Z EL n0 WL0 FL0 rm Q T (mkF m pc' Ls (.null :: st))) : Wo p e s below Z EL n0 WL0 FL0 rm Q T (mkF m pc Ls (st)) := by
  subst hp; exact Wo.by (fun _ q => XS.aconstNull X.here hx rfl hd q) o
theorem P.iadd (X : WS p l e R s m args below meth c Z EL n0 own T h WL FL cells slots) (hx : p.tables.exec = Jvm.exec) (pc' : Nat) {x y z : Int32} (hd : decode c.code pc = .ok (.iadd, 1)) (hz : x + y = z) (hp : pc + 1 = pc')
    (o : Wo p e s below Z EL n0 WL0 FL0 rm Q T (mkF m pc' Ls (.int z :: st))) : Wo p e s below Z EL n0 WL0 FL0 rm Q T (mkF m pc Ls (.int y :: .int x :: st)) := by
  subst hp; subst hz; exact Wo.by (fun _ q => XS.iadd X.here hx rfl hd rfl q) o
theorem P.isub (X : WS p l e R s m args below meth c Z EL n0 own T h WL FL cells slots) (hx : p.tables.exec = Jvm.exec) (pc' : Nat) {x y z : Int32} (hd : decode c.code pc = .ok (.isub, 1)) (hz : x - y = z) (hp : pc + 1 = pc')
    (o : Wo p e s below Z EL n0 WL0 FL0 rm Q T (mkF m pc' Ls (.int z :: st))) : Wo p e s below Z EL n0 WL0 FL0 rm Q T (mkF m pc Ls (.int y :: .int x :: st)) := by
  subst hp; subst hz; exact Wo.by (fun _ q => XS.isub X.here hx rfl hd rfl q) o
theorem P.imul (X : WS p l e R s m args below meth c Z EL n0 own T h WL FL cells slots) (hx : p.tables.exec = Jvm.exec) (pc' : Nat) {x y z : Int32} (hd : decode c.code pc = .ok (.imul, 1)) (hz : x * y = z) (hp : pc + 1 = pc')
    (o : Wo p e s below Z EL n0 WL0 FL0 rm Q T (mkF m pc' Ls (.int z :: st))) : Wo p e s below Z EL n0 WL0 FL0 rm Q T (mkF m pc Ls (.int y :: .int x :: st)) := by
  subst hp; subst hz; exact Wo.by (fun _ q => XS.imul X.here hx rfl hd rfl q) o
theorem P.iand (X : WS p l e R s m args below meth c Z EL n0 own T h WL FL cells slots) (hx : p.tables.exec = Jvm.exec) (pc' : Nat) {x y z : Int32} (hd : decode c.code pc = .ok (.iand, 1)) (hz : x &&& y = z) (hp : pc + 1 = pc')
    (o : Wo p e s below Z EL n0 WL0 FL0 rm Q T (mkF m pc' Ls (.int z :: st))) : Wo p e s below Z EL n0 WL0 FL0 rm Q T (mkF m pc Ls (.int y :: .int x :: st)) := by
  subst hp; subst hz; exact Wo.by (fun _ q => XS.iand X.here hx rfl hd rfl q) o
theorem P.ior (X : WS p l e R s m args below meth c Z EL n0 own T h WL FL cells slots) (hx : p.tables.exec = Jvm.exec) (pc' : Nat) {x y z : Int32} (hd : decode c.code pc = .ok (.ior, 1)) (hz : x ||| y = z) (hp : pc + 1 = pc')
    (o : Wo p e s below Z EL n0 WL0 FL0 rm Q T (mkF m pc' Ls (.int z :: st))) : Wo p e s below Z EL n0 WL0 FL0 rm Q T (mkF m pc Ls (.int y :: .int x :: st)) := by
  subst hp; subst hz; exact Wo.by (fun _ q => XS.ior X.here hx rfl hd rfl q) o
theorem P.ixor (X : WS p l e R s m args below meth c Z EL n0 own T h WL FL cells slots) (hx : p.tables.exec = Jvm.exec) (pc' : Nat) {x y z : Int32} (hd : decode c.code pc = .ok (.ixor, 1)) (hz : x ^^^ y = z) (hp : pc + 1 = pc')
    (o : Wo p e s below Z EL n0 WL0 FL0 rm Q T (mkF m pc' Ls (.int z :: st))) : Wo p e s below Z EL n0 WL0 FL0 rm Q T (mkF m pc Ls (.int y :: .int x :: st)) := by
  subst hp; subst hz; exact Wo.by (fun _ q => XS.ixor X.here hx rfl hd rfl q) o
theorem P.ishl (X : WS p l e R s m args below meth c Z EL n0 own T h WL FL cells slots) (hx : p.tables.exec = Jvm.exec) (pc' : Nat) {x y z : Int32} (hd : decode c.code pc = .ok (.ishl, 1)) (hz : x <<< (y &&& 31) = z) (hp : pc + 1 = pc')
    (o : Wo p e s below Z EL n0 WL0 FL0 rm Q T (mkF m pc' Ls (.int z :: st))) : Wo p e s below Z EL n0 WL0 FL0 rm Q T (mkF m pc Ls (.int y :: .int x :: st)) := by
  subst hp; subst hz; exact Wo.by (fun _ q => XS.ishl X.here hx rfl hd rfl q) o
theorem P.ishr (X : WS p l e R s m args below meth c Z EL n0 own T h WL FL cells slots) (hx : p.tables.exec = Jvm.exec) (pc' : Nat) {x y z : Int32} (hd : decode c.code pc = .ok (.ishr, 1)) (hz : x >>> (y &&& 31) = z) (hp : pc + 1 = pc')
    (o : Wo p e s below Z EL n0 WL0 FL0 rm Q T (mkF m pc' Ls (.int z :: st))) : Wo p e s below Z EL n0 WL0 FL0 rm Q T (mkF m pc Ls (.int y :: .int x :: st)) := by
  subst hp; subst hz; exact Wo.by (fun _ q => XS.ishr X.here hx rfl hd rfl q) o
theorem P.iushr (X : WS p l e R s m args below meth c Z EL n0 own T h WL FL cells slots) (hx : p.tables.exec = Jvm.exec) (pc' : Nat) {x y z : Int32} (hd : decode c.code pc = .ok (.iushr, 1)) (hz : (x.toUInt32 >>> (y &&& 31).toUInt32).toInt32 = z) (hp : pc + 1 = pc')
    (o : Wo p e s below Z EL n0 WL0 FL0 rm Q T (mkF m pc' Ls (.int z :: st))) : Wo p e s below Z EL n0 WL0 FL0 rm Q T (mkF m pc Ls (.int y :: .int x :: st)) := by
  subst hp; subst hz; exact Wo.by (fun _ q => XS.iushr X.here hx rfl hd rfl q) o
theorem P.i2c (X : WS p l e R s m args below meth c Z EL n0 own T h WL FL cells slots) (hx : p.tables.exec = Jvm.exec) (pc' : Nat) {x z : Int32} (hd : decode c.code pc = .ok (.i2c, 1)) (hz : x.toUInt32.toUInt16.toUInt32.toInt32 = z) (hp : pc + 1 = pc')
    (o : Wo p e s below Z EL n0 WL0 FL0 rm Q T (mkF m pc' Ls (.int z :: st))) : Wo p e s below Z EL n0 WL0 FL0 rm Q T (mkF m pc Ls (.int x :: st)) := by
  subst hp; subst hz; exact Wo.by (fun _ q => XS.i2c X.here hx rfl hd rfl q) o
theorem P.i2b (X : WS p l e R s m args below meth c Z EL n0 own T h WL FL cells slots) (hx : p.tables.exec = Jvm.exec) (pc' : Nat) {x z : Int32} (hd : decode c.code pc = .ok (.i2b, 1)) (hz : x.toInt8.toInt32 = z) (hp : pc + 1 = pc')
    (o : Wo p e s below Z EL n0 WL0 FL0 rm Q T (mkF m pc' Ls (.int z :: st))) : Wo p e s below Z EL n0 WL0 FL0 rm Q T (mkF m pc Ls (.int x :: st)) := by
  subst hp; subst hz; exact Wo.by (fun _ q => XS.i2b X.here hx rfl hd rfl q) o
theorem P.i2s (X : WS p l e R s m args below meth c Z EL n0 own T h WL FL cells slots) (hx : p.tables.exec = Jvm.exec) (pc' : Nat) {x z : Int32} (hd : decode c.code pc = .ok (.i2s, 1)) (hz : x.toInt16.toInt32 = z) (hp : pc + 1 = pc')
    (o : Wo p e s below Z EL n0 WL0 FL0 rm Q T (mkF m pc' Ls (.int z :: st))) : Wo p e s below Z EL n0 WL0 FL0 rm Q T (mkF m pc Ls (.int x :: st)) := by
  subst hp; subst hz; exact Wo.by (fun _ q => XS.i2s X.here hx rfl hd rfl q) o
theorem P.ineg (X : WS p l e R s m args below meth c Z EL n0 own T h WL FL cells slots) (hx : p.tables.exec = Jvm.exec) (pc' : Nat) {x z : Int32} (hd : decode c.code pc = .ok (.ineg, 1)) (hz : -x = z) (hp : pc + 1 = pc')
    (o : Wo p e s below Z EL n0 WL0 FL0 rm Q T (mkF m pc' Ls (.int z :: st))) : Wo p e s below Z EL n0 WL0 FL0 rm Q T (mkF m pc Ls (.int x :: st)) := by
  subst hp; subst hz; exact Wo.by (fun _ q => XS.ineg X.here hx rfl hd rfl q) o
theorem P.idiv (X : WS p l e R s m args below meth c Z EL n0 own T h WL FL cells slots) (hx : p.tables.exec = Jvm.exec) (pc' : Nat) {x y z : Int32} (hd : decode c.code pc = .ok (.idiv, 1)) (hy : y ≠ 0) (hz : x / y = z) (hp : pc + 1 = pc')
    (o : Wo p e s below Z EL n0 WL0 FL0 rm Q T (mkF m pc' Ls (.int z :: st))) : Wo p e s below Z EL n0 WL0 FL0 rm Q T (mkF m pc Ls (.int y :: .int x :: st)) := by
  subst hp; subst hz; exact Wo.by (fun _ q => XS.idiv X.here hx rfl hd rfl hy q) o
theorem P.irem (X : WS p l e R s m args below meth c Z EL n0 own T h WL FL cells slots) (hx : p.tables.exec = Jvm.exec) (pc' : Nat) {x y z : Int32} (hd : decode c.code pc = .ok (.irem, 1)) (hy : y ≠ 0) (hz : x % y = z) (hp : pc + 1 = pc')
    (o : Wo p e s below Z EL n0 WL0 FL0 rm Q T (mkF m pc' Ls (.int z :: st))) : Wo p e s below Z EL n0 WL0 FL0 rm Q T (mkF m pc Ls (.int y :: .int x :: st)) := by
  subst hp; subst hz; exact Wo.by (fun _ q => XS.irem X.here hx rfl hd rfl hy (by rw [irem_eq_mod]; exact q)) o
theorem P.iinc (X : WS p l e R s m args below meth c Z EL n0 own T h WL FL cells slots) (hx : p.tables.exec = Jvm.exec) (pc' : Nat) {k : Nat} {i : Int} {x : Int32} (L' : Array Slot) (hd : decode c.code pc = .ok (.iinc k i, 3)) (hl : Ls[k]? = some (.val (.int x))) (hl' : storeLocals Ls k (.int (x + Int32.ofInt i)) = some L') (hp : pc + 3 = pc')
    (o : Wo p e s below Z EL n0 WL0 FL0 rm Q T (mkF m pc' L' (st))) : Wo p e s below Z EL n0 WL0 FL0 rm Q T (mkF m pc Ls (st)) := by
  subst hp; exact Wo.by (fun _ q => XS.iinc X.here hx rfl hd hl hl' q) o
theorem P.dup (X : WS p l e R s m args below meth c Z EL n0 own T h WL FL cells slots) (hx : p.tables.exec = Jvm.exec) (pc' : Nat) {x : Value} (hd : decode c.code pc = .ok (.dup, 1)) (hc : x.category = 1) (hp : pc + 1 = pc')
    (o : Wo p e s below Z EL n0 WL0 FL0 rm Q T (mkF m pc' Ls (x :: x :: st))) : Wo p e s below Z EL n0 WL0 FL0 rm Q T (mkF m pc Ls (x :: st)) := by
  subst hp; exact Wo.by (fun _ q => XS.dup X.here hx rfl hd rfl hc q) o
theorem P.pop (X : WS p l e R s m args below meth c Z EL n0 own T h WL FL cells slots) (hx : p.tables.exec = Jvm.exec) (pc' : Nat) {x : Value} (hd : decode c.code pc = .ok (.pop, 1)) (hc : x.category = 1) (hp : pc + 1 = pc')
    (o : Wo p e s below Z EL n0 WL0 FL0 rm Q T (mkF m pc' Ls (st))) : Wo p e s below Z EL n0 WL0 FL0 rm Q T (mkF m pc Ls (x :: st)) := by
  subst hp; exact Wo.by (fun _ q => XS.pop X.here hx rfl hd rfl hc q) o
theorem P.dupX1 (X : WS p l e R s m args below meth c Z EL n0 own T h WL FL cells slots) (hx : p.tables.exec = Jvm.exec) (pc' : Nat) {x y : Value} (hd : decode c.code pc = .ok (.dup_x1, 1)) (hc : x.category = 1) (hc' : y.category = 1) (hp : pc + 1 = pc')
    (o : Wo p e s below Z EL n0 WL0 FL0 rm Q T (mkF m pc' Ls (x :: y :: x :: st))) : Wo p e s below Z EL n0 WL0 FL0 rm Q T (mkF m pc Ls (x :: y :: st)) := by
  subst hp; exact Wo.by (fun _ q => XS.dupX1 X.here hx rfl hd rfl hc hc' q) o
theorem P.goto (X : WS p l e R s m args below meth c Z EL n0 own T h WL FL cells slots) (hx : p.tables.exec = Jvm.exec) (pc' : Nat) {off : Int} (hd : decode c.code pc = .ok (.goto off, 3))  (ho : 0 ≤ (pc : Int) + off) (hp : ((pc : Int) + off).toNat = pc')
    (o : Wo p e s below Z EL n0 WL0 FL0 rm Q T (mkF m pc' Ls (st))) : Wo p e s below Z EL n0 WL0 FL0 rm Q T (mkF m pc Ls (st)) := by
  exact Wo.by (fun _ q => XS.goto X.here hx rfl (pc0 := pc) rfl hd ho hp q) o
theorem P.ifYes (X : WS p l e R s m args below meth c Z EL n0 own T h WL FL cells slots) (hx : p.tables.exec = Jvm.exec) (pc' : Nat) {off : Int} {cd : ClassFile.Cond} {x : Int32} (hd : decode c.code pc = .ok (.ifCond cd off, 3)) (hc : ifCond.holds cd x = true) (ho : 0 ≤ (pc : Int) + off) (hp : ((pc : Int) + off).toNat = pc')
    (o : Wo p e s below Z EL n0 WL0 FL0 rm Q T (mkF m pc' Ls (st))) : Wo p e s below Z EL n0 WL0 FL0 rm Q T (mkF m pc Ls (.int x :: st)) := by
  exact Wo.by (fun _ q => XS.ifYes X.here hx rfl (pc0 := pc) rfl hd rfl hc ho hp q) o
theorem P.ifNo (X : WS p l e R s m args below meth c Z EL n0 own T h WL FL cells slots) (hx : p.tables.exec = Jvm.exec) (pc' : Nat) {off : Int} {cd : ClassFile.Cond} {x : Int32} (hd : decode c.code pc = .ok (.ifCond cd off, 3)) (hc : ifCond.holds cd x = false) (hp : pc + 3 = pc')
    (o : Wo p e s below Z EL n0 WL0 FL0 rm Q T (mkF m pc' Ls (st))) : Wo p e s below Z EL n0 WL0 FL0 rm Q T (mkF m pc Ls (.int x :: st)) := by
  subst hp; exact Wo.by (fun _ q => XS.ifNo X.here hx rfl hd rfl hc q) o
theorem P.icmpYes (X : WS p l e R s m args below meth c Z EL n0 own T h WL FL cells slots) (hx : p.tables.exec = Jvm.exec) (pc' : Nat) {off : Int} {cd : ClassFile.Cond} {x y : Int32} (hd : decode c.code pc = .ok (.if_icmp cd off, 3)) (hc : if_icmp.holds cd x y = true) (ho : 0 ≤ (pc : Int) + off) (hp : ((pc : Int) + off).toNat = pc')
    (o : Wo p e s below Z EL n0 WL0 FL0 rm Q T (mkF m pc' Ls (st))) : Wo p e s below Z EL n0 WL0 FL0 rm Q T (mkF m pc Ls (.int y :: .int x :: st)) := by
  exact Wo.by (fun _ q => XS.icmpYes X.here hx rfl (pc0 := pc) rfl hd rfl hc ho hp q) o
theorem P.icmpNo (X : WS p l e R s m args below meth c Z EL n0 own T h WL FL cells slots) (hx : p.tables.exec = Jvm.exec) (pc' : Nat) {off : Int} {cd : ClassFile.Cond} {x y : Int32} (hd : decode c.code pc = .ok (.if_icmp cd off, 3)) (hc : if_icmp.holds cd x y = false) (hp : pc + 3 = pc')
    (o : Wo p e s below Z EL n0 WL0 FL0 rm Q T (mkF m pc' Ls (st))) : Wo p e s below Z EL n0 WL0 FL0 rm Q T (mkF m pc Ls (.int y :: .int x :: st)) := by
  subst hp; exact Wo.by (fun _ q => XS.icmpNo X.here hx rfl hd rfl hc q) o
theorem P.ifnullYes (X : WS p l e R s m args below meth c Z EL n0 own T h WL FL cells slots) (hx : p.tables.exec = Jvm.exec) (pc' : Nat) {off : Int} (hd : decode c.code pc = .ok (.ifnull off, 3))  (ho : 0 ≤ (pc : Int) + off) (hp : ((pc : Int) + off).toNat = pc')
    (o : Wo p e s below Z EL n0 WL0 FL0 rm Q T (mkF m pc' Ls (st))) : Wo p e s below Z EL n0 WL0 FL0 rm Q T (mkF m pc Ls (.null :: st)) := by
  exact Wo.by (fun _ q => XS.ifnullYes X.here hx rfl (pc0 := pc) rfl hd rfl ho hp q) o
theorem P.ifnullNo (X : WS p l e R s m args below meth c Z EL n0 own T h WL FL cells slots) (hx : p.tables.exec = Jvm.exec) (pc' : Nat) {off : Int} {b : Addr} (hd : decode c.code pc = .ok (.ifnull off, 3))  (hp : pc + 3 = pc')
    (o : Wo p e s below Z EL n0 WL0 FL0 rm Q T (mkF m pc' Ls (st))) : Wo p e s below Z EL n0 WL0 FL0 rm Q T (mkF m pc Ls (.ref b :: st)) := by
  subst hp; exact Wo.by (fun _ q => XS.ifnullNo X.here hx rfl hd rfl q) o
theorem P.ifnonnullYes (X : WS p l e R s m args below meth c Z EL n0 own T h WL FL cells slots) (hx : p.tables.exec = Jvm.exec) (pc' : Nat) {off : Int} {b : Addr} (hd : decode c.code pc = .ok (.ifnonnull off, 3))  (ho : 0 ≤ (pc : Int) + off) (hp : ((pc : Int) + off).toNat = pc')
    (o : Wo p e s below Z EL n0 WL0 FL0 rm Q T (mkF m pc' Ls (st))) : Wo p e s below Z EL n0 WL0 FL0 rm Q T (mkF m pc Ls (.ref b :: st)) := by
  exact Wo.by (fun _ q => XS.ifnonnullYes X.here hx rfl (pc0 := pc) rfl hd rfl ho hp q) o
theorem P.ifnonnullNo (X : WS p l e R s m args below meth c Z EL n0 own T h WL FL cells slots) (hx : p.tables.exec = Jvm.exec) (pc' : Nat) {off : Int} (hd : decode c.code pc = .ok (.ifnonnull off, 3))  (hp : pc + 3 = pc')
    (o : Wo p e s below Z EL n0 WL0 FL0 rm Q T (mkF m pc' Ls (st))) : Wo p e s below Z EL n0 WL0 FL0 rm Q T (mkF m pc Ls (.null :: st)) := by
  subst hp; exact Wo.by (fun _ q => XS.ifnonnullNo X.here hx rfl hd rfl q) o
/-- steps that read or write -/
theorem WS.getF (X : WS p l e R s m args below meth c Z EL n0 own T h WL FL cells slots) (hx : p.tables.exec = Jvm.exec) {R0 O n d host : String} {index : Nat} (w : (Jvm.Cond.fieldLink own index R0 n d).before a0 Z = true ∨ (Jvm.Cond.fieldLinkNest own index R0 n d host).before a0 Z = true) (via : Via Z R0 O n d) {a : Addr} {v : Value} (F : Fld Z h a O n d v)
    (hd : decode c.code pc = .ok (.getfield index, 3)) (k : ∀ T', WS p l e R s m args below meth c Z EL n0 own T' h WL FL cells slots → Wo p e s below Z EL n0 WL0 FL0 rm Q T' (mkF m (pc + 3) Ls (v :: rest))) :
    Wo p e s below Z EL n0 WL0 FL0 rm Q T (mkF m pc Ls (.ref a :: rest)) := by
  obtain ⟨vm0, k0, locs, X, eT, hS, hk, hZ, hown, N, I⟩ := X
  obtain ⟨T', X', eT', st⟩ := RoadKit.getF X hx hZ hown w via eT F (g := mkF m pc Ls (.ref a :: rest)) rfl rfl hd
  exact Wo.by st (k T' ⟨vm0, k0, locs, X', eT', hS, hk, hZ, hown, N, I⟩)
theorem WS.getS (X : WS p l e R s m args below meth c Z EL n0 own T h WL FL cells slots) (hx : p.tables.exec = Jvm.exec) {R0 O n d : String} {index : Nat} (w : (Jvm.Cond.fieldLink own index R0 n d).before a0 Z = true) (via : Via Z R0 O n d) {v : Value} (F : Sta Z Z.heap O n d v)
    (hd : decode c.code pc = .ok (.getstatic index, 3)) (k : ∀ T', WS p l e R s m args below meth c Z EL n0 own T' h WL FL cells slots → Wo p e s below Z EL n0 WL0 FL0 rm Q T' (mkF m (pc + 3) Ls (v :: st))) :
    Wo p e s below Z EL n0 WL0 FL0 rm Q T (mkF m pc Ls st) := by
  have F' := X.sta F
  obtain ⟨vm0, k0, locs, X, eT, hS, hk, hZ, hown, N, I⟩ := X
  obtain ⟨T', X', eT', st⟩ := RoadKit.getS (host := "") X hx hZ hown w via eT F' (g := mkF m pc Ls st) rfl hd
  exact Wo.by st (k T' ⟨vm0, k0, locs, X', eT', hS, hk, hZ, hown, N, I⟩)
theorem WS.putF (X : WS p l e R s m args below meth c Z EL n0 own T h WL FL cells slots) (hx : p.tables.exec = Jvm.exec) {R0 O n d host C : String} {index kk : Nat} {ty : FieldType} (w : (Jvm.Cond.fieldLink own index R0 n d).before a0 Z = true ∨ (Jvm.Cond.fieldLinkNest own index R0 n d host).before a0 Z = true) (via : Via Z R0 O n d) {a : Addr} {v old : Value} (F : Fld Z h a O n d old) (E : Exa Z h a C)
    (L : (Jvm.Cond.lays C O n d).before a0 Z = true ∨ ((Jvm.Cond.laysFinal C O n d).before a0 Z = true ∧ own = O ∧ meth.name = "<init>")) (wi : (Jvm.Cond.instantiable C kk).before a0 Z = true) (hty : parseFieldDescriptor d = some ty) (hn : narrow ty v = v) (hf : fits ty v = true) (ha : a ∈ WL)
    (hd : decode c.code pc = .ok (.putfield index, 3)) (k : ∀ T' h', WS p l e R s m args below meth c Z EL n0 own T' h' WL FL cells slots → Wr h h' a (Jvm.RoadKit.slotOf Z O n d) v → Fld Z h' a O n d v → Wo p e s below Z EL n0 WL0 FL0 rm Q T' (mkF m (pc + 3) Ls rest)) :
    Wo p e s below Z EL n0 WL0 FL0 rm Q T (mkF m pc Ls (v :: .ref a :: rest)) := by
  obtain ⟨vm0, k0, locs, X, eT, hS, hk, hZ, hown, N, I⟩ := X
  obtain ⟨T', h', X', eT', W, st⟩ := RoadKit.putF X hx hZ hown w via eT F E L wi hty hn hf (g := mkF m pc Ls (v :: .ref a :: rest)) rfl rfl hd
  exact Wo.by st (k T' h' ⟨vm0, k0, _, X', eT', hS, by rw [W.size]; exact hk, hZ, hown, Fr.snoc X' N (I.ge ha), I.wr W ha⟩ W (F.same W))
theorem WS.newO (X : WS p l e R s m args below meth c Z EL n0 own T h WL FL cells slots) (hx : p.tables.exec = Jvm.exec) {C : String} {index n : Nat} (w : (Jvm.Cond.classLink own index C).before a0 Z = true) (wi : (Jvm.Cond.instantiable C n).before a0 Z = true) (wz : (Jvm.Cond.initialized C).before a0 Z = true)
    (hd : decode c.code pc = .ok (.new index, 3)) (hc : cells + 1 ≤ R.cells) (hl : slots + n ≤ R.slots)
    (k : ∀ T' h' a, WS p l e R s m args below meth c Z EL n0 own T' h' (a :: WL) FL (cells + 1) (slots + n) → Ext h h' → h.size ≤ a → Exa Z h' a C → (∀ {O nm d : String} {ty : FieldType}, Laid Z a0 C O nm d → parseFieldDescriptor d = some ty → Fld Z h' a O nm d (defaultValue ty)) → Wo p e s below Z EL n0 WL0 FL0 rm Q T' (mkF m (pc + 3) Ls (.ref a :: st))) :
    Wo p e s below Z EL n0 WL0 FL0 rm Q T (mkF m pc Ls st) := by
  obtain ⟨vm0, k0, locs, X, eT, hS, hk, hZ, hown, N, I⟩ := X
  obtain ⟨T', h', X', eT', E, A, D, -, st⟩ := RoadKit.newO X hx hZ hown w wi wz eT (g := mkF m pc Ls st) rfl hd hc hl
  exact Wo.by st (k T' h' h.size ⟨vm0, k0, _, X', eT', hS, Nat.le_trans hk E.1, hZ, hown, N, I.new E A.lt⟩ E (Nat.le_refl _) A D)
theorem WS.newP (X : WS p l e R s m args below meth c Z EL n0 own T h WL FL cells slots) (hx : p.tables.exec = Jvm.exec) {aty : ArrayType} (w : (Jvm.Cond.arrayClass (newarray.typeOf aty)).before a0 Z = true) {n : Int32} (hd : decode c.code pc = .ok (.newarray aty, 2))
    (hn : ¬ n < 0) {cap : Nat} (hcap : n.toNatClampNeg ≤ cap) (hb : cap * 8 ≤ 536870912) (hc : cells + 1 ≤ R.cells) (hl : slots + cap ≤ R.slots)
    (k : ∀ T' h' a ka, WS p l e R s m args below meth c Z EL n0 own T' h' (a :: WL) FL (cells + 1) (slots + cap) → Ext h h' → h.size ≤ a → Arv Z h' a ka (newarray.typeOf aty) n [] (defaultValue (newarray.typeOf aty)) → Wo p e s below Z EL n0 WL0 FL0 rm Q T' (mkF m (pc + 2) Ls (.ref a :: rest))) :
    Wo p e s below Z EL n0 WL0 FL0 rm Q T (mkF m pc Ls (.int n :: rest)) := by
  obtain ⟨vm0, k0, locs, X, eT, hS, hk, hZ, hown, N, I⟩ := X
  obtain ⟨T', h', cA, X', eT', E, A, st⟩ := RoadKit.newP X hx hZ w eT (g := mkF m pc Ls (.int n :: rest)) rfl hd rfl hn hcap hb hc hl
  exact Wo.by st (k T' h' h.size cA ⟨vm0, k0, _, X', eT', hS, Nat.le_trans hk E.1, hZ, hown, N, I.new E A.lt⟩ E (Nat.le_refl _) (Arv.new A hn))
theorem WS.stC (X : WS p l e R s m args below meth c Z EL n0 own T h WL FL cells slots) (hx : p.tables.exec = Jvm.exec) {a : Addr} {ka : ClassId} {N : Int32} {vs : List Value} {dv : Value} (A : Arv Z h a ka .char N vs dv) {j x : Int32} {i : Nat} (hj : ¬ j < 0 ∧ j < N) (hi : j.toNatClampNeg = i) (hl : i < vs.length) (ha : a ∈ WL)
    (hd : decode c.code pc = .ok (.castore, 1)) (k : ∀ T' h', WS p l e R s m args below meth c Z EL n0 own T' h' WL FL cells slots → Wr h h' a j.toNatClampNeg (.int (nar .char x)) → Arv Z h' a ka .char N (vs.set i (.int (nar .char x))) dv → Wo p e s below Z EL n0 WL0 FL0 rm Q T' (mkF m (pc + 1) Ls rest)) :
    Wo p e s below Z EL n0 WL0 FL0 rm Q T (mkF m pc Ls (.int x :: .int j :: .ref a :: rest)) := by
  obtain ⟨vm0, k0, locs, X, eT, hS, hk, hZ, hown, N, I⟩ := X
  obtain ⟨cl, A1, A2, A3, A4, A5, A6⟩ := A
  obtain ⟨T', h', X', eT', W, st⟩ := RoadKit.stC X hx hZ eT A1 (inb_of A3 hj) (g := mkF m pc Ls (.int x :: .int j :: .ref a :: rest)) rfl rfl hd
  exact Wo.by st (k T' h' ⟨vm0, k0, _, X', eT', hS, by rw [W.size]; exact hk, hZ, hown, Fr.snoc X' N (I.ge ha), I.wr W ha⟩ W (Arv.set A1 A2 A3 A4 A5 A6 (fits_nar_char x) W i hi hl))
theorem WS.stB (X : WS p l e R s m args below meth c Z EL n0 own T h WL FL cells slots) (hx : p.tables.exec = Jvm.exec) {a : Addr} {ka : ClassId} {N : Int32} {vs : List Value} {dv : Value} (A : Arv Z h a ka .byte N vs dv) {j x : Int32} {i : Nat} (hj : ¬ j < 0 ∧ j < N) (hi : j.toNatClampNeg = i) (hl : i < vs.length) (ha : a ∈ WL)
    (hd : decode c.code pc = .ok (.bastore, 1)) (k : ∀ T' h', WS p l e R s m args below meth c Z EL n0 own T' h' WL FL cells slots → Wr h h' a j.toNatClampNeg (.int (nar .byte x)) → Arv Z h' a ka .byte N (vs.set i (.int (nar .byte x))) dv → Wo p e s below Z EL n0 WL0 FL0 rm Q T' (mkF m (pc + 1) Ls rest)) :
    Wo p e s below Z EL n0 WL0 FL0 rm Q T (mkF m pc Ls (.int x :: .int j :: .ref a :: rest)) := by
  obtain ⟨vm0, k0, locs, X, eT, hS, hk, hZ, hown, N, I⟩ := X
  obtain ⟨cl, A1, A2, A3, A4, A5, A6⟩ := A
  obtain ⟨T', h', X', eT', W, st⟩ := RoadKit.stB X hx hZ eT A1 (inb_of A3 hj) (g := mkF m pc Ls (.int x :: .int j :: .ref a :: rest)) rfl rfl hd
  exact Wo.by st (k T' h' ⟨vm0, k0, _, X', eT', hS, by rw [W.size]; exact hk, hZ, hown, Fr.snoc X' N (I.ge ha), I.wr W ha⟩ W (Arv.set A1 A2 A3 A4 A5 A6 (fits_nar_byte x) W i hi hl))
theorem WS.initO (X : WS p l e R s m args below meth c Z EL n0 own T h WL FL cells slots) (hx : p.tables.exec = Jvm.exec) {idx : Nat} (w1 : (Jvm.Cond.methodLink own idx Lib.objectInit).before a0 Z = true) (w2 : (Jvm.Cond.instanceMethod Lib.objectInit).before a0 Z = true)
    (w3 : (Jvm.Cond.code Lib.objectInit ⟨#[0xb1]⟩ 1 none).before a0 Z = true) (hsize : Ls.size = c.maxLocals) {a : Addr} (hd : decode c.code pc = .ok (.invokespecial idx, 3))
    (hf : 1 ≤ R.frames) {W : Nat} (hW : (rest.map fun v => v.category).sum ≤ W) (hl : W + 12 ≤ R.locals)
    (k : ∀ T', WS p l e R s m args below meth c Z EL n0 own T' h WL FL cells slots → Wo p e s below Z EL n0 WL0 FL0 rm Q T' (mkF m (pc + 3) Ls rest)) :
    Wo p e s below Z EL n0 WL0 FL0 rm Q T (mkF m pc Ls (.ref a :: rest)) := by
  obtain ⟨vm0, k0, locs, X, eT, hS, hk, hZ, hown, N, I⟩ := X
  obtain ⟨T', X', eT', st⟩ := RoadKit.initO X hx hZ hown w1 w2 w3 eT (g := mkF m pc Ls (.ref a :: rest)) rfl hsize rfl hd hf (W := W) (by show 2 * 0 + _ ≤ _; omega) hl
  exact Wo.by st (k T' ⟨vm0, k0, _, X', eT', hS, hk, hZ, hown, N, I⟩)
theorem cat_ref {v : Value} (hv : v.isRef = true) : v.category = 1 := by rcases ref_cases hv with rfl | ⟨a, rfl⟩ <;> rfl
theorem nar_ref {v : Value} {t : FieldType} (ht : t.isReference = true) (hv : v.isRef = true) : narrow t v = v := by cases t <;> first | (cases ht; done) | (rcases ref_cases hv with rfl | ⟨a, rfl⟩ <;> rfl)
theorem fit_ref {v : Value} {t : FieldType} (ht : t.isReference = true) (hv : v.isRef = true) : fits t v = true := by cases t <;> first | (cases ht; done) | (rcases ref_cases hv with rfl | ⟨a, rfl⟩ <;> rfl)
theorem WS.acmp (X : WS p l e R s m args below meth c Z EL n0 own T h WL FL cells slots) (hx : p.tables.exec = Jvm.exec) {cd : ACond} {x y : Value} (h1 : x.isRef = true) (h2 : y.isRef = true) {o : Int} {pc' : Nat} {same : Bool}
    (hd : decode c.code pc = .ok (.if_acmp cd o, 3)) (hq : decide (x = y) = same) (ho : 0 ≤ (pc : Int) + o) (hp : pc' = if acV cd same = true then ((pc : Int) + o).toNat else pc + 3)
    (k : Wo p e s below Z EL n0 WL0 FL0 rm Q T (mkF m pc' Ls rest)) : Wo p e s below Z EL n0 WL0 FL0 rm Q T (mkF m pc Ls (y :: x :: rest)) := by
  obtain ⟨vm0, k0, locs, X, eT, hS, hk, hZ, hown, N, I⟩ := X
  exact Wo.by (fun t q => RoadKit.acmp (g := mkF m pc Ls (y :: x :: rest)) X hx rfl h1 h2 (pc0 := pc) rfl hd rfl hq ho hp q) k
theorem WS.alen (X : WS p l e R s m args below meth c Z EL n0 own T h WL FL cells slots) (hx : p.tables.exec = Jvm.exec) {a : Addr} {ka : ClassId} {ty : FieldType} {N : Int32} {vs : List Value} {dv : Value} (A : Arv Z h a ka ty N vs dv) (hd : decode c.code pc = .ok (.arraylength, 1))
    (k : Wo p e s below Z EL n0 WL0 FL0 rm Q T (mkF m (pc + 1) Ls (.int N :: rest))) : Wo p e s below Z EL n0 WL0 FL0 rm Q T (mkF m pc Ls (.ref a :: rest)) := by
  obtain ⟨vm0, k0, locs, X, eT, hS, hk, hZ, hown, N, I⟩ := X
  obtain ⟨cl, A1, A2, A3, A4, -, -⟩ := A
  refine Wo.by (fun t q => X.arraylength hx (by rw [eT]; exact A1.1) (State.isArrayOf_alike hZ.alike A1.2.1) (g := mkF m pc Ls (.ref a :: rest)) rfl rfl hd t ?_) k
  rw [len_of A3 A4]; exact q
theorem WS.cld (X : WS p l e R s m args below meth c Z EL n0 own T h WL FL cells slots) (hx : p.tables.exec = Jvm.exec) {a : Addr} {ka : ClassId} {N : Int32} {vs : List Value} {dv : Value} (A : Arv Z h a ka .char N vs dv) {j x : Int32} (hj : ¬ j < 0 ∧ j < N) (hv : vs.getD j.toNatClampNeg dv = .int x) (hd : decode c.code pc = .ok (.caload, 1))
    (k : Wo p e s below Z EL n0 WL0 FL0 rm Q T (mkF m (pc + 1) Ls (.int x :: rest))) : Wo p e s below Z EL n0 WL0 FL0 rm Q T (mkF m pc Ls (.int j :: .ref a :: rest)) := by
  obtain ⟨vm0, k0, locs, X, eT, hS, hk, hZ, hown, N, I⟩ := X
  obtain ⟨cl, A1, A2, A3, A4, A5, -⟩ := A
  exact Wo.by (fun t q => X.caload hx (by rw [eT]; exact A1.1) (State.isArrayOf_alike hZ.alike A1.2.1) A1.2.2 (inb_of A3 hj) (A5.at (inb_of A3 hj) hv) (g := mkF m pc Ls (.int j :: .ref a :: rest)) rfl rfl hd t q) k
theorem WS.bld (X : WS p l e R s m args below meth c Z EL n0 own T h WL FL cells slots) (hx : p.tables.exec = Jvm.exec) {a : Addr} {ka : ClassId} {N : Int32} {vs : List Value} {dv : Value} (A : Arv Z h a ka .byte N vs dv) {j x : Int32} (hj : ¬ j < 0 ∧ j < N) (hv : vs.getD j.toNatClampNeg dv = .int x) (hd : decode c.code pc = .ok (.baload, 1))
    (k : Wo p e s below Z EL n0 WL0 FL0 rm Q T (mkF m (pc + 1) Ls (.int x :: rest))) : Wo p e s below Z EL n0 WL0 FL0 rm Q T (mkF m pc Ls (.int j :: .ref a :: rest)) := by
  obtain ⟨vm0, k0, locs, X, eT, hS, hk, hZ, hown, N, I⟩ := X
  obtain ⟨cl, A1, A2, A3, A4, A5, -⟩ := A
  exact Wo.by (fun t q => X.baloadBytes hx (by rw [eT]; exact A1.1) (State.isArrayOf_alike hZ.alike A1.2.1) A1.2.2 (inb_of A3 hj) (A5.at (inb_of A3 hj) hv) (g := mkF m pc Ls (.int j :: .ref a :: rest)) rfl rfl hd t q) k
theorem WS.castY (X : WS p l e R s m args below meth c Z EL n0 own T h WL FL cells slots) (hx : p.tables.exec = Jvm.exec) {C : String} {index : Nat} (w : (Jvm.Cond.classLink own index C).before a0 Z = true) {a : Addr} (F : Ins Z h a C true) (hd : decode c.code pc = .ok (.checkcast index, 3))
    (k : ∀ T', WS p l e R s m args below meth c Z EL n0 own T' h WL FL cells slots → Wo p e s below Z EL n0 WL0 FL0 rm Q T' (mkF m (pc + 3) Ls (.ref a :: rest))) : Wo p e s below Z EL n0 WL0 FL0 rm Q T (mkF m pc Ls (.ref a :: rest)) := by
  obtain ⟨vm0, k0, locs, X, eT, hS, hk, hZ, hown, N, I⟩ := X
  obtain ⟨T', X', eT', st⟩ := RoadKit.castY X hx hZ hown w eT F (g := mkF m pc Ls (.ref a :: rest)) rfl rfl hd
  exact Wo.by st (k T' ⟨vm0, k0, _, X', eT', hS, hk, hZ, hown, N, I⟩)
theorem WS.instY (X : WS p l e R s m args below meth c Z EL n0 own T h WL FL cells slots) (hx : p.tables.exec = Jvm.exec) {C : String} {index : Nat} (w : (Jvm.Cond.classLink own index C).before a0 Z = true) {a : Addr} (F : Ins Z h a C true) (hd : decode c.code pc = .ok (.instanceof index, 3))
    (k : ∀ T', WS p l e R s m args below meth c Z EL n0 own T' h WL FL cells slots → Wo p e s below Z EL n0 WL0 FL0 rm Q T' (mkF m (pc + 3) Ls (.int 1 :: rest))) : Wo p e s below Z EL n0 WL0 FL0 rm Q T (mkF m pc Ls (.ref a :: rest)) := by
  obtain ⟨vm0, k0, locs, X, eT, hS, hk, hZ, hown, N, I⟩ := X
  obtain ⟨T', X', eT', st⟩ := RoadKit.instY X hx hZ hown w eT F (g := mkF m pc Ls (.ref a :: rest)) rfl rfl hd
  exact Wo.by st (k T' ⟨vm0, k0, _, X', eT', hS, hk, hZ, hown, N, I⟩)
theorem WS.castN (X : WS p l e R s m args below meth c Z EL n0 own T h WL FL cells slots) (hx : p.tables.exec = Jvm.exec) {index : Nat} (hd : decode c.code pc = .ok (.checkcast index, 3))
    (k : Wo p e s below Z EL n0 WL0 FL0 rm Q T (mkF m (pc + 3) Ls (.null :: rest))) : Wo p e s below Z EL n0 WL0 FL0 rm Q T (mkF m pc Ls (.null :: rest)) := by
  obtain ⟨vm0, k0, locs, X, eT, hS, hk, hZ, hown, N, I⟩ := X
  exact Wo.by (X.checkcastNull hx (g := mkF m pc Ls (.null :: rest)) rfl rfl hd) k
theorem WS.ldcI (X : WS p l e R s m args below meth c Z EL n0 own T h WL FL cells slots) (hx : p.tables.exec = Jvm.exec) {index : Nat} {v : Int32} (w : (Jvm.Cond.constant own index v).before a0 Z = true) (hd : decode c.code pc = .ok (.ldc index, 2))
    (k : Wo p e s below Z EL n0 WL0 FL0 rm Q T (mkF m (pc + 2) Ls (.int v :: st))) : Wo p e s below Z EL n0 WL0 FL0 rm Q T (mkF m pc Ls st) := by
  obtain ⟨vm0, k0, locs, X, eT, hS, hk, hZ, hown, N, I⟩ := X
  exact Wo.by (X.ldcInt hx hown (mv hZ w) (g := mkF m pc Ls st) rfl hd) k
theorem WS.cpA (X : WS p l e R s m args below meth c Z EL n0 own T h WL FL cells slots) (hx : p.tables.exec = Jvm.exec) {index : Nat} (w1 : (Jvm.Cond.methodLink own index Jvm.Stand.acN).before a0 Z = true) (w2 : (Jvm.Cond.native Jvm.Stand.acN).before a0 Z = true) (w3 : (Jvm.Cond.static Jvm.Stand.acN).before a0 Z = true) (w4 : (Jvm.Cond.initialized "java/lang/System").before a0 Z = true)
    {a b : Addr} {ka kb : ClassId} {ty ty' : FieldType} {z z' sp dp nn : Int32} {vs vd us vr : List Value} {dv dd : Value} (A : Arv Z h a ka ty z vs dv) (B : Arv Z h b kb ty' z' vd dd) (hty : (ty = ty' ∧ refKind ty = false) ∨ (refKind ty = true ∧ refKind ty' = true ∧ StoL Z h b us))
    (h1 : ¬ sp < 0) (h2 : ¬ dp < 0) (h3 : ¬ nn < 0) (h4 : sp.toNatClampNeg + nn.toNatClampNeg ≤ z.toNatClampNeg) (h5 : dp.toNatClampNeg + nn.toNatClampNeg ≤ z'.toNatClampNeg)
    (hus : us = (List.range nn.toNatClampNeg).map fun i => vs.getD (sp.toNatClampNeg + i) dv) (hl : dp.toNatClampNeg + nn.toNatClampNeg ≤ vd.length) (hr : vd.take dp.toNatClampNeg ++ us ++ vd.drop (dp.toNatClampNeg + nn.toNatClampNeg) = vr) (hb : b ∈ WL)
    (hsize : Ls.size = c.maxLocals) (hd : decode c.code pc = .ok (.invokestatic index, 3)) (hf : 1 ≤ R.frames) {W : Nat} (hW : (rest.map fun v => v.category).sum ≤ W) (hlo : W + 18 ≤ R.locals)
    (k : ∀ T' h', WS p l e R s m args below meth c Z EL n0 own T' h' WL FL cells slots → Keep h h' [b] → Arv Z h' b kb ty' z' vr dd → Wo p e s below Z EL n0 WL0 FL0 rm Q T' (mkF m (pc + 3) Ls rest)) :
    Wo p e s below Z EL n0 WL0 FL0 rm Q T (mkF m pc Ls (.int nn :: .int dp :: .ref b :: .int sp :: .ref a :: rest)) := by
  obtain ⟨vm0, k0, locs, X, eT, hS, hk, hZ, hown, N, I⟩ := X
  obtain ⟨T', h', L, X', eT', N', K, V, st⟩ := RoadKit.cpA X hx hZ hown w1 w2 w3 w4 eT A B hty h1 h2 h3 h4 h5 hus hl N (I.ge hb) (g := mkF m pc Ls (.int nn :: .int dp :: .ref b :: .int sp :: .ref a :: rest)) rfl hsize rfl hd hf (W := W) (by show 2 * 0 + _ ≤ _; omega) (by rw [show nativeFrameWords "java/lang/System" "arraycopy" 5 = 7 by decide]; omega)
  subst hr
  exact Wo.by st (k T' h' ⟨vm0, k0, _, X', eT', hS, Nat.le_trans hk K.1, hZ, hown, N', I.keep K (allS hb all0)⟩ K V)
/-- a String constant, read -/
theorem WS.ldc (X : WS p l e R s m args below meth c Z EL n0 own T h WL FL cells slots) (hx : p.tables.exec = Jvm.exec) {index : Nat} {text : String} (w : (Jvm.Cond.stringLink own index text).before a0 Z = true) (wS : ∀ a ∈ Bundle.stringAtoms, a.before a0 Z = true) (hmem : (own, index) ∈ EL)
    {vs : List Value} {z : Int32} (ht : (∀ c ∈ text.toList, c.toNat < 256) ∧ text.toList.map (fun c => Value.int (Jvm.Lit.byteI c.toNat.toUInt16)) = vs) (hz : ¬ z < 0) (hl : z.toNatClampNeg = vs.length)
    (hd : decode c.code pc = .ok (.ldc index, 2)) {n : Nat} (hn : 4 * text.toList.length ≤ n) (hbig : n ≤ 536870912) (hc : cells + 2 ≤ R.cells) (hl' : slots + (n + 4) ≤ R.slots)
    (k : ∀ T' h' a b kb, WS p l e R s m args below meth c Z EL n0 own T' h' WL (a :: b :: FL) (cells + 2) (slots + (n + 4)) → Ext h h' → Exa Z h' a "java/lang/String" → Fld Z h' a "java/lang/String" "coder" "B" (.int 0) → Fld Z h' a "java/lang/String" "value" "[B" (.ref b) → Arv Z h' b kb .byte z vs (.int 0) → Wo p e s below Z EL n0 WL0 FL0 rm Q T' (mkF m (pc + 2) Ls (.ref a :: st))) :
    Wo p e s below Z EL n0 WL0 FL0 rm Q T (mkF m pc Ls st) := by
  obtain ⟨vm0, k0, locs, X, eT, hS, hk, hZ, hown, N, ⟨a1, i1⟩, i2, i3, i4, i5, i6⟩ := X
  obtain ⟨a, T', h', k1, b, kb, X', eT', E, hS', hk', hZ', hown', A, C, V, B, la, lb, hC, -, hne, st⟩ := ldcCH X hx hZ hown w wS eT hS hk i1 hmem i2 ht hz hl (g := mkF m pc Ls st) rfl hd hn hbig hc hl'
  have S : ∀ x ∈ WL, Safe Z EL T'.vm h' x := fun x hx => hC.safe (i4 x hx).2.1 (i4 x hx).2.2
  refine Wo.by st (k T' h' a b kb ⟨T'.vm, k1, _, X', eT', hS', hk', hZ', hown', N, ⟨a1, i1⟩, hC.1, i3.ext E, fun x hx => ⟨(i4 x hx).1, Nat.lt_of_lt_of_le (i4 x hx).2.1 E.1, S x hx⟩, i5, fun y hy => ?_⟩ E A C V B)
  rcases List.mem_cons.mp hy with rfl | hy
  · exact ⟨la, fun q => (hne _ (S _ q)).1 rfl⟩
  · rcases List.mem_cons.mp hy with rfl | hy
    · exact ⟨lb, fun q => (hne _ (S _ q)).2 rfl⟩
    · exact ⟨Nat.lt_of_lt_of_le (i6 y hy).1 E.1, (i6 y hy).2⟩
/-- a String constant that nobody reads -/
theorem WS.ldcO (X : WS p l e R s m args below meth c Z EL n0 own T h WL FL cells slots) (hx : p.tables.exec = Jvm.exec) {index : Nat} {text : String} (w : (Jvm.Cond.stringLink own index text).before a0 Z = true) (wS : ∀ a ∈ Bundle.stringAtoms, a.before a0 Z = true)
    (hd : decode c.code pc = .ok (.ldc index, 2)) {n : Nat} (hn : 4 * text.toList.length ≤ n) (hbig : n ≤ 536870912) (hc : cells + 2 ≤ R.cells) (hl' : slots + (n + 4) ≤ R.slots)
    (k : ∀ T' h' a, WS p l e R s m args below meth c Z EL n0 own T' h' WL FL (cells + 2) (slots + (n + 4)) → Ext h h' → Wo p e s below Z EL n0 WL0 FL0 rm Q T' (mkF m (pc + 2) Ls (.ref a :: st))) :
    Wo p e s below Z EL n0 WL0 FL0 rm Q T (mkF m pc Ls st) := by
  obtain ⟨vm0, k0, locs, X, eT, hS, hk, hZ, hown, N, ⟨a1, i1⟩, i2, i3, i4, i5, i6⟩ := X
  obtain ⟨a, T', h', k1, X', eT', E, hS', hk', hZ', hown', hC, -, st⟩ := ldcOH X hx hZ hown w wS eT hS hk i1 i2 (g := mkF m pc Ls st) rfl hd hn hbig hc hl'
  exact Wo.by st (k T' h' a ⟨T'.vm, k1, _, X', eT', hS', hk', hZ', hown', N, ⟨a1, i1⟩, hC.1, i3.ext E, fun x hx => ⟨(i4 x hx).1, Nat.lt_of_lt_of_le (i4 x hx).2.1 E.1, hC.safe (i4 x hx).2.1 (i4 x hx).2.2⟩, i5, fun y hy => ⟨Nat.lt_of_lt_of_le (i6 y hy).1 E.1, (i6 y hy).2⟩⟩ E)
/-- who pays a call -/
def Pay (l : Launch) (R : Room) (p : Program) (e : Env) (below : List Frame) (s : State) (args : Array Value) (Z : State) (EL : List (String × Nat)) (n0 : Nat) (y : MethodName) (len W : Nat) (as' : Array Value) (h : Heap) (WL FL : List Addr) (k n : Nat) (Q : Option Value → Heap → List Addr → List Addr → Prop) : Prop :=
  ∀ vm0, Z.Warmed39 vm0 → Inv Z EL n0 vm0 h WL FL → BackS l R p e below (s.setVm vm0) args y len W (fun A a => a = as' ∧ A.U.heap = h ∧ A.cells + k ≤ R.cells ∧ A.slots + n ≤ R.slots)
    (fun A _ v B => ∃ L WL' FL', Q v B.U.heap WL' FL' ∧ Fr n0 L ∧ B.locs = A.locs ++ L ∧ B.cells = A.cells + k ∧ B.slots = A.slots + n ∧ Inv Z EL n0 B.U.vm B.U.heap (WL' ++ WL) (FL' ++ FL))
theorem Ct.pay {y : MethodName} {bytes : ByteArray} {maxL : Nat} {ret : Option FieldType} {rm : Room} {as' : Array Value} {len W : Nat} {Q : Option Value → Heap → List Addr → List Addr → Prop} (C : Ct l Z EL n0 y bytes maxL ret rm as' h WL FL Q)
    (wc : (Jvm.Cond.code y bytes maxL ret).before a0 Z = true) (wz : (Jvm.Cond.initialized y.cls).before a0 Z = true) (hf : rm.frames + 1 ≤ R.frames) (hl : W + (maxL + 11) + rm.locals ≤ R.locals) :
    Pay l R p e below s args Z EL n0 y len W as' h WL FL rm.cells rm.slots Q := fun vm0 hZ I =>
  BackS.of_freeW (bytes := bytes) (maxL := maxL) (ret := ret) (E := fun _ first o t L k n => k = rm.cells ∧ n = rm.slots ∧ ∃ v WL' FL', o = .returned v ∧ Q v t.heap WL' FL' ∧ Fr n0 L ∧ Inv Z EL n0 t.vm t.heap (WL' ++ WL) (FL' ++ FL)) (C []) hf hl
    (fun m meth c A a Y hp => have hU : Z.Warmed39 A.U.vm := wtrans (s := s.setVm vm0) hZ Y.warmed
      ⟨by show (Jvm.Cond.and _ .tt).before a A.U = true; rw [Cond.before_and, mv hU wc]; rfl, mv hU wc, mv hU wz, hp.2.2.1, hp.2.2.2⟩)
    (fun m meth c A a g mk Y hp => ⟨hp.1, wtrans (s := s.setVm vm0) hZ Y.warmed, hp.2.1, (show Inv Z EL n0 A.U.vm h WL FL from WS.invT Y hZ I)⟩) (fun _ _ _ _ _ _ _ _ _ => trivial)
    (fun _ _ _ _ ⟨v, L, WL', FL', h1, h2, h3, h4, h5⟩ => ⟨L, _, _, h5, rfl, rfl, v, WL', FL', h1, h4, h3, h2⟩)
    (fun m meth c A a g mk v t L k n Y hp _ _ ⟨e1, e2, v', WL', FL', e3, e4, e5, e6⟩ => by
      cases e3; subst e1 e2
      exact ⟨L, WL', FL', e4, e5, rfl, rfl, rfl, e6⟩)
/-- a law of the narrow shape pays too -/
theorem Pay.ofN {y : MethodName} {as' : Array Value} {len W k n : Nat} {Qn : Option Value → Heap → List Loc → Prop} {Q : Option Value → Heap → List Addr → List Addr → Prop}
    (B : ∀ vm0, Z.Warmed39 (s.setVm vm0).vm → Back l R p e below (s.setVm vm0) args y len W (fun A a => a = as' ∧ A.U.heap = h ∧ A.cells + k ≤ R.cells ∧ A.slots + n ≤ R.slots) (fun A _ v B => ∃ L, Qn v B.U.heap L ∧ B.locs = A.locs ++ L ∧ B.cells = A.cells + k ∧ B.slots = A.slots + n))
    (hq : ∀ v h' L, Qn v h' L → Fr n0 L ∧ ∃ ws FL', Keep h h' ws ∧ (∀ x ∈ ws, x ∈ WL) ∧ (∀ y ∈ FL', h.size ≤ y ∧ y < h'.size) ∧ Q v h' [] FL') :
    Pay l R p e below s args Z EL n0 y len W as' h WL FL k n Q := fun vm0 hZ I => by
  intro m meth c A g ig mk a X hg hsize hdg hW hn hp
  obtain ⟨v, B, X', ⟨L, q1, q2, q3, q4⟩, st⟩ := B vm0 hZ m meth c A g ig mk a X hg hsize hdg hW hn hp
  obtain ⟨N, ws, FL', K, hws, hF, q⟩ := hq _ _ _ q1
  refine ⟨v, B, X'.retabled X'.warmed.wide, X'.warmed.since _, by rw [hp.2.1]; exact K.1, ⟨L, [], FL', q, N, q2, q3, q4, ?_⟩, st⟩
  obtain ⟨i1, i2, i3, i4, i5, i6⟩ := WS.invT X' hZ (I.keep K hws)
  refine ⟨i1, i2, i3, i4, i5, fun y hy => ?_⟩
  rcases List.mem_append.mp hy with z | z
  · exact ⟨(hF y z).2, fun w => Nat.lt_irrefl _ (Nat.lt_of_lt_of_le (I.lt w) (hF y z).1)⟩
  · exact i6 y z
/-- behind a call -/
theorem WS.back {vm0 : Vm} {k0 : Nat} {locs : List Loc} {B : Pt} {k n : Nat} {L : List Loc} {WL' FL' : List Addr} (hS : s.Since vm0 k0) (hk : k0 ≤ T.heap.size) (hZ : Z.Warmed39 vm0) (hown : vm0.findClass own = some m.cls) (N : Fr n0 locs) (X' : Stand p l e R ((s.setVm vm0).setVm B.U.vm) m args below meth c B.U B.locs B.cells B.slots)
    (hS' : (s.setVm vm0).Since B.U.vm B.U.heap.size) (hgr : T.heap.size ≤ B.U.heap.size) (N' : Fr n0 L) (q2 : B.locs = locs ++ L) (q3 : B.cells = cells + k) (q4 : B.slots = slots + n) (I' : Inv Z EL n0 B.U.vm B.U.heap (WL' ++ WL) (FL' ++ FL)) :
    WS p l e R s m args below meth c Z EL n0 own B.U B.U.heap (WL' ++ WL) (FL' ++ FL) (cells + k) (slots + n) := by
  obtain ⟨U, Lo, ck, sl⟩ := B
  dsimp only [Pt.U, Pt.locs, Pt.cells, Pt.slots] at *
  subst q2 q3 q4
  exact ⟨U.vm, U.heap.size, _, X', rfl, hS.trans hS' (Nat.le_trans hk hgr), Nat.le_refl _, State.Warmed39.trans (t := s.setVm vm0) hZ hS'.1, by rw [hS'.1.alike.findClass]; exact hown, N.app N', I'⟩
variable {index : Nat} {y z : MethodName} {bytes : ByteArray} {maxL : Nat} {ret : Option FieldType} {W k n : Nat} {as' : Array Value} {Qc : Option Value → Heap → List Addr → List Addr → Prop} {argsL : List Value}
theorem WS.callS (X : WS p l e R s m args below meth c Z EL n0 own T h WL FL cells slots) (hx : p.tables.exec = Jvm.exec) (w1 : (Jvm.Cond.methodLink own index y).before a0 Z = true) (w2 : (Jvm.Cond.static y).before a0 Z = true) (w3 : (Jvm.Cond.initialized y.cls).before a0 Z = true) (w4 : (Jvm.Cond.code y bytes maxL ret).before a0 Z = true) (hy : y.cls ≠ "java/lang/invoke/MethodHandle" ∧ y.cls ≠ "java/lang/invoke/VarHandle")
    (hP : Pay l R p e below s args Z EL n0 y 3 W as' h WL FL k n Qc) (hsize : Ls.size = c.maxLocals) (hlen : ∀ sig, parseMethodDescriptor y.desc = some sig → argsL.length = sig.parameters.length) (hst : st = argsL.reverse ++ rest) (has : argsL.toArray = as') (hW : (rest.map fun v => v.category).sum ≤ W)
    (hd : decode c.code pc = .ok (.invokestatic index, 3)) (hc : cells + k ≤ R.cells) (hl : slots + n ≤ R.slots)
    (kk : ∀ T' h' v WL' FL', WS p l e R s m args below meth c Z EL n0 own T' h' (WL' ++ WL) (FL' ++ FL) (cells + k) (slots + n) → Qc v h' WL' FL' → Wo p e s below Z EL n0 WL0 FL0 rm Q T' (mkF m (pc + 3) Ls (v.toList ++ rest))) :
    Wo p e s below Z EL n0 WL0 FL0 rm Q T (mkF m pc Ls st) := by
  obtain ⟨vm0, k0, locs, X, eT, hS, hk, hZ, hown, N, I⟩ := X
  obtain ⟨v, vm₁, B, -, X', hS', hgr, ⟨L, WL', FL', q, N', q2, q3, q4, I'⟩, stp⟩ := callSS X hx hown (mv hZ w1) (mv hZ w2) (mv hZ w3) (mv hZ w4) hy (hP vm0 hZ I) (g := mkF m pc Ls st) rfl hsize hlen hst (by show 2 * 0 + _ ≤ _; omega) hd (fun _ _ => ⟨has, eT, hc, hl⟩)
  exact Wo.by (fun t r => stp.trans r) (kk B.U _ v WL' FL' (WS.back hS (by rw [eT]; exact hk) hZ hown N X' hS' hgr N' q2 q3 q4 I') q)
theorem WS.callC (X : WS p l e R s m args below meth c Z EL n0 own T h WL FL cells slots) (hx : p.tables.exec = Jvm.exec) (hi : y.name = "<init>") (w1 : (Jvm.Cond.methodLink own index y).before a0 Z = true) (w2 : (Jvm.Cond.instanceMethod y).before a0 Z = true) (w4 : (Jvm.Cond.code y bytes maxL none).before a0 Z = true) (hy : y.cls ≠ "java/lang/invoke/MethodHandle" ∧ y.cls ≠ "java/lang/invoke/VarHandle")
    {a : Addr} (hP : Pay l R p e below s args Z EL n0 y 3 W as' h WL FL k n Qc) (hsize : Ls.size = c.maxLocals) (hlen : ∀ sig, parseMethodDescriptor y.desc = some sig → argsL.length = sig.parameters.length) (hst : st = argsL.reverse ++ .ref a :: rest) (has : (Value.ref a :: argsL).toArray = as') (hW : (rest.map fun v => v.category).sum ≤ W)
    (hd : decode c.code pc = .ok (.invokespecial index, 3)) (hc : cells + k ≤ R.cells) (hl : slots + n ≤ R.slots)
    (kk : ∀ T' h' v WL' FL', WS p l e R s m args below meth c Z EL n0 own T' h' (WL' ++ WL) (FL' ++ FL) (cells + k) (slots + n) → Qc v h' WL' FL' → Wo p e s below Z EL n0 WL0 FL0 rm Q T' (mkF m (pc + 3) Ls (v.toList ++ rest))) :
    Wo p e s below Z EL n0 WL0 FL0 rm Q T (mkF m pc Ls st) := by
  obtain ⟨vm0, k0, locs, X, eT, hS, hk, hZ, hown, N, I⟩ := X
  obtain ⟨v, vm₁, B, -, X', hS', hgr, ⟨L, WL', FL', q, N', q2, q3, q4, I'⟩, stp⟩ := X.specialBackS hx hi hown (mv hZ w1) (mv hZ w2) (mv hZ w4) hy (hP vm0 hZ I) (g := mkF m pc Ls st) rfl hsize (Steps.refl _) hlen hst (by show 2 * 0 + _ ≤ _; omega) hd (fun _ _ => ⟨has, eT, hc, hl⟩)
  exact Wo.by (fun t r => stp.trans r) (kk B.U _ v WL' FL' (WS.back hS (by rw [eT]; exact hk) hZ hown N X' hS' hgr N' q2 q3 q4 I') q)
theorem WS.callV {C : String} (X : WS p l e R s m args below meth c Z EL n0 own T h WL FL cells slots) (hx : p.tables.exec = Jvm.exec) (w1 : (Jvm.Cond.methodLink own index y).before a0 Z = true) (w2 : (Jvm.Cond.declares y).before a0 Z = true) (w3 : (Jvm.Cond.selects C y z).before a0 Z = true) (w4 : (Jvm.Cond.instanceMethod z).before a0 Z = true) (hf : ∀ vm0, Z.Warmed39 vm0 → NotFace (s.setVm vm0) y) (hy : y.cls ≠ "java/lang/invoke/MethodHandle" ∧ y.cls ≠ "java/lang/invoke/VarHandle")
    {a : Addr} (E : Exa Z h a C) (hP : Pay l R p e below s args Z EL n0 z 3 W as' h WL FL k n Qc) (hsize : Ls.size = c.maxLocals) (hlen : ∀ sig, parseMethodDescriptor y.desc = some sig → argsL.length = sig.parameters.length) (hst : st = argsL.reverse ++ .ref a :: rest) (has : (Value.ref a :: argsL).toArray = as') (hW : (rest.map fun v => v.category).sum ≤ W)
    (hd : decode c.code pc = .ok (.invokevirtual index, 3)) (hc : cells + k ≤ R.cells) (hl : slots + n ≤ R.slots)
    (kk : ∀ T' h' v WL' FL', WS p l e R s m args below meth c Z EL n0 own T' h' (WL' ++ WL) (FL' ++ FL) (cells + k) (slots + n) → Qc v h' WL' FL' → Wo p e s below Z EL n0 WL0 FL0 rm Q T' (mkF m (pc + 3) Ls (v.toList ++ rest))) :
    Wo p e s below Z EL n0 WL0 FL0 rm Q T (mkF m pc Ls st) := by
  obtain ⟨vm0, k0, locs, X, eT, hS, hk, hZ, hown, N, I⟩ := X
  obtain ⟨cB, kB, q0, q1, q5⟩ := isOf (s := s.setVm vm0) hZ eT E
  obtain ⟨v, vm₁, B, -, X', hS', hgr, ⟨L, WL', FL', q, N', q2, q3, q4, I'⟩, stp⟩ := X.virtualBackS hx hown (mv hZ w1) (mv hZ w2) (hf vm0 hZ) (mv hZ w3) (mv hZ w4) hy (hP vm0 hZ I) q0 q5 (g := mkF m pc Ls st) rfl hsize (Steps.refl _) hlen hst (by show 2 * 0 + _ ≤ _; omega) hd (fun _ _ => ⟨has, eT, hc, hl⟩)
  exact Wo.by (fun t r => stp.trans r) (kk B.U _ v WL' FL' (WS.back hS (by rw [eT]; exact hk) hZ hown N X' hS' hgr N' q2 q3 q4 I') q)
theorem WS.callI {C : String} {count : Nat} (X : WS p l e R s m args below meth c Z EL n0 own T h WL FL cells slots) (hx : p.tables.exec = Jvm.exec) (w1 : (Jvm.Cond.methodLink own index y).before a0 Z = true) (w2 : (Jvm.Cond.declares y).before a0 Z = true) (w2' : (Jvm.Cond.interfaceMethod y.cls y.cls y.name y.desc).before a0 Z = true) (w3 : (Jvm.Cond.selects C y z).before a0 Z = true) (w4 : (Jvm.Cond.instanceMethod z).before a0 Z = true)
    (w5 : (Jvm.Cond.publicMethod z).before a0 Z = true) (w6 : (Jvm.Cond.unhidden C y.name y.desc).before a0 Z = true) (w7 : (Jvm.Cond.castable C y.cls).before a0 Z = true) (hy : y.cls ≠ "java/lang/invoke/MethodHandle" ∧ y.cls ≠ "java/lang/invoke/VarHandle")
    {a : Addr} (E : Exa Z h a C) (hP : Pay l R p e below s args Z EL n0 z 5 W as' h WL FL k n Qc) (hsize : Ls.size = c.maxLocals) (hlen : ∀ sig, parseMethodDescriptor y.desc = some sig → argsL.length = sig.parameters.length) (hst : st = argsL.reverse ++ .ref a :: rest) (has : (Value.ref a :: argsL).toArray = as') (hW : (rest.map fun v => v.category).sum ≤ W)
    (hd : decode c.code pc = .ok (.invokeinterface index count, 5)) (hc : cells + k ≤ R.cells) (hl : slots + n ≤ R.slots)
    (kk : ∀ T' h' v WL' FL', WS p l e R s m args below meth c Z EL n0 own T' h' (WL' ++ WL) (FL' ++ FL) (cells + k) (slots + n) → Qc v h' WL' FL' → Wo p e s below Z EL n0 WL0 FL0 rm Q T' (mkF m (pc + 5) Ls (v.toList ++ rest))) :
    Wo p e s below Z EL n0 WL0 FL0 rm Q T (mkF m pc Ls st) := by
  obtain ⟨vm0, k0, locs, X, eT, hS, hk, hZ, hown, N, I⟩ := X
  obtain ⟨cB, kB, q0, q1, q5⟩ := isOf (s := s.setVm vm0) hZ eT E
  obtain ⟨v, vm₁, B, -, X', hS', hgr, ⟨L, WL', FL', q, N', q2, q3, q4, I'⟩, stp⟩ := X.interfaceBackS hx hown (mv hZ w1) (mv hZ w2) (mv hZ w2' (by simp [Cond.onTables, Cond.keepsFace, Cond.keeps, Cond.steady, Cond.faceAtom]; exact hy)) (mv hZ w3) (mv hZ w4) (mv hZ w5) (mv hZ w6) (mv hZ w7) hy (hP vm0 hZ I) q0 q1 q5 (g := mkF m pc Ls st) rfl hsize (Steps.refl _) hlen hst (by show 2 * 0 + _ ≤ _; omega) hd (fun _ _ => ⟨has, eT, hc, hl⟩)
  exact Wo.by (fun t r => stp.trans r) (kk B.U _ v WL' FL' (WS.back hS (by rw [eT]; exact hk) hZ hown N X' hS' hgr N' q2 q3 q4 I') q)
theorem declM (wi : (Jvm.Cond.instanceMethod y).before a0 Z = true) (wc : (Jvm.Cond.code y bytes maxL ret).before a0 Z = true) : (Jvm.Cond.declares y).before a0 Z = true := by
  obtain ⟨mk, me, hn, hm, hst, -⟩ := Cond.instanceMethod_spec wi
  obtain ⟨me', c', q1, -, -, -, -, -, -, hsig⟩ := Cond.code_spec hn wc
  cases hm.symm.trans q1
  simp [Cond.before, Cond.holds, Cond.value, hn, hm, hst, hsig]
theorem faceO {y' : MethodName} {C : String} (ws : (Jvm.Cond.selects C y' y').before a0 Z = true) (e : y'.cls = y.cls) : NotFace Z y := fun r0 h0 => by
  obtain ⟨c2, r2, m2, q1, q2, q3, q4, kP, hkP, hkPi⟩ := Cond.selects_spec ws
  have e1 := findClass_of_methodNamed q3
  have e2 := findClass_of_methodNamed h0
  rw [e] at e1
  have e3 := Option.some.inj (e1.symm.trans e2)
  exact ⟨kP, by rw [← e3]; exact hkP, hkPi⟩
theorem nfO {vm0 : Vm} {y' : MethodName} {C : String} (hZ : Z.Warmed39 vm0) (w : (Jvm.Cond.selects C y' y').before a0 Z = true) (e : y'.cls = y.cls) : NotFace (s.setVm vm0) y := faceO (a0 := #[]) (mv (s := s.setVm vm0) hZ w) e
theorem nfS {vm0 : Vm} {S : String} (hZ : Z.Warmed39 vm0) (w : (Jvm.Cond.superclass y.cls S).before a0 Z = true) : NotFace (s.setVm vm0) y := nf_super (args := #[]) (mv (s := s.setVm vm0) hZ w)
theorem sameM {y' : MethodName} {C : String} (hy : y.cls ≠ "java/lang/invoke/MethodHandle" ∧ y.cls ≠ "java/lang/invoke/VarHandle") (wi : (Jvm.Cond.instanceMethod y).before a0 Z = true) (ws : (Jvm.Cond.selects C y' y').before a0 Z = true) (e : y'.cls = y.cls) : (Jvm.Cond.sameMethod y.cls y.cls y.name y.desc).before a0 Z = true := by
  obtain ⟨mk, me, hn, hm, hst, -⟩ := Cond.instanceMethod_spec wi
  have hf := State.methodFound?_of_named hn hy
  have hc := findClass_of_methodNamed hn
  obtain ⟨kr, hkr, hni⟩ := faceO (y := y) ws e mk hn
  have hn' : Z.methodNamed? ⟨y.cls, y.name, y.desc⟩ = some mk := hn
  simp [Cond.before, Cond.holds, Cond.value, hc, hf, hn', hkr, hni]
theorem WS.callU {C K : String} {y' : MethodName} (X : WS p l e R s m args below meth c Z EL n0 own T h WL FL cells slots) (hx : p.tables.exec = Jvm.exec) (w1 : (Jvm.Cond.methodLink own index y).before a0 Z = true) (w2 : (Jvm.Cond.instanceMethod y).before a0 Z = true) (w3 : (Jvm.Cond.superclass own y.cls).before a0 Z = true) (w4 : (Jvm.Cond.code y bytes maxL ret).before a0 Z = true) (w5 : (Jvm.Cond.selects C y' y').before a0 Z = true) (e5 : y'.cls = y.cls) (hi : y.name ≠ "<init>") (hy : y.cls ≠ "java/lang/invoke/MethodHandle" ∧ y.cls ≠ "java/lang/invoke/VarHandle")
    {a : Addr} (F : Ins Z h a K true) (hP : Pay l R p e below s args Z EL n0 y 3 W as' h WL FL k n Qc) (hsize : Ls.size = c.maxLocals) (hlen : ∀ sig, parseMethodDescriptor y.desc = some sig → argsL.length = sig.parameters.length) (hst : st = argsL.reverse ++ .ref a :: rest) (has : (Value.ref a :: argsL).toArray = as') (hW : (rest.map fun v => v.category).sum ≤ W)
    (hd : decode c.code pc = .ok (.invokespecial index, 3)) (hc : cells + k ≤ R.cells) (hl : slots + n ≤ R.slots)
    (kk : ∀ T' h' v WL' FL', WS p l e R s m args below meth c Z EL n0 own T' h' (WL' ++ WL) (FL' ++ FL) (cells + k) (slots + n) → Qc v h' WL' FL' → Wo p e s below Z EL n0 WL0 FL0 rm Q T' (mkF m (pc + 3) Ls (v.toList ++ rest))) :
    Wo p e s below Z EL n0 WL0 FL0 rm Q T (mkF m pc Ls st) := by
  obtain ⟨vm0, k0, locs, X, eT, hS, hk, hZ, hown, N, I⟩ := X
  obtain ⟨v, vm₁, B, -, X', hS', hgr, ⟨L, WL', FL', q, N', q2, q3, q4, I'⟩, stp⟩ := superBackS X hx hZ hown w1 (sameM hy w2 w5 e5) w2 w3 hi (hP vm0 hZ I) eT F (g := mkF m pc Ls st) rfl hsize w4 hlen hst (by show 2 * 0 + _ ≤ _; omega) hd (fun _ _ => ⟨has, eT, hc, hl⟩)
  exact Wo.by (fun t r => stp.trans r) (kk B.U _ v WL' FL' (WS.back hS (by rw [eT]; exact hk) hZ hown N X' hS' hgr N' q2 q3 q4 I') q)
theorem nf {vm0 : Vm} {C : String} (hZ : Z.Warmed39 vm0) (w : (Jvm.Cond.selects C y y).before a0 Z = true) : NotFace (s.setVm vm0) y := notFace_of_selects (args := #[]) (mv (s := s.setVm vm0) hZ w)
end Walk
end Wd
end Jvm.Pilot.@@N@@
/- laws to paste: Road.backV, Road.lenW, Road.codOf (cut by pick.py; bodies as the Statement names them) -/
namespace Jvm.Pilot.@@N@@
namespace StrChars
open Jvm Sem ClassFile Op Lib Jvm.Stand Jvm.Free.XT Jvm.Free.ALB Jvm.Free.JM Jvm.Free
open Jvm.Lib.Cold (StaticIs)
/-- a char array whose places are chars -/
def Ch (a : Addr) (A : Cell) (U : State) : Prop := Arr .char a A U ∧ Typed .char A
theorem Ch.mv {a : Addr} {A : Cell} {U U' : State} (h : Ch a A U) (hal : U.vm.Alike U'.vm) (hh : U'.heap = U.heap) : Ch a A U' := ⟨h.1.mv hal hh, h.2⟩
theorem Ch.keep {a : Addr} {A : Cell} {U U' : State} (h : Ch a A U) (hal : U.vm.Alike U'.vm) (hk : U'.heap[a]? = some A) : Ch a A U' := ⟨h.1.keep hal hk, h.2⟩
/-- what place i of a char[]'s cell holds -/
def cv (A : Cell) (i : Nat) : Int32 := match A.slots[i]? with | some (.int x) => x | _ => 0
theorem Ch.get {a : Addr} {A : Cell} {U : State} (h : Ch a A U) {i : Nat} (hi : i < A.slots.size) : A.slots[i]? = some (.int (cv A i)) := by
  have e := Array.getElem?_eq_getElem hi
  have f := h.2 i _ e
  unfold cv; rw [e]
  generalize A.slots[i] = v at f
  cases v <;> simp [fits] at f ⊢
/-- the byte that i2b leaves of a char -/
def lo8 (x : Int32) : Int32 := x.toInt8.toInt32
theorem fits_lo8 (y : Int32) : fits .byte (.int (lo8 y)) = true := by
  have h1 := y.toInt8.le_toInt
  have h2 := y.toInt8.toInt_lt
  simp only [lo8, fits, Bool.and_eq_true, decide_eq_true_eq, Int32.le_iff_toInt_le, Int8.toInt_toInt32, show (-128 : Int32).toInt = -128 from by decide, show (127 : Int32).toInt = 127 from by decide]
  omega
/-- A' is A but that each place j of lo .. hi - 1 holds f j -/
def Laid (A A' : Cell) (lo hi : Nat) (f : Nat → Value) : Prop := A'.cls = A.cls ∧ A'.vm = A.vm ∧ A'.slots.size = A.slots.size ∧ ∀ i, A'.slots[i]? = if lo ≤ i ∧ i < hi then some (f i) else A.slots[i]?
theorem Laid.zero (A : Cell) (lo : Nat) (f : Nat → Value) : Laid A A lo (lo + 0) f := ⟨rfl, rfl, rfl, fun i => by rw [if_neg (by omega)]⟩
theorem Laid.step {A Ak : Cell} {lo k : Nat} {f : Nat → Value} {v : Value} (h : Laid A Ak lo k f) (hlo : lo ≤ k) (hk : k < Ak.slots.size) (hv : v = f k) : Laid A (Ak.setSlot k v) lo (k + 1) f := by
  refine ⟨h.1, h.2.1, by simpa [Cell.setSlot] using h.2.2.1, fun i => ?_⟩
  by_cases e : k = i
  · subst e; rw [Cell.slots_setSlot_self v hk, if_pos (by omega), hv]
  · rw [Cell.slots_setSlot_ne v e, h.2.2.2 i]
    by_cases q : lo ≤ i ∧ i < k
    · rw [if_pos q, if_pos (by omega)]
    · rw [if_neg q, if_neg (by omega)]
def U16 : String := "java/lang/StringUTF16"
namespace Cmp5
def yN : MethodName := ⟨"java/lang/StringUTF16", "compress", "([CI[BII)I"⟩
abbrev yB : ByteArray := jdk_52_method_21_code
theorem d0 : decode yB 0 = .ok (.iconst 0, 1) := by decide +kernel
theorem d1 : decode yB 1 = .ok (.istore 5, 2) := by decide +kernel
theorem d3 : decode yB 3 = .ok (.iload 5, 2) := by decide +kernel
theorem d5 : decode yB 5 = .ok (.iload 4, 2) := by decide +kernel
theorem d7 : decode yB 7 = .ok (.if_icmp (.ge) 37, 3) := by decide +kernel
theorem d10 : decode yB 10 = .ok (.aload_n 0, 1) := by decide +kernel
theorem d11 : decode yB 11 = .ok (.iload_n 1, 1) := by decide +kernel
theorem d12 : decode yB 12 = .ok (.caload, 1) := by decide +kernel
theorem d13 : decode yB 13 = .ok (.istore 6, 2) := by decide +kernel
theorem d15 : decode yB 15 = .ok (.iload 6, 2) := by decide +kernel
theorem d17 : decode yB 17 = .ok (.sipush 255, 3) := by decide +kernel
theorem d20 : decode yB 20 = .ok (.if_icmp (.le) 6, 3) := by decide +kernel
theorem d26 : decode yB 26 = .ok (.aload_n 2, 1) := by decide +kernel
theorem d27 : decode yB 27 = .ok (.iload_n 3, 1) := by decide +kernel
theorem d28 : decode yB 28 = .ok (.iload 6, 2) := by decide +kernel
theorem d30 : decode yB 30 = .ok (.i2b, 1) := by decide +kernel
theorem d31 : decode yB 31 = .ok (.bastore, 1) := by decide +kernel
theorem d32 : decode yB 32 = .ok (.iinc 1 1, 3) := by decide +kernel
theorem d35 : decode yB 35 = .ok (.iinc 3 1, 3) := by decide +kernel
theorem d38 : decode yB 38 = .ok (.iinc 5 1, 3) := by decide +kernel
theorem d41 : decode yB 41 = .ok (.goto (-38), 3) := by decide +kernel
theorem d44 : decode yB 44 = .ok (.iload 4, 2) := by decide +kernel
theorem d46 : decode yB 46 = .ok (.ireturn, 1) := by decide +kernel
def site : List Cond := []
def tab : Cond := tabOf yN yB 7 (some .int) site
def P (b : Addr) (A : Cell) (d : Addr) (B : Cell) (o q len : Nat) (args : Array Value) (s : State) : Prop := args = #[.ref b, .int (Int32.ofNat o), .ref d, .int (Int32.ofNat q), .int (Int32.ofNat len)] ∧ Ch b A s ∧ Arr .byte d B s ∧ b ≠ d ∧ o + len ≤ A.slots.size ∧ q + len ≤ B.slots.size ∧ ∀ i, i < len → ¬ 255 < cv A (o + i)
def E (b : Addr) (A : Cell) (d : Addr) (B : Cell) (o q len : Nat) (r : Option Value) (s u : State) : Prop := r = some (.int (Int32.ofNat len)) ∧ ∃ B', Put d B' s u ∧ Laid B B' q (q + len) (fun j => Value.int (lo8 (cv A (o + (j - q)))))
/-- no char of the range above 255: len; the places written hold each char's low byte -/
theorem law (l : Launch) (b : Addr) (A : Cell) (d : Addr) (B : Cell) (o q len : Nat) : Law l yN 5 5 0 0 yB 7 (some .int) site (P b A d B o q len) (E b A d B o q len) (copyLocs d q len) 0 0 := by
  refine Law.of_walk (plainFor_of_name (by decide +kernel)) (by decide +kernel) (by decide +kernel) (by decide) (fun _ _ h => by rw [h.1]; rfl) (fun _ U U' hal hh h => ⟨h.1, h.2.1.mv hal hh, h.2.2.1.mv hal hh, h.2.2.2⟩) (fun r U U' V V' h1 hal h2 h => ⟨h.1, h.2.elim fun B' q => ⟨B', q.1.mv h1 h2, q.2⟩⟩) ?_
  intro p e s m args below meth c s₁ X0 hexec hbytes hml hret hlk hnm hown hh0 W hP
  obtain ⟨rfl, hA, hB, hne, l1, l2, hp⟩ := hP
  have c1 : Steps p.tables e below (s₁.setTop (entryFrame m #[.ref b, .int (Int32.ofNat o), .ref d, .int (Int32.ofNat q), .int (Int32.ofNat len)] 7)) (s₁.setTop (mkF m 0 #[.val (.ref b), .val (.int (Int32.ofNat o)), .val (.ref d), .val (.int (Int32.ofNat q)), .val (.int (Int32.ofNat len)), .unset, .unset] [])) := entry rfl
  have hA0 := hA.1.mv X0.warmed.alike hh0
  have hB0 := hB.mv X0.warmed.alike hh0
  have a31 := hA.1.2.2.2
  have c2 : Steps p.tables e below (s₁.setTop (entryFrame m #[.ref b, .int (Int32.ofNat o), .ref d, .int (Int32.ofNat q), .int (Int32.ofNat len)] 7)) (s₁.setTop (mkF m 3 #[.val (.ref b), .val (.int (Int32.ofNat o)), .val (.ref d), .val (.int (Int32.ofNat q)), .val (.int (Int32.ofNat len)), .val (.int 0), .unset] [])) := c1.trans (by
    refine iconstV X0.here hexec rfl 0 (hb hbytes d0) (by decide) ?_
    refine XS.istore X0.here hexec rfl (hb hbytes d1) rfl rfl ?_
    exact Steps.refl _)
  have loop : ∀ (r i : Nat), i + r = len → ∀ (z : Slot), (z = .unset ∨ ∃ w, z = .val w ∧ w.category = 1) → ∀ (Tl : State) (Bk : Cell), Stand p l e { frames := 0, locals := 0, cells := 0, slots := 0 } s m #[.ref b, .int (Int32.ofNat o), .ref d, .int (Int32.ofNat q), .int (Int32.ofNat len)] below meth c Tl ([] ++ copyLocs d q i) 0 0 → Put d Bk s₁ Tl → Laid B Bk q (q + i) (fun j => Value.int (lo8 (cv A (o + (j - q))))) →
      Steps p.tables e below (s₁.setTop (entryFrame m #[.ref b, .int (Int32.ofNat o), .ref d, .int (Int32.ofNat q), .int (Int32.ofNat len)] 7)) (Tl.setTop (mkF m 3 #[.val (.ref b), .val (.int (Int32.ofNat (o + i))), .val (.ref d), .val (.int (Int32.ofNat (q + i))), .val (.int (Int32.ofNat len)), .val (.int (Int32.ofNat i)), z] [])) → ∃ (T' : State) (B' : Cell) (z' : Slot), Stand p l e { frames := 0, locals := 0, cells := 0, slots := 0 } s m #[.ref b, .int (Int32.ofNat o), .ref d, .int (Int32.ofNat q), .int (Int32.ofNat len)] below meth c T' ([] ++ copyLocs d q len) 0 0 ∧ Put d B' s₁ T' ∧ Laid B B' q (q + len) (fun j => Value.int (lo8 (cv A (o + (j - q))))) ∧
      Steps p.tables e below (s₁.setTop (entryFrame m #[.ref b, .int (Int32.ofNat o), .ref d, .int (Int32.ofNat q), .int (Int32.ofNat len)] 7)) (T'.setTop (mkF m 3 #[.val (.ref b), .val (.int (Int32.ofNat (o + len))), .val (.ref d), .val (.int (Int32.ofNat (q + len))), .val (.int (Int32.ofNat len)), .val (.int (Int32.ofNat len)), z'] [])) := by
    intro r
    induction r with
    | zero =>
      intro i hi z hz Tl Bk Xl pl fl cl
      have hil : i = len := by omega
      rw [hil] at Xl fl cl
      exact ⟨Tl, Bk, z, Xl, pl, fl, cl⟩
    | succ r ih =>
      intro i hi z hz Tl Bk Xl pl fl cl
      have all := X0.warmed.alike.symm.trans Xl.warmed.alike
      have hAl := hA0.keep all (pl.other hne hA0.1)
      have hBk := hB0.like all pl.1 fl.1 fl.2.1 fl.2.2.1
      have hlt : q + i < Bk.slots.size := by rw [fl.2.2.1]; omega
      have c3 : Steps p.tables e below (s₁.setTop (entryFrame m #[.ref b, .int (Int32.ofNat o), .ref d, .int (Int32.ofNat q), .int (Int32.ofNat len)] 7)) (Tl.setTop (mkF m 12 #[.val (.ref b), .val (.int (Int32.ofNat (o + i))), .val (.ref d), .val (.int (Int32.ofNat (q + i))), .val (.int (Int32.ofNat len)), .val (.int (Int32.ofNat i)), z] [.int (Int32.ofNat (o + i)), .ref b])) := cl.trans (by
        refine XS.iload Xl.here hexec rfl (hb hbytes d3) rfl ?_
        refine XS.iload Xl.here hexec rfl (hb hbytes d5) rfl ?_
        refine XS.icmpNo Xl.here hexec rfl (hb hbytes d7) rfl (ii_ge_f (lt32 (by omega) (by omega))) ?_
        refine XS.aloadN Xl.here hexec rfl (hb hbytes d10) rfl rfl ?_
        refine XS.iloadN Xl.here hexec rfl (hb hbytes d11) rfl ?_
        exact Steps.refl _)
      have c4 : Steps p.tables e below (s₁.setTop (entryFrame m #[.ref b, .int (Int32.ofNat o), .ref d, .int (Int32.ofNat q), .int (Int32.ofNat len)] 7)) (Tl.setTop (mkF m 13 #[.val (.ref b), .val (.int (Int32.ofNat (o + i))), .val (.ref d), .val (.int (Int32.ofNat (q + i))), .val (.int (Int32.ofNat len)), .val (.int (Int32.ofNat i)), z] [.int (cv A (o + i))])) := c3.trans (by
        refine Xl.aget hexec hAl rfl (hA.get (i := o + i) (by omega)) rfl rfl (hb hbytes d12) ?_
        exact Steps.refl _)
      have c5 : Steps p.tables e below (s₁.setTop (entryFrame m #[.ref b, .int (Int32.ofNat o), .ref d, .int (Int32.ofNat q), .int (Int32.ofNat len)] 7)) (Tl.setTop (mkF m 15 #[.val (.ref b), .val (.int (Int32.ofNat (o + i))), .val (.ref d), .val (.int (Int32.ofNat (q + i))), .val (.int (Int32.ofNat len)), .val (.int (Int32.ofNat i)), .val (.int (cv A (o + i)))] [])) := c4.trans (by
        refine XS.istoreS Xl.here hexec rfl (hb hbytes d13) rfl rfl hz ?_
        exact Steps.refl _)
      have c6 : Steps p.tables e below (s₁.setTop (entryFrame m #[.ref b, .int (Int32.ofNat o), .ref d, .int (Int32.ofNat q), .int (Int32.ofNat len)] 7)) (Tl.setTop (mkF m 31 #[.val (.ref b), .val (.int (Int32.ofNat (o + i))), .val (.ref d), .val (.int (Int32.ofNat (q + i))), .val (.int (Int32.ofNat len)), .val (.int (Int32.ofNat i)), .val (.int (cv A (o + i)))] [.int (lo8 (cv A (o + i))), .int (Int32.ofNat (q + i)), .ref d])) := c5.trans (by
        refine XS.iload Xl.here hexec rfl (hb hbytes d15) rfl ?_
        refine sipushV Xl.here hexec rfl 255 (hb hbytes d17) (by decide) ?_
        refine XS.icmpYes Xl.here hexec rfl (pc0 := 20) rfl (hb hbytes d20) rfl (ii_le_t (hp i (by omega))) (by decide) rfl ?_
        refine XS.aloadN Xl.here hexec rfl (hb hbytes d26) rfl rfl ?_
        refine XS.iloadN Xl.here hexec rfl (hb hbytes d27) rfl ?_
        refine XS.iload Xl.here hexec rfl (hb hbytes d28) rfl ?_
        refine i2b Xl.here hexec rfl (hb hbytes d30) rfl ?_
        exact Steps.refl _)
      obtain ⟨T7, X7, p7, st7⟩ := Xl.aput hexec hBk rfl hlt rfl (fits_lo8 (cv A (o + i))) (g := (mkF m 31 #[.val (.ref b), .val (.int (Int32.ofNat (o + i))), .val (.ref d), .val (.int (Int32.ofNat (q + i))), .val (.int (Int32.ofNat len)), .val (.int (Int32.ofNat i)), .val (.int (cv A (o + i)))] [.int (lo8 (cv A (o + i))), .int (Int32.ofNat (q + i)), .ref d])) rfl (rest := []) rfl (hb hbytes d31)
      have c8 : Steps p.tables e below (s₁.setTop (entryFrame m #[.ref b, .int (Int32.ofNat o), .ref d, .int (Int32.ofNat q), .int (Int32.ofNat len)] 7)) (T7.setTop (mkF m 32 #[.val (.ref b), .val (.int (Int32.ofNat (o + i))), .val (.ref d), .val (.int (Int32.ofNat (q + i))), .val (.int (Int32.ofNat len)), .val (.int (Int32.ofNat i)), .val (.int (cv A (o + i)))] [])) := c6.trans (st7 _ (Steps.refl _))
      have c9 : Steps p.tables e below (s₁.setTop (entryFrame m #[.ref b, .int (Int32.ofNat o), .ref d, .int (Int32.ofNat q), .int (Int32.ofNat len)] 7)) (T7.setTop (mkF m 3 #[.val (.ref b), .val (.int (Int32.ofNat (o + i) + 1)), .val (.ref d), .val (.int (Int32.ofNat (q + i) + 1)), .val (.int (Int32.ofNat len)), .val (.int (Int32.ofNat i + 1)), .val (.int (cv A (o + i)))] [])) := c8.trans (by
        refine iincV X7.here hexec rfl 1 (hb hbytes d32) (by decide) rfl rfl ?_
        refine iincV X7.here hexec rfl 1 (hb hbytes d35) (by decide) rfl rfl ?_
        refine iincV X7.here hexec rfl 1 (hb hbytes d38) (by decide) rfl rfl ?_
        refine XS.goto X7.here hexec rfl (pc0 := 41) rfl (hb hbytes d41) (by decide) rfl ?_
        exact Steps.refl _)
      have c10 : Steps p.tables e below (s₁.setTop (entryFrame m #[.ref b, .int (Int32.ofNat o), .ref d, .int (Int32.ofNat q), .int (Int32.ofNat len)] 7)) (T7.setTop (mkF m 3 #[.val (.ref b), .val (.int (Int32.ofNat (o + (i + 1)))), .val (.ref d), .val (.int (Int32.ofNat (q + (i + 1)))), .val (.int (Int32.ofNat len)), .val (.int (Int32.ofNat (i + 1))), .val (.int (cv A (o + i)))] [])) := by
        have := c9
        rw [succ32, succ32, succ32] at this
        exact this
      exact ih (i + 1) (by omega) _ (Or.inr ⟨_, rfl, rfl⟩) T7 _ (by rw [copyLocs_step, ← List.append_assoc]; exact X7) (pl.trans p7) (fl.step (by omega) hlt (by simp)) c10
  obtain ⟨T9, B9, z9, X9, p9, f9, g9⟩ := loop len 0 (by omega) .unset (Or.inl rfl) s₁ B (by simpa [copyLocs] using X0) ⟨hB0.1, fun _ _ => rfl, rfl⟩ (Laid.zero _ _ _) c2
  have c11 : Steps p.tables e below (s₁.setTop (entryFrame m #[.ref b, .int (Int32.ofNat o), .ref d, .int (Int32.ofNat q), .int (Int32.ofNat len)] 7)) (T9.setTop (mkF m 46 #[.val (.ref b), .val (.int (Int32.ofNat (o + len))), .val (.ref d), .val (.int (Int32.ofNat (q + len))), .val (.int (Int32.ofNat len)), .val (.int (Int32.ofNat len)), z9] [.int (Int32.ofNat len)])) := g9.trans (by
    refine XS.iload X9.here hexec rfl (hb hbytes d3) rfl ?_
    refine XS.iload X9.here hexec rfl (hb hbytes d5) rfl ?_
    refine XS.icmpYes X9.here hexec rfl (pc0 := 7) rfl (hb hbytes d7) rfl (ii_ge_t (nlt32 (by omega) (Nat.le_refl _))) (by decide) rfl ?_
    refine XS.iload X9.here hexec rfl (hb hbytes d44) rfl ?_
    exact Steps.refl _)
  exact ⟨T9, some (.int (Int32.ofNat len)), _, _, _, X9, by simp, rfl, rfl, (fun h => by cases h), ⟨rfl, B9, p9.from hh0, f9⟩, fun fs hl => c11.trans (X9.ireturnOut hexec hret rfl (Or.inl rfl) (hb hbytes d46) hl)⟩
end Cmp5
namespace Cmp3
def yN : MethodName := ⟨"java/lang/StringUTF16", "compress", "([CII)[B"⟩
abbrev yB : ByteArray := jdk_52_method_16_code
theorem d0 : decode yB 0 = .ok (.iload_n 2, 1) := by decide +kernel
theorem d1 : decode yB 1 = .ok (.newarray .byte, 2) := by decide +kernel
theorem d3 : decode yB 3 = .ok (.astore_n 3, 1) := by decide +kernel
theorem d4 : decode yB 4 = .ok (.aload_n 0, 1) := by decide +kernel
theorem d5 : decode yB 5 = .ok (.iload_n 1, 1) := by decide +kernel
theorem d6 : decode yB 6 = .ok (.aload_n 3, 1) := by decide +kernel
theorem d7 : decode yB 7 = .ok (.iconst 0, 1) := by decide +kernel
theorem d8 : decode yB 8 = .ok (.iload_n 2, 1) := by decide +kernel
theorem d9 : decode yB 9 = .ok (.invokestatic 115, 3) := by decide +kernel
theorem d12 : decode yB 12 = .ok (.istore 4, 2) := by decide +kernel
theorem d14 : decode yB 14 = .ok (.iload 4, 2) := by decide +kernel
theorem d16 : decode yB 16 = .ok (.iload_n 2, 1) := by decide +kernel
theorem d17 : decode yB 17 = .ok (.if_icmp (.eq) 40, 3) := by decide +kernel
theorem d57 : decode yB 57 = .ok (.aload_n 3, 1) := by decide +kernel
theorem d58 : decode yB 58 = .ok (.areturn, 1) := by decide +kernel
def site : List Cond := [.arrayClass .byte, Cmp5.tab] ++ staticW U16 115 Cmp5.yN
def tab : Cond := tabOf yN yB 6 (some (.array .byte)) site
def P (b : Addr) (A : Cell) (o len : Nat) (args : Array Value) (s : State) : Prop := args = #[.ref b, .int (Int32.ofNat o), .int (Int32.ofNat len)] ∧ Ch b A s ∧ o + len ≤ A.slots.size ∧ len ≤ 536870912 ∧ ∀ i, i < len → ¬ 255 < cv A (o + i)
def E (b : Addr) (A : Cell) (o len : Nat) (r : Option Value) (s u : State) : Prop := NewArr .byte "[B" len (fun j => .int (lo8 (cv A (o + j)))) r s u ∧ u.heap.size = s.heap.size + 1
/-- no char of the range above 255: a new byte[] of their low bytes -/
theorem law (l : Launch) (b : Addr) (A : Cell) (o len : Nat) : Law l yN 3 3 1 18 yB 6 (some (.array .byte)) site (P b A o len) (E b A o len) [] 1 len := by
  refine Law.of_walk (plainFor_of_name (by decide +kernel)) (by decide +kernel) (by decide +kernel) (by decide) (fun _ _ h => by rw [h.1]; rfl) (fun _ U U' hal hh h => ⟨h.1, h.2.1.mv hal hh, h.2.2⟩) (fun r U U' V V' h1 hal h2 h => ⟨NewArr.mv r U U' V V' h1 hal h2 h.1, by rw [h1, h2]; exact h.2⟩) ?_
  intro p e s m args below meth c s₁ X0 hexec hbytes hml hret hlk hnm hown hh0 W hP
  obtain ⟨rfl, hA, l1, l2, hp⟩ := hP
  have a31 := hA.1.2.2.2
  have c1 : Steps p.tables e below (s₁.setTop (entryFrame m #[.ref b, .int (Int32.ofNat o), .int (Int32.ofNat len)] 6)) (s₁.setTop (mkF m 0 #[.val (.ref b), .val (.int (Int32.ofNat o)), .val (.int (Int32.ofNat len)), .unset, .unset, .unset] [])) := entry rfl
  have c2 : Steps p.tables e below (s₁.setTop (entryFrame m #[.ref b, .int (Int32.ofNat o), .int (Int32.ofNat len)] 6)) (s₁.setTop (mkF m 1 #[.val (.ref b), .val (.int (Int32.ofNat o)), .val (.int (Int32.ofNat len)), .unset, .unset, .unset] [.int (Int32.ofNat len)])) := c1.trans (by
    refine XS.iloadN X0.here hexec rfl (hb hbytes d0) rfl ?_
    exact Steps.refl _)
  obtain ⟨T3, B3, X3, ba3, bs3, bv3, bh3, bf3, st3⟩ := X0.anew hexec (atype := .byte) (wk W (.arrayClass .byte)) rfl (by show len * 1 ≤ _; omega) (by omega) (g := (mkF m 1 #[.val (.ref b), .val (.int (Int32.ofNat o)), .val (.int (Int32.ofNat len)), .unset, .unset, .unset] [.int (Int32.ofNat len)])) rfl (hb hbytes d1) (rest := []) rfl (Nat.le_refl _) (by show 0 + len ≤ len; omega)
  rw [hh0] at ba3 st3
  have kp3 : XT.Kept s T3 := (XT.Kept.of_eq hh0).push bh3
  have hA3 := hA.keep X3.warmed.alike (kp3 _ _ hA.1.1)
  have hne : b ≠ s.heap.size := hA.1.ne
  have c4 : Steps p.tables e below (s₁.setTop (entryFrame m #[.ref b, .int (Int32.ofNat o), .int (Int32.ofNat len)] 6)) (T3.setTop (mkF m 3 #[.val (.ref b), .val (.int (Int32.ofNat o)), .val (.int (Int32.ofNat len)), .unset, .unset, .unset] [.ref s.heap.size])) := c2.trans (st3 _ (Steps.refl _))
  have c5 : Steps p.tables e below (s₁.setTop (entryFrame m #[.ref b, .int (Int32.ofNat o), .int (Int32.ofNat len)] 6)) (T3.setTop (mkF m 9 #[.val (.ref b), .val (.int (Int32.ofNat o)), .val (.int (Int32.ofNat len)), .val (.ref s.heap.size), .unset, .unset] [.int (Int32.ofNat len), .int 0, .ref s.heap.size, .int (Int32.ofNat o), .ref b])) := c4.trans (by
    refine XS.astoreN X3.here hexec rfl (hb hbytes d3) rfl rfl rfl ?_
    refine XS.aloadN X3.here hexec rfl (hb hbytes d4) rfl rfl ?_
    refine XS.iloadN X3.here hexec rfl (hb hbytes d5) rfl ?_
    refine XS.aloadN X3.here hexec rfl (hb hbytes d6) rfl rfl ?_
    refine iconstV X3.here hexec rfl 0 (hb hbytes d7) (by decide) ?_
    refine XS.iloadN X3.here hexec rfl (hb hbytes d8) rfl ?_
    exact Steps.refl _)
  obtain ⟨v6, T6, X6, E6, g6⟩ := X3.callS hexec (Cmp5.law l b A s.heap.size B3 o 0 len) hown (wks W (staticW U16 115 Cmp5.yN)) (wk W Cmp5.tab) (W := 0) (Nat.le_of_ble_eq_true rfl) (Nat.le_of_ble_eq_true rfl) (Nat.le_refl _) (by show 0 + len + 0 ≤ len; omega) (g := (mkF m 9 #[.val (.ref b), .val (.int (Int32.ofNat o)), .val (.int (Int32.ofNat len)), .val (.ref s.heap.size), .unset, .unset] [.int (Int32.ofNat len), .int (Int32.ofNat 0), .ref s.heap.size, .int (Int32.ofNat o), .ref b])) rfl (by rw [hml]; rfl) c5 (argsL := [.ref b, .int (Int32.ofNat o), .ref s.heap.size, .int (Int32.ofNat 0), .int (Int32.ofNat len)]) (rest := []) rfl rfl (by show 2 * 0 + 0 ≤ _; decide) (hb hbytes d9) (⟨rfl, hA3, ba3, hne, l1, by rw [bs3]; simp, hp⟩)
  obtain ⟨rfl, B6, p6, f6⟩ := E6
  have c7 : Steps p.tables e below (s₁.setTop (entryFrame m #[.ref b, .int (Int32.ofNat o), .int (Int32.ofNat len)] 6)) (T6.setTop (mkF m 12 #[.val (.ref b), .val (.int (Int32.ofNat o)), .val (.int (Int32.ofNat len)), .val (.ref s.heap.size), .unset, .unset] [.int (Int32.ofNat len)])) := g6
  have c8 : Steps p.tables e below (s₁.setTop (entryFrame m #[.ref b, .int (Int32.ofNat o), .int (Int32.ofNat len)] 6)) (T6.setTop (mkF m 58 #[.val (.ref b), .val (.int (Int32.ofNat o)), .val (.int (Int32.ofNat len)), .val (.ref s.heap.size), .val (.int (Int32.ofNat len)), .unset] [.ref s.heap.size])) := c7.trans (by
    refine XS.istore X6.here hexec rfl (hb hbytes d12) rfl rfl ?_
    refine XS.iload X6.here hexec rfl (hb hbytes d14) rfl ?_
    refine XS.iloadN X6.here hexec rfl (hb hbytes d16) rfl ?_
    refine XS.icmpYes X6.here hexec rfl (pc0 := 17) rfl (hb hbytes d17) rfl (ii_eq_t rfl) (by decide) rfl ?_
    refine XS.aloadN X6.here hexec rfl (hb hbytes d57) rfl rfl ?_
    exact Steps.refl _)
  have X8 := X6.wide (L' := []) (cells' := 1) (slots' := len) (fun x hx hlt => by
    simp only [List.nil_append, copyLocs, List.mem_map, List.mem_range] at hx
    obtain ⟨i, -, rfl⟩ := hx
    exact absurd hlt (Nat.lt_irrefl _)) (Nat.le_refl _) (by omega)
  exact ⟨T6, some (.ref s.heap.size), _, _, _, X8, rfl, rfl, rfl, (fun h => by cases h), ⟨⟨rfl, B6, ba3.like (X3.warmed.alike.symm.trans X6.warmed.alike) p6.1 f6.1 f6.2.1 f6.2.2.1, f6.2.1.trans bv3, by rw [X6.warmed.alike.findClass, f6.1]; exact bf3, by rw [f6.2.2.1, bs3]; simp, fun j hj => by rw [f6.2.2.2 j, if_pos (by omega)]; rfl, kp3.put p6 (Nat.le_refl _)⟩, by rw [p6.2.2, bh3, hh0]; simp⟩, fun fs hl => c8.trans (X8.areturnOut hexec rfl hret rfl (hb hbytes d58) hl)⟩
end Cmp3
namespace CodL
def yN : MethodName := ⟨"java/lang/StringUTF16", "coderFromArrayLen", "([BI)B"⟩
abbrev yB : ByteArray := jdk_52_method_15_code
theorem d0 : decode yB 0 = .ok (.iload_n 1, 1) := by decide +kernel
theorem d1 : decode yB 1 = .ok (.aload_n 0, 1) := by decide +kernel
theorem d2 : decode yB 2 = .ok (.arraylength, 1) := by decide +kernel
theorem d3 : decode yB 3 = .ok (.isub, 1) := by decide +kernel
theorem d4 : decode yB 4 = .ok (.bipush 31, 2) := by decide +kernel
theorem d6 : decode yB 6 = .ok (.iushr, 1) := by decide +kernel
theorem d7 : decode yB 7 = .ok (.i2b, 1) := by decide +kernel
theorem d8 : decode yB 8 = .ok (.ireturn, 1) := by decide +kernel
def site : List Cond := []
def tab : Cond := tabOf yN yB 2 (some .byte) site
def P (d : Addr) (B : Cell) (args : Array Value) (s : State) : Prop := args = #[.ref d, .int (Int32.ofNat B.slots.size)] ∧ Arr .byte d B s
def E (r : Option Value) (s u : State) : Prop := XT.PureE (some (.int 0)) r s u
/-- an array as long as the number of chars: LATIN1 -/
theorem law (l : Launch) (d : Addr) (B : Cell) : Law l yN 2 2 0 0 yB 2 (some .byte) site (P d B) E [] 0 0 := by
  refine Law.of_walk (plainFor_of_name (by decide +kernel)) (by decide +kernel) (by decide +kernel) (by decide) (fun _ _ h => by rw [h.1]; rfl) (fun _ U U' hal hh h => ⟨h.1, h.2.mv hal hh⟩) (fun r U U' V V' h1 hal h2 h => XT.PureE.mv r U U' V V' h1 hal h2 h) ?_
  intro p e s m args below meth c s₁ X0 hexec hbytes hml hret hlk hnm hown hh0 W hP
  obtain ⟨rfl, hB⟩ := hP
  have hB0 := hB.mv X0.warmed.alike hh0
  have c1 : Steps p.tables e below (s₁.setTop (entryFrame m #[.ref d, .int (Int32.ofNat B.slots.size)] 2)) (s₁.setTop (mkF m 0 #[.val (.ref d), .val (.int (Int32.ofNat B.slots.size))] [])) := entry rfl
  have c2 : Steps p.tables e below (s₁.setTop (entryFrame m #[.ref d, .int (Int32.ofNat B.slots.size)] 2)) (s₁.setTop (mkF m 2 #[.val (.ref d), .val (.int (Int32.ofNat B.slots.size))] [.ref d, .int (Int32.ofNat B.slots.size)])) := c1.trans (by
    refine XS.iloadN X0.here hexec rfl (hb hbytes d0) rfl ?_
    refine XS.aloadN X0.here hexec rfl (hb hbytes d1) rfl rfl ?_
    exact Steps.refl _)
  have c3 : Steps p.tables e below (s₁.setTop (entryFrame m #[.ref d, .int (Int32.ofNat B.slots.size)] 2)) (s₁.setTop (mkF m 8 #[.val (.ref d), .val (.int (Int32.ofNat B.slots.size))] [.int (lo8 (ushr (Int32.ofNat B.slots.size - Int32.ofNat B.slots.size) 31))])) := c2.trans (by
    refine X0.alen hexec hB0 rfl rfl (hb hbytes d2) ?_
    refine XS.isub X0.here hexec rfl (hb hbytes d3) rfl ?_
    refine bipushV X0.here hexec rfl 31 (hb hbytes d4) (by decide) ?_
    refine iushr X0.here hexec rfl (hb hbytes d6) rfl ?_
    refine i2b X0.here hexec rfl (hb hbytes d7) rfl ?_
    exact Steps.refl _)
  have e0 : lo8 (ushr (Int32.ofNat B.slots.size - Int32.ofNat B.slots.size) 31) = 0 := by rw [Int32.sub_self]; decide
  rw [e0] at c3
  exact ⟨s₁, some (.int 0), _, _, _, X0, rfl, rfl, rfl, (fun h => by cases h), ⟨rfl, hh0⟩, fun fs hl => c3.trans (X0.ireturnOut hexec hret rfl (Or.inr (Or.inr (Or.inl rfl))) (hb hbytes d8) hl)⟩
end CodL
/-- the String at a is Latin-1 over a new byte[] (the heap's one new cell): the low bytes of the len chars of A from o on; every cell but a is kept -/
def Got (a : Addr) (D : Cell) (fV fC : Field) (A : Cell) (o len : Nat) (r : Option Value) (s u : State) : Prop := r = none ∧ ∃ D' V : Cell, Blank "java/lang/String" a D' u ∧ Same D D' [fV.slot, fC.slot] ∧ D'.slots[fV.slot]? = some (.ref s.heap.size) ∧ D'.slots[fC.slot]? = some (.int 0) ∧ Arr .byte s.heap.size V u ∧ V.vm = .none ∧ u.vm.findClass "[B" = some V.cls ∧ V.slots.size = len ∧ (∀ j, j < len → V.slots[j]? = some (.int (lo8 (cv A (o + j))))) ∧ (∀ (y : Addr) (c : Cell), y ≠ a → s.heap[y]? = some c → u.heap[y]? = some c) ∧ u.heap.size = s.heap.size + 1
theorem Got.mv {a : Addr} {D A : Cell} {fV fC : Field} {o len : Nat} : ∀ r (U U' V V' : State), U'.heap = U.heap → V.vm.Alike V'.vm → V'.heap = V.heap → Got a D fV fC A o len r U V → Got a D fV fC A o len r U' V' :=
  fun r U U' V V' h1 hal h2 ⟨e0, D', X, a1, a2, a3, a4, a5, a6, a7, a8, a9, a10, a11⟩ => ⟨e0, D', X, a1.mv hal h2, a2, by rw [h1]; exact a3, a4, by rw [h1]; exact a5.mv hal h2, a6, by rw [hal.findClass]; exact a7, a8, a9, by rw [h1, h2]; exact a10, by rw [h1, h2]; exact a11⟩
namespace New4
def yN : MethodName := ⟨"java/lang/String", "<init>", "([CIILjava/lang/Void;)V"⟩
abbrev yB : ByteArray := jdk_42_method_149_code
theorem d0 : decode yB 0 = .ok (.aload_n 0, 1) := by decide +kernel
theorem d1 : decode yB 1 = .ok (.invokespecial 1, 3) := by decide +kernel
theorem d4 : decode yB 4 = .ok (.iload_n 3, 1) := by decide +kernel
theorem d5 : decode yB 5 = .ok (.ifCond (.ne) 22, 3) := by decide +kernel
theorem d27 : decode yB 27 = .ok (.getstatic 38, 3) := by decide +kernel
theorem d30 : decode yB 30 = .ok (.ifCond (.eq) 28, 3) := by decide +kernel
theorem d33 : decode yB 33 = .ok (.aload_n 1, 1) := by decide +kernel
theorem d34 : decode yB 34 = .ok (.iload_n 2, 1) := by decide +kernel
theorem d35 : decode yB 35 = .ok (.iload_n 3, 1) := by decide +kernel
theorem d36 : decode yB 36 = .ok (.invokestatic 177, 3) := by decide +kernel
theorem d39 : decode yB 39 = .ok (.astore 5, 2) := by decide +kernel
theorem d41 : decode yB 41 = .ok (.aload_n 0, 1) := by decide +kernel
theorem d42 : decode yB 42 = .ok (.aload 5, 2) := by decide +kernel
theorem d44 : decode yB 44 = .ok (.iload_n 3, 1) := by decide +kernel
theorem d45 : decode yB 45 = .ok (.invokestatic 47, 3) := by decide +kernel
theorem d48 : decode yB 48 = .ok (.putfield 15, 3) := by decide +kernel
theorem d51 : decode yB 51 = .ok (.aload_n 0, 1) := by decide +kernel
theorem d52 : decode yB 52 = .ok (.aload 5, 2) := by decide +kernel
theorem d54 : decode yB 54 = .ok (.putfield 9, 3) := by decide +kernel
theorem d57 : decode yB 57 = .ok (.return_, 1) := by decide +kernel
def site : List Cond := [.fieldLink "java/lang/String" 38 "java/lang/String" "COMPACT_STRINGS" "Z", Cmp3.tab, CodL.tab, .laysFinal "java/lang/String" "java/lang/String" "value" "[B", .fieldLink "java/lang/String" 9 "java/lang/String" "value" "[B", .laysFinal "java/lang/String" "java/lang/String" "coder" "B", .fieldLink "java/lang/String" 15 "java/lang/String" "coder" "B"] ++ objW "java/lang/String" 1 ++ staticW "java/lang/String" 177 Cmp3.yN ++ staticW "java/lang/String" 47 CodL.yN
def tab : Cond := tabOf yN yB 6 none site
def P (a : Addr) (D : Cell) (fV fC : Field) (b : Addr) (A : Cell) (z : Int32) (o len : Nat) (args : Array Value) (s : State) : Prop := args = #[.ref a, .ref b, .int (Int32.ofNat o), .int (Int32.ofNat len), .null] ∧ Blank "java/lang/String" a D s ∧ Found "java/lang/String" "value" "[B" fV s ∧ Found "java/lang/String" "coder" "B" fC s ∧ Ch b A s ∧ StaticIs s "java/lang/String" "COMPACT_STRINGS" "Z" (.int z) ∧ ¬ z = 0 ∧ 0 < len ∧ o + len ≤ A.slots.size ∧ len ≤ 536870912 ∧ ∀ i, i < len → ¬ 255 < cv A (o + i)
def E (a : Addr) (D : Cell) (fV fC : Field) (A : Cell) (o len : Nat) (r : Option Value) (s u : State) : Prop := Got a D fV fC A o len r s u
/-- len > 0, no char of the range above 255: a Latin-1 String of their low bytes -/
theorem law (l : Launch) (a : Addr) (D : Cell) (fV fC : Field) (b : Addr) (A : Cell) (z : Int32) (o len : Nat) : Law l yN 5 4 2 35 yB 6 none site (P a D fV fC b A z o len) (E a D fV fC A o len) [⟨a, fC.slot⟩, ⟨a, fV.slot⟩] 1 len := by
  refine Law.of_walk (plainFor_of_name (by decide +kernel)) (by decide +kernel) (by decide +kernel) (by decide) (fun _ _ h => by rw [h.1]; rfl) (fun _ U U' hal hh h => ⟨h.1, h.2.1.mv hal hh, h.2.2.1.al hal, h.2.2.2.1.al hal, h.2.2.2.2.1.mv hal hh, h.2.2.2.2.2.1.there hal hh, h.2.2.2.2.2.2⟩) (fun r U U' V V' h1 hal h2 h => Got.mv r U U' V V' h1 hal h2 h) ?_
  intro p e s m args below meth c s₁ X0 hexec hbytes hml hret hlk hnm hown hh0 W hP
  obtain ⟨rfl, hB, f1, f2, hA, s1, hz, l0, l1, l2, hp⟩ := hP
  have a31 := hA.1.2.2.2
  have c1 : Steps p.tables e below (s₁.setTop (entryFrame m #[.ref a, .ref b, .int (Int32.ofNat o), .int (Int32.ofNat len), .null] 6)) (s₁.setTop (mkF m 0 #[.val (.ref a), .val (.ref b), .val (.int (Int32.ofNat o)), .val (.int (Int32.ofNat len)), .val .null, .unset] [])) := entry rfl
  have c2 : Steps p.tables e below (s₁.setTop (entryFrame m #[.ref a, .ref b, .int (Int32.ofNat o), .int (Int32.ofNat len), .null] 6)) (s₁.setTop (mkF m 1 #[.val (.ref a), .val (.ref b), .val (.int (Int32.ofNat o)), .val (.int (Int32.ofNat len)), .val .null, .unset] [.ref a])) := c1.trans (by
    refine XS.aloadN X0.here hexec rfl (hb hbytes d0) rfl rfl ?_
    exact Steps.refl _)
  obtain ⟨T3, X3, q3, st3⟩ := X0.oinit hexec hown (wks W (objW "java/lang/String" 1)) (g := (mkF m 1 #[.val (.ref a), .val (.ref b), .val (.int (Int32.ofNat o)), .val (.int (Int32.ofNat len)), .val .null, .unset] [.ref a])) rfl (by rw [hml]; rfl) (rest := []) rfl (hb hbytes d1) (W := 0) (by show 2 * 0 + 0 ≤ _; decide) (Nat.le_of_ble_eq_true rfl) (Nat.le_of_ble_eq_true rfl)
  have hh3 := q3.trans hh0
  have c4 : Steps p.tables e below (s₁.setTop (entryFrame m #[.ref a, .ref b, .int (Int32.ofNat o), .int (Int32.ofNat len), .null] 6)) (T3.setTop (mkF m 27 #[.val (.ref a), .val (.ref b), .val (.int (Int32.ofNat o)), .val (.int (Int32.ofNat len)), .val .null, .unset] [])) := (c2.trans (st3 _ (Steps.refl _))).trans (by
    refine XS.iloadN X3.here hexec rfl (hb hbytes d4) rfl ?_
    refine XS.ifYes X3.here hexec rfl (pc0 := 5) rfl (hb hbytes d5) rfl (i0_ne_t (nz32 (by omega) l0)) (by decide) rfl ?_
    exact Steps.refl _)
  obtain ⟨T5, X5, q5, st5⟩ := X3.sget hexec hown (wk W (.fieldLink "java/lang/String" 38 "java/lang/String" "COMPACT_STRINGS" "Z")) s1 (fun _ _ h => by rw [hh3]; exact h) (g := (mkF m 27 #[.val (.ref a), .val (.ref b), .val (.int (Int32.ofNat o)), .val (.int (Int32.ofNat len)), .val .null, .unset] [])) rfl (hb hbytes d27)
  have hh5 := q5.trans hh3
  have c6 : Steps p.tables e below (s₁.setTop (entryFrame m #[.ref a, .ref b, .int (Int32.ofNat o), .int (Int32.ofNat len), .null] 6)) (T5.setTop (mkF m 30 #[.val (.ref a), .val (.ref b), .val (.int (Int32.ofNat o)), .val (.int (Int32.ofNat len)), .val .null, .unset] [.int z])) := c4.trans (st5 _ (Steps.refl _))
  have c7 : Steps p.tables e below (s₁.setTop (entryFrame m #[.ref a, .ref b, .int (Int32.ofNat o), .int (Int32.ofNat len), .null] 6)) (T5.setTop (mkF m 36 #[.val (.ref a), .val (.ref b), .val (.int (Int32.ofNat o)), .val (.int (Int32.ofNat len)), .val .null, .unset] [.int (Int32.ofNat len), .int (Int32.ofNat o), .ref b])) := c6.trans (by
    refine XS.ifNo X5.here hexec rfl (hb hbytes d30) rfl (i0_eq_f hz) ?_
    refine XS.aloadN X5.here hexec rfl (hb hbytes d33) rfl rfl ?_
    refine XS.iloadN X5.here hexec rfl (hb hbytes d34) rfl ?_
    refine XS.iloadN X5.here hexec rfl (hb hbytes d35) rfl ?_
    exact Steps.refl _)
  obtain ⟨v8, T8, X8, E8, g8⟩ := X5.callS hexec (Cmp3.law l b A o len) hown (wks W (staticW "java/lang/String" 177 Cmp3.yN)) (wk W Cmp3.tab) (W := 0) (Nat.le_of_ble_eq_true rfl) (Nat.le_of_ble_eq_true rfl) (Nat.le_refl _) (by show 0 + len ≤ len; omega) (g := (mkF m 36 #[.val (.ref a), .val (.ref b), .val (.int (Int32.ofNat o)), .val (.int (Int32.ofNat len)), .val .null, .unset] [.int (Int32.ofNat len), .int (Int32.ofNat o), .ref b])) rfl (by rw [hml]; rfl) c7 (argsL := [.ref b, .int (Int32.ofNat o), .int (Int32.ofNat len)]) (rest := []) rfl rfl (by show 2 * 0 + 0 ≤ _; decide) (hb hbytes d36) (⟨rfl, hA.mv X5.warmed.alike hh5, l1, l2, hp⟩)
  obtain ⟨e8, z8⟩ := E8
  obtain ⟨rfl, N, n1, n2, n3, n4, n5, n6⟩ := NewArr.mv _ T5 s _ _ hh5.symm (Vm.Alike.refl _) rfl e8
  rw [hh5] at z8
  have hB1 := hB.keep X8.warmed.alike (n6 _ _ hB.1)
  have hne : s.heap.size ≠ a := (Nat.ne_of_lt (Array.getElem?_eq_some_iff.mp hB.1).1).symm
  have c9 : Steps p.tables e below (s₁.setTop (entryFrame m #[.ref a, .ref b, .int (Int32.ofNat o), .int (Int32.ofNat len), .null] 6)) (T8.setTop (mkF m 39 #[.val (.ref a), .val (.ref b), .val (.int (Int32.ofNat o)), .val (.int (Int32.ofNat len)), .val .null, .unset] [.ref s.heap.size])) := g8
  have c10 : Steps p.tables e below (s₁.setTop (entryFrame m #[.ref a, .ref b, .int (Int32.ofNat o), .int (Int32.ofNat len), .null] 6)) (T8.setTop (mkF m 45 #[.val (.ref a), .val (.ref b), .val (.int (Int32.ofNat o)), .val (.int (Int32.ofNat len)), .val .null, .val (.ref s.heap.size)] [.int (Int32.ofNat N.slots.size), .ref s.heap.size, .ref a])) := by
    have hc : Steps p.tables e below (s₁.setTop (entryFrame m #[.ref a, .ref b, .int (Int32.ofNat o), .int (Int32.ofNat len), .null] 6)) (T8.setTop (mkF m 45 #[.val (.ref a), .val (.ref b), .val (.int (Int32.ofNat o)), .val (.int (Int32.ofNat len)), .val .null, .val (.ref s.heap.size)] [.int (Int32.ofNat len), .ref s.heap.size, .ref a])) := c9.trans (by
      refine XS.astore X8.here hexec rfl (hb hbytes d39) rfl rfl rfl ?_
      refine XS.aloadN X8.here hexec rfl (hb hbytes d41) rfl rfl ?_
      refine XS.aload X8.here hexec rfl (hb hbytes d42) rfl rfl ?_
      refine XS.iloadN X8.here hexec rfl (hb hbytes d44) rfl ?_
      exact Steps.refl _)
    rw [n4]; exact hc
  obtain ⟨v11, T11, X11, E11, g11⟩ := X8.callS hexec (CodL.law l s.heap.size N) hown (wks W (staticW "java/lang/String" 47 CodL.yN)) (wk W CodL.tab) (W := 1) (Nat.le_of_ble_eq_true rfl) (Nat.le_of_ble_eq_true rfl) (Nat.le_refl _) (by show 0 + len + 0 ≤ len; omega) (g := (mkF m 45 #[.val (.ref a), .val (.ref b), .val (.int (Int32.ofNat o)), .val (.int (Int32.ofNat len)), .val .null, .val (.ref s.heap.size)] [.int (Int32.ofNat N.slots.size), .ref s.heap.size, .ref a])) rfl (by rw [hml]; rfl) c10 (argsL := [.ref s.heap.size, .int (Int32.ofNat N.slots.size)]) (rest := [.ref a]) rfl rfl (by show 2 * 0 + (1 + 0) ≤ _; decide) (hb hbytes d45) (⟨rfl, n1⟩)
  obtain ⟨rfl, q11⟩ := E11
  have hB11 := hB1.mv (X8.warmed.alike.symm.trans X11.warmed.alike) q11
  have c12 : Steps p.tables e below (s₁.setTop (entryFrame m #[.ref a, .ref b, .int (Int32.ofNat o), .int (Int32.ofNat len), .null] 6)) (T11.setTop (mkF m 48 #[.val (.ref a), .val (.ref b), .val (.int (Int32.ofNat o)), .val (.int (Int32.ofNat len)), .val .null, .val (.ref s.heap.size)] [.int 0, .ref a])) := g11
  obtain ⟨T13, X13, p13, bl13, sl13, st13⟩ := X11.finit hexec hown (wk W (.fieldLink "java/lang/String" 15 "java/lang/String" "coder" "B")) (Or.inr ⟨_, (wk W (.laysFinal "java/lang/String" "java/lang/String" "coder" "B"))⟩) (Or.inl ⟨rfl, hnm⟩) f2 (Or.inl rfl) hB11 (t := .byte) (by decide +kernel) rfl (g := (mkF m 48 #[.val (.ref a), .val (.ref b), .val (.int (Int32.ofNat o)), .val (.int (Int32.ofNat len)), .val .null, .val (.ref s.heap.size)] [.int 0, .ref a])) rfl (rest := []) rfl (hb hbytes d48)
  have c14 : Steps p.tables e below (s₁.setTop (entryFrame m #[.ref a, .ref b, .int (Int32.ofNat o), .int (Int32.ofNat len), .null] 6)) (T13.setTop (mkF m 54 #[.val (.ref a), .val (.ref b), .val (.int (Int32.ofNat o)), .val (.int (Int32.ofNat len)), .val .null, .val (.ref s.heap.size)] [.ref s.heap.size, .ref a])) := (c12.trans (st13 _ (Steps.refl _))).trans (by
    refine XS.aloadN X13.here hexec rfl (hb hbytes d51) rfl rfl ?_
    refine XS.aload X13.here hexec rfl (hb hbytes d52) rfl rfl ?_
    exact Steps.refl _)
  obtain ⟨T15, X15, p15, bl15, sl15, st15⟩ := X13.finit hexec hown (wk W (.fieldLink "java/lang/String" 9 "java/lang/String" "value" "[B")) (Or.inr ⟨_, (wk W (.laysFinal "java/lang/String" "java/lang/String" "value" "[B"))⟩) (Or.inl ⟨rfl, hnm⟩) f1 (Or.inl rfl) bl13 (t := (.array .byte)) (by decide +kernel) rfl (g := (mkF m 54 #[.val (.ref a), .val (.ref b), .val (.int (Int32.ofNat o)), .val (.int (Int32.ofNat len)), .val .null, .val (.ref s.heap.size)] [.ref s.heap.size, .ref a])) rfl (rest := []) rfl (hb hbytes d54)
  have c16 : Steps p.tables e below (s₁.setTop (entryFrame m #[.ref a, .ref b, .int (Int32.ofNat o), .int (Int32.ofNat len), .null] 6)) (T15.setTop (mkF m 57 #[.val (.ref a), .val (.ref b), .val (.int (Int32.ofNat o)), .val (.int (Int32.ofNat len)), .val .null, .val (.ref s.heap.size)] [])) := c14.trans (st15 _ (Steps.refl _))
  have ap := apart (Or.inr ⟨_, (wk W (.laysFinal "java/lang/String" "java/lang/String" "value" "[B"))⟩) (Or.inr ⟨_, (wk W (.laysFinal "java/lang/String" "java/lang/String" "coder" "B"))⟩) f1 f2 (t₁ := .array .byte) (t₂ := .byte) (by decide +kernel) (by decide +kernel) (by decide)
  have al := X8.warmed.alike.symm.trans X15.warmed.alike
  have n7 : T11.heap[s.heap.size]? = some N := by rw [q11]; exact n1.1
  exact ⟨T15, none, _, _, _, X15, by simp, rfl, by omega, (fun _ => rfl), ⟨rfl, _, N, bl15, ((Same.refl D _).set _ (by simp)).set _ (by simp), sl15, (Cell.slots_setSlot_ne _ ap).trans sl13, n1.keep al (p15.other hne (p13.other hne n7)), n2, by rw [al.findClass]; exact n3, n4, n5, fun y c h1 h2 => p15.other h1 (p13.other h1 (by rw [q11]; exact n6 y c h2)), by rw [p15.2.2, p13.2.2, q11]; exact z8⟩, fun fs hl => c16.trans (X15.returnOut hexec hret (hb hbytes d57) hl)⟩
end New4
namespace New1
def yN : MethodName := ⟨"java/lang/String", "<init>", "([C)V"⟩
abbrev yB : ByteArray := jdk_42_method_3_code
theorem d0 : decode yB 0 = .ok (.aload_n 0, 1) := by decide +kernel
theorem d1 : decode yB 1 = .ok (.aload_n 1, 1) := by decide +kernel
theorem d2 : decode yB 2 = .ok (.iconst 0, 1) := by decide +kernel
theorem d3 : decode yB 3 = .ok (.aload_n 1, 1) := by decide +kernel
theorem d4 : decode yB 4 = .ok (.arraylength, 1) := by decide +kernel
theorem d5 : decode yB 5 = .ok (.aconst_null, 1) := by decide +kernel
theorem d6 : decode yB 6 = .ok (.invokespecial 27, 3) := by decide +kernel
theorem d9 : decode yB 9 = .ok (.return_, 1) := by decide +kernel
def site : List Cond := [New4.tab] ++ initW "java/lang/String" 27 New4.yN
def tab : Cond := tabOf yN yB 2 none site
def P (a : Addr) (D : Cell) (fV fC : Field) (b : Addr) (A : Cell) (z : Int32) (args : Array Value) (s : State) : Prop := args = #[.ref a, .ref b] ∧ Blank "java/lang/String" a D s ∧ Found "java/lang/String" "value" "[B" fV s ∧ Found "java/lang/String" "coder" "B" fC s ∧ Ch b A s ∧ StaticIs s "java/lang/String" "COMPACT_STRINGS" "Z" (.int z) ∧ ¬ z = 0 ∧ 0 < A.slots.size ∧ A.slots.size ≤ 536870912 ∧ ∀ i, i < A.slots.size → ¬ 255 < cv A i
def E (a : Addr) (D : Cell) (fV fC : Field) (A : Cell) (r : Option Value) (s u : State) : Prop := Got a D fV fC A 0 A.slots.size r s u
/-- new String(chars), not empty, no char above 255: a Latin-1 String of their low bytes -/
theorem law (l : Launch) (a : Addr) (D : Cell) (fV fC : Field) (b : Addr) (A : Cell) (z : Int32) : Law l yN 2 1 3 52 yB 2 none site (P a D fV fC b A z) (E a D fV fC A) [⟨a, fC.slot⟩, ⟨a, fV.slot⟩] 1 A.slots.size := by
  refine Law.of_walk (plainFor_of_name (by decide +kernel)) (by decide +kernel) (by decide +kernel) (by decide) (fun _ _ h => by rw [h.1]; rfl) (fun _ U U' hal hh h => ⟨h.1, h.2.1.mv hal hh, h.2.2.1.al hal, h.2.2.2.1.al hal, h.2.2.2.2.1.mv hal hh, h.2.2.2.2.2.1.there hal hh, h.2.2.2.2.2.2⟩) (fun r U U' V V' h1 hal h2 h => Got.mv r U U' V V' h1 hal h2 h) ?_
  intro p e s m args below meth c s₁ X0 hexec hbytes hml hret hlk hnm hown hh0 W hP
  obtain ⟨rfl, hB, f1, f2, hA, s1, hz, l0, l2, hp⟩ := hP
  have c1 : Steps p.tables e below (s₁.setTop (entryFrame m #[.ref a, .ref b] 2)) (s₁.setTop (mkF m 0 #[.val (.ref a), .val (.ref b)] [])) := entry rfl
  have c2 : Steps p.tables e below (s₁.setTop (entryFrame m #[.ref a, .ref b] 2)) (s₁.setTop (mkF m 6 #[.val (.ref a), .val (.ref b)] [.null, .int (Int32.ofNat A.slots.size), .int 0, .ref b, .ref a])) := c1.trans (by
    refine XS.aloadN X0.here hexec rfl (hb hbytes d0) rfl rfl ?_
    refine XS.aloadN X0.here hexec rfl (hb hbytes d1) rfl rfl ?_
    refine iconstV X0.here hexec rfl 0 (hb hbytes d2) (by decide) ?_
    refine XS.aloadN X0.here hexec rfl (hb hbytes d3) rfl rfl ?_
    refine X0.alen hexec (hA.1.mv X0.warmed.alike hh0) rfl rfl (hb hbytes d4) ?_
    refine XS.aconstNull X0.here hexec rfl (hb hbytes d5) ?_
    exact Steps.refl _)
  obtain ⟨v3, T3, X3, E3, g3⟩ := X0.callN hexec (New4.law l a D fV fC b A z 0 A.slots.size) rfl hown (wks W (initW "java/lang/String" 27 New4.yN)) (W New4.tab (by simp only [site, List.mem_cons, List.mem_append, true_or, or_true])) (W := 0) (Nat.le_of_ble_eq_true rfl) (Nat.le_of_ble_eq_true rfl) (Nat.le_refl _) (by show 0 + A.slots.size ≤ A.slots.size; omega) (g := (mkF m 6 #[.val (.ref a), .val (.ref b)] [.null, .int (Int32.ofNat A.slots.size), .int (Int32.ofNat 0), .ref b, .ref a])) rfl (by rw [hml]; rfl) c2 (argsL := [.ref b, .int (Int32.ofNat 0), .int (Int32.ofNat A.slots.size), .null]) (rest := []) rfl rfl (by show 2 * 0 + 0 ≤ _; decide) (hb hbytes d6) (⟨rfl, hB.mv X0.warmed.alike hh0, f1.al X0.warmed.alike, f2.al X0.warmed.alike, hA.mv X0.warmed.alike hh0, s1.there X0.warmed.alike hh0, hz, l0, by omega, l2, fun i hi => by rw [Nat.zero_add]; exact hp i hi⟩)
  have e0 := Got.mv _ s₁ s _ _ hh0.symm (Vm.Alike.refl _) rfl E3
  obtain rfl := e0.1
  have c4 : Steps p.tables e below (s₁.setTop (entryFrame m #[.ref a, .ref b] 2)) (T3.setTop (mkF m 9 #[.val (.ref a), .val (.ref b)] [])) := g3
  exact ⟨T3, none, _, _, _, X3, by simp, rfl, by omega, (fun _ => rfl), e0, fun fs hl => c4.trans (X3.returnOut hexec hret (hb hbytes d9) hl)⟩
theorem pays {l : Launch} {R : Room} {p : Program} {e : Env} {below : List Frame} {s : State} {sargs : Array Value} {len W : Nat} (a : Addr) (D : Cell) (fV fC : Field) (b : Addr) (A : Cell) (z : Int32) (htab : tab.before sargs s = true) (hfr : 4 ≤ R.frames) (hlo : W + 65 ≤ R.locals) :
    Back l R p e below s sargs yN len W (fun A₁ a₁ => A₁.cells + 1 ≤ R.cells ∧ A₁.slots + A.slots.size ≤ R.slots ∧ P a D fV fC b A z a₁ A₁.U) (fun A₁ _ v₁ B₁ => E a D fV fC A v₁ A₁.U B₁.U ∧ B₁.locs = A₁.locs ++ [⟨a, fC.slot⟩, ⟨a, fV.slot⟩] ∧ B₁.cells = A₁.cells + 1 ∧ B₁.slots = A₁.slots + A.slots.size) :=
  (law l a D fV fC b A z).pays htab hfr (by omega)
end New1
end StrChars
namespace StrChars.Road
open Jvm Sem ClassFile Op Lib Jvm.Stand Jvm.Free Jvm.Free.XT
open Jvm.Lib.Cold (StaticIs)
abbrev ST : String := "java/lang/String"
/-- every table word that New1's law asks, flat -/
abbrev words : List Jvm.Cond := [.code New1.yN New1.yB 2 none, .initialized ST, .methodLink ST 27 New4.yN, .instanceMethod New4.yN,
  .code New4.yN New4.yB 6 none, .fieldLink ST 38 ST "COMPACT_STRINGS" "Z", .laysFinal ST ST "value" "[B", .fieldLink ST 9 ST "value" "[B", .laysFinal ST ST "coder" "B", .fieldLink ST 15 ST "coder" "B",
  .methodLink ST 1 Lib.objectInit, .instanceMethod Lib.objectInit, .code Lib.objectInit ⟨#[0xb1]⟩ 1 none, .methodLink ST 177 Cmp3.yN, .static Cmp3.yN, .methodLink ST 47 CodL.yN, .static CodL.yN,
  .code Cmp3.yN Cmp3.yB 6 (some (.array .byte)), .initialized U16, .arrayClass .byte, .methodLink U16 115 Cmp5.yN, .static Cmp5.yN, .code Cmp5.yN Cmp5.yB 7 (some .int), .code CodL.yN CodL.yB 2 (some .byte)]
theorem tab_of {a : Array Value} {s : State} (h : ∀ w ∈ words, w.before a s = true) : New1.tab.before a s = true := by
  have h5 : Cmp5.tab.before a s = true := unparts (wk h (.code Cmp5.yN Cmp5.yB 7 (some .int))) (wks h (.initialized Cmp5.yN.cls :: Cmp5.site))
  have hc : CodL.tab.before a s = true := unparts (wk h (.code CodL.yN CodL.yB 2 (some .byte))) (wks h (.initialized CodL.yN.cls :: CodL.site))
  have q5 : ∀ w ∈ Cmp5.tab :: words, w.before a s = true := fun w hw => (List.mem_cons.mp hw).elim (fun e => e ▸ h5) (h w)
  have h3 : Cmp3.tab.before a s = true := unparts (wk q5 (.code Cmp3.yN Cmp3.yB 6 (some (.array .byte)))) (wks q5 (.initialized Cmp3.yN.cls :: Cmp3.site))
  have q3 : ∀ w ∈ Cmp3.tab :: CodL.tab :: words, w.before a s = true := fun w hw => (List.mem_cons.mp hw).elim (fun e => e ▸ h3) fun hw => (List.mem_cons.mp hw).elim (fun e => e ▸ hc) (h w)
  have h4 : New4.tab.before a s = true := unparts (wk q3 (.code New4.yN New4.yB 6 none)) (wks q3 (.initialized New4.yN.cls :: New4.site))
  have q4 : ∀ w ∈ New4.tab :: words, w.before a s = true := fun w hw => (List.mem_cons.mp hw).elim (fun e => e ▸ h4) (h w)
  exact unparts (wk q4 (.code New1.yN New1.yB 2 none)) (wks q4 (.initialized New1.yN.cls :: New1.site))
/-- the words ride from the start Z to the walk's own state -/
theorem moved {Z s : State} {a0 args : Array Value} (hZ : Z.Warmed39 s.vm) (hw : ∀ d ∈ words, d.before a0 Z = true) : ∀ d ∈ words, d.before args s = true := fun d hd => by
  have q := hw d hd
  have t : ∀ d ∈ words, d = .arrayClass .byte ∨ (d.onTables && d.keepsFace) = true := by decide +kernel
  rcases t d hd with rfl | t
  · exact RoadKit.mvA hZ q
  · exact RoadKit.mv hZ q t
/-- WHAT COMES BACK, over the tables of the start Z: h the heap at the call, h' behind it -/
def Q (Z : State) (x : Addr) (A : Cell) (h : Heap) (v : Option Value) (h' : Heap) (L : List Loc) : Prop := v = none ∧ (∀ y ∈ L, y.base = x) ∧ RoadKit.Keep h h' [x] ∧ h'.size = h.size + 1 ∧ RoadKit.Exa Z h' x ST ∧ RoadKit.Fld Z h' x ST "value" "[B" (.ref h.size) ∧ RoadKit.Fld Z h' x ST "coder" "B" (.int 0) ∧
  (∃ V : Cell, RoadKit.Arr Z h' h.size V .byte ∧ V.vm = .none ∧ Z.vm.findClass "[B" = some V.cls ∧ V.slots.size = A.slots.size ∧ ∀ j, j < A.slots.size → V.slots[j]? = some (.int (lo8 (cv A j)))) ∧
  ∀ (O n d : String) (w : Value), RoadKit.Fld Z h x O n d w → RoadKit.slotOf Z O n d ≠ RoadKit.slotOf Z ST "value" "[B" → RoadKit.slotOf Z O n d ≠ RoadKit.slotOf Z ST "coder" "B" → RoadKit.Fld Z h' x O n d w
/-- **new String(chars) AT A CALL, IN THE ROAD'S FORM**: for specialBack behind newO: x the fresh String, b the char[] with the cell A -/
theorem back {p : Program} {l : Launch} {e : Env} {R : Room} {s : State} {args : Array Value} {below : List Frame} {len W : Nat} {Z : State} {a0 : Array Value} {h : Heap} (hZ : Z.Warmed39 s.vm) (hw : ∀ d ∈ words, d.before a0 Z = true) {kI : Nat} (wi : (Jvm.Cond.instantiable ST kI).before a0 Z = true)
    {x b : Addr} {A : Cell} {z : Int32} {v0 c0 : Value} (E : RoadKit.Exa Z h x ST) (V : RoadKit.Fld Z h x ST "value" "[B" v0) (C : RoadKit.Fld Z h x ST "coder" "B" c0) (K : RoadKit.Arr Z h b A .char) (hty : Typed .char A) (S : RoadKit.Sta Z h ST "COMPACT_STRINGS" "Z" (.int z)) (hz : ¬ z = 0)
    (l0 : 0 < A.slots.size) (l2 : A.slots.size ≤ 536870912) (hp : ∀ i, i < A.slots.size → ¬ 255 < cv A i) (hfr : 4 ≤ R.frames) (hlo : W + 65 ≤ R.locals) :
    Back l R p e below s args New1.yN len W (fun P a => a = #[.ref x, .ref b] ∧ P.U.heap = h ∧ P.cells + 1 ≤ R.cells ∧ P.slots + A.slots.size ≤ R.slots)
      (fun P _ v B => ∃ L, Q Z x A h v B.U.heap L ∧ B.locs = P.locs ++ L ∧ B.cells = P.cells + 1 ∧ B.slots = P.slots + A.slots.size) := by
  intro m meth c P g ig mk a X hg hsize hdg hW hn hp'
  obtain ⟨rfl, rfl, r1, r2⟩ := hp'
  have al : Z.vm.Alike P.U.vm := hZ.alike.trans X.warmed.alike
  obtain ⟨D, cfV, kV, iV, fV, hD, gV, stV, knV, obV, asV, slV⟩ := id V
  obtain ⟨D', cfC, kC, iC, fC, hD', gC, stC, -, -, asC, slC⟩ := id C
  cases hD.symm.trans hD'
  obtain ⟨D2, kD, e1, e2, e3, e4, e5⟩ := id E
  cases hD.symm.trans e1
  obtain ⟨c2, k2, i1, i2, i3, -⟩ := Cond.instantiable_spec wi
  cases e2.symm.trans i1
  cases e3.symm.trans i2
  obtain ⟨kU, u1, u2⟩ := al.2.2 _ _ e3
  have hB : Blank ST x D P.U := ⟨hD, ⟨knV, fun q hq => by rw [hq] at obV; cases obV⟩, by rw [al.findClass]; exact e2, kU, u1, by rw [u2]; exact i3, by rw [u2]; exact e5 i3⟩
  have F1 : Found ST "value" "[B" fV P.U := ⟨SBG.found_only al ⟨cfV, kV, iV, gV⟩, stV⟩
  have F2 : Found ST "coder" "B" fC P.U := ⟨SBG.found_only al ⟨cfC, kC, iC, gC⟩, stC⟩
  have hA : Ch b A P.U := ⟨⟨K.1, State.isArrayOf_alike al K.2.1, K.2.2, by omega⟩, hty⟩
  have hS : StaticIs P.U ST "COMPACT_STRINGS" "Z" (.int z) := by
    obtain ⟨cfS, iS, kS, fS, st, cS, t1, t2, t3, t4, t5, t6, t7⟩ := S
    exact StaticIs.there (s := { Z with heap := P.U.heap }) ⟨cfS, iS, kS, fS, st, cS, t1, t2, t3, t4, t5, (fun q => by rw [q] at t6; cases t6), t7⟩ al rfl
  obtain ⟨v, B, X', ⟨⟨hv, E', V', q1, q2, q3, q4, q5, q6, q7, q8, q9, q10, q11⟩, hl, hc, hs⟩, st⟩ := New1.pays x D fV fC b A z (tab_of (moved hZ hw)) hfr hlo m meth c P g ig mk _ X hg hsize hdg hW hn ⟨r1, r2, rfl, hB, F1, F2, hA, hS, hz, l0, l2, hp⟩
  have al' : Z.vm.Alike B.U.vm := hZ.alike.trans X'.warmed.alike
  have hsz : E'.slots.size = D.slots.size := by
    obtain ⟨-, -, -, kB, w1, w2, w3⟩ := q1
    obtain ⟨kB', y1, y2⟩ := al'.2.2 _ _ e3
    rw [q2.2.1] at w1
    cases w1.symm.trans y1
    rw [w3, e5 i3, y2]
  refine ⟨v, B, X', ⟨_, ⟨hv, ?_, ⟨by omega, fun y cy hy hn' => q10 y cy (by simpa using hn') hy, fun y cy hy => ?_⟩, q11, ⟨E', _, q1.1, by rw [q2.2.1]; exact e2, by rw [q2.2.1]; exact e3, by rw [q2.1]; exact obV, fun _ => by rw [hsz]; exact e5 i3⟩,
    ⟨E', cfV, kV, iV, fV, q1.1, gV, stV, by rw [q2.1]; exact knV, by rw [q2.1]; exact obV, by rw [q2.2.1]; exact asV, q3⟩, ⟨E', cfC, kC, iC, fC, q1.1, gC, stC, by rw [q2.1]; exact knV, by rw [q2.1]; exact obV, by rw [q2.2.1]; exact asC, q4⟩,
    ⟨V', ⟨q5.1, State.isArrayOf_alike al'.symm q5.2.1, q5.2.2.1⟩, q6, by rw [← al'.findClass]; exact q7, q8, fun j hj => by have := q9 j hj; rwa [Nat.zero_add] at this⟩, fun O n d w F n1 n2 => ?_⟩, hl, hc, hs⟩, st⟩
  · intro y hy
    simp only [List.mem_cons, List.not_mem_nil, or_false] at hy
    rcases hy with rfl | rfl <;> rfl
  · by_cases q : y = x
    · subst q
      cases hD.symm.trans hy
      exact ⟨E', q1.1, q2.2.1, q2.1, hsz⟩
    · exact ⟨cy, q10 y cy q hy, rfl, rfl, rfl⟩
  · obtain ⟨D3, cf, k, i, f, g1, g2, g3, g4, g5, g6, g7⟩ := F
    cases hD.symm.trans g1
    simp only [RoadKit.slotOf, g2, gV, gC, Option.map_some, Option.getD_some] at n1 n2
    exact ⟨E', cf, k, i, f, q1.1, g2, g3, by rw [q2.1]; exact g4, by rw [q2.1]; exact g5, by rw [q2.2.1]; exact g6, by rw [q2.2.2 f.slot (by simp [n1, n2])]; exact g7⟩
end StrChars.Road
namespace StrChars.Road
open Jvm Sem ClassFile Op Lib Jvm.Stand Jvm.Free Jvm.Free.XT
/-- WHAT COMES BACK, the byte[] as a list of values -/
def QA (Z : State) (x : Addr) (zn : Int32) (cs : List Int32) (h : Heap) (v : Option Value) (h' : Heap) (L : List Loc) : Prop := v = none ∧ (∀ y ∈ L, y.base = x) ∧ RoadKit.Keep h h' [x] ∧ h'.size = h.size + 1 ∧ RoadKit.Exa Z h' x ST ∧ RoadKit.Fld Z h' x ST "value" "[B" (.ref h.size) ∧ RoadKit.Fld Z h' x ST "coder" "B" (.int 0) ∧
  (∃ kb, Z.vm.findClass "[B" = some kb ∧ RoadKit.Arv Z h' h.size kb .byte zn (cs.map fun c => .int (lo8 c)) (.int 0)) ∧
  ∀ (O n d : String) (w : Value), RoadKit.Fld Z h x O n d w → RoadKit.slotOf Z O n d ≠ RoadKit.slotOf Z ST "value" "[B" → RoadKit.slotOf Z O n d ≠ RoadKit.slotOf Z ST "coder" "B" → RoadKit.Fld Z h' x O n d w
/-- **new String(chars) AT A CALL, THE ARRAYS AS LISTS**: the char[] at b holds cs, not empty, no char above 255 -/
theorem backArv {p : Program} {l : Launch} {e : Env} {R : Room} {s : State} {args : Array Value} {below : List Frame} {len W : Nat} {Z : State} {a0 : Array Value} {h : Heap} (hZ : Z.Warmed39 s.vm) (hw : ∀ d ∈ words, d.before a0 Z = true) {kI : Nat} (wi : (Jvm.Cond.instantiable ST kI).before a0 Z = true)
    {x b : Addr} {k : ClassId} {zn z : Int32} {cs : List Int32} {dv v0 c0 : Value} (E : RoadKit.Exa Z h x ST) (V : RoadKit.Fld Z h x ST "value" "[B" v0) (C : RoadKit.Fld Z h x ST "coder" "B" c0) (K : RoadKit.Arv Z h b k .char zn (cs.map Value.int) dv) (S : RoadKit.Sta Z h ST "COMPACT_STRINGS" "Z" (.int z)) (hz : ¬ z = 0)
    (hlen : zn.toNatClampNeg = cs.length) (h0 : 0 < cs.length) (hbig : cs.length ≤ 536870912) (hall : ∀ c ∈ cs, ¬ 255 < c) (hfr : 4 ≤ R.frames) (hlo : W + 65 ≤ R.locals) :
    Back l R p e below s args New1.yN len W (fun P a => a = #[.ref x, .ref b] ∧ P.U.heap = h ∧ P.cells + 1 ≤ R.cells ∧ P.slots + cs.length ≤ R.slots)
      (fun P _ v B => ∃ L, QA Z x zn cs h v B.U.heap L ∧ B.locs = P.locs ++ L ∧ B.cells = P.cells + 1 ∧ B.slots = P.slots + cs.length) := by
  obtain ⟨A, K1, K2, K3, K4, K5, K6⟩ := K
  have e : A.slots.size = cs.length := K3.trans hlen
  have hat : ∀ (i : Nat) (hi : i < cs.length), A.slots[i]? = some (.int cs[i]) := fun i hi => by rw [K5 i (by omega)]; simp [List.getD_eq_getElem?_getD, hi]
  have hcv : ∀ (i : Nat) (hi : i < cs.length), cv A i = cs[i] := fun i hi => by unfold cv; rw [hat i hi]
  have hty : Typed .char A := fun i v hv => by
    have hi : i < A.slots.size := (Array.getElem?_eq_some_iff.mp hv).1
    have q := K5 i hi
    rw [hv] at q
    rw [Option.some.inj q]
    exact K6 i hi
  refine Back.mono (back hZ hw wi E V C K1 hty S hz (by omega) (by omega) (fun i hi => by rw [hcv i (by omega)]; exact hall _ (List.getElem_mem _)) hfr hlo) (fun P a hp => ⟨hp.1, hp.2.1, hp.2.2.1, by rw [e]; exact hp.2.2.2⟩) (fun P a v B hp hq => ?_)
  obtain ⟨L, ⟨q1, q2, q3, q4, q5, q6, q7, ⟨V', v1, v2, v3, v4, v5⟩, q9⟩, hl, hc, hs⟩ := hq
  refine ⟨L, ⟨q1, q2, q3, q4, q5, q6, q7, ⟨V'.cls, v3, V', v1, rfl, by rw [v4, e, hlen], K4, fun i hi => ?_, fun i hi => ?_⟩, q9⟩, hl, hc, by rw [hs, e]⟩
  · have hi' : i < cs.length := by omega
    rw [v5 i (by omega), hcv i hi']; simp [List.getD_eq_getElem?_getD, hi']
  · have hi' : i < cs.length := by omega
    simp only [List.getD_eq_getElem?_getD, List.getElem?_map, List.getElem?_eq_getElem hi', Option.map_some, Option.getD_some]
    exact fits_lo8 _
end StrChars.Road
namespace StrChars.Road
open Jvm Sem ClassFile Op Lib Jvm.Stand Jvm.Free Jvm.Free.XT
/-- WHAT COMES BACK, in the writer's own shape -/
def QV (Z : State) (x : Addr) (N : Int32) (bs : List Int32) (h : Heap) (n0 : Nat) (v : Option Value) (h' : Heap) (L : List Loc) : Prop := v = none ∧ RoadKit.Fr n0 L ∧ RoadKit.Keep h h' [x] ∧ RoadKit.Exa Z h' x ST ∧ RoadKit.Fld Z h' x ST "coder" "B" (.int 0) ∧
  ∃ (t : Addr) (kb : ClassId), n0 ≤ t ∧ h.size ≤ t ∧ ¬ t = x ∧ RoadKit.Fld Z h' x ST "value" "[B" (.ref t) ∧ RoadKit.Arv Z h' t kb .byte N (bs.map Value.int) (.int 0)
/-- **new String(chars) AT A CALL, FOR THE WRITER**: a char[] of n known ints, each 0 to 255 -/
theorem backV {p : Program} {l : Launch} {e : Env} {R : Room} {s : State} {args : Array Value} {below : List Frame} {len W : Nat} {Z : State} {a0 : Array Value} {h : Heap} (hZ : Z.Warmed39 s.vm) (hw : ∀ d ∈ words, d.before a0 Z = true) {kI : Nat} (wi : (Jvm.Cond.instantiable ST kI).before a0 Z = true)
    {x b : Addr} {kC : ClassId} {cs bs : List Int32} {d v0 c0 : Value} {z N : Int32} {n n0 : Nat} (hx0 : n0 ≤ x) (hh0 : n0 ≤ h.size) (E : RoadKit.Exa Z h x ST) (V : RoadKit.Fld Z h x ST "value" "[B" v0) (C : RoadKit.Fld Z h x ST "coder" "B" c0) (K : RoadKit.Arv Z h b kC .char N (cs.map Value.int) d) (S : RoadKit.Sta Z h ST "COMPACT_STRINGS" "Z" (.int z)) (hz : ¬ z = 0)
    (hn : cs.length = n) (hN : N = Int32.ofNat n) (l0 : 0 < n) (l2 : n ≤ 4000) (hp : ∀ c ∈ cs, ¬ c < 0 ∧ ¬ (255 : Int32) < c) (hb : bs = cs.map (fun c => c.toInt8.toInt32)) (hfr : 4 ≤ R.frames) (hlo : W + 65 ≤ R.locals) :
    Back l R p e below s args (⟨"java/lang/String", "<init>", "([C)V"⟩ : MethodName) len W (fun P a => a = #[.ref x, .ref b] ∧ P.U.heap = h ∧ P.cells + 1 ≤ R.cells ∧ P.slots + n ≤ R.slots)
      (fun P _ v B => ∃ L, QV Z x N bs h n0 v B.U.heap L ∧ B.locs = P.locs ++ L ∧ B.cells = P.cells + 1 ∧ B.slots = P.slots + n) := by
  subst hn hN hb
  refine Back.mono (backArv hZ hw wi E V C K S hz (n32 (by omega)) l0 (by omega) (fun c hc => (hp c hc).2) hfr hlo) (fun P a hp => hp) (fun P a v B hp hq => ?_)
  obtain ⟨L, ⟨q1, q2, q3, q4, q5, q6, q7, ⟨kb, v1, v2⟩, q9⟩, hl, hc, hs⟩ := hq
  exact ⟨L, ⟨q1, fun y hy => by rw [q2 y hy]; exact hx0, q3, q5, q7, h.size, kb, hh0, Nat.le_refl _, Nat.ne_of_gt E.lt, q6, by rw [List.map_map]; exact v2⟩, hl, hc, hs⟩
end StrChars.Road
namespace StrChars
open Jvm Sem ClassFile Op Lib Jvm.Stand Jvm.Free.XT Jvm.Free.ALB Jvm.Free.JM Jvm.Free
open Jvm.Lib.Cold (StaticIs)
def hi8 (x : Int32) : Int32 := lo8 (x >>> ((8 : Int32) &&& 31))
theorem shr0 (c : Int32) : c >>> ((0 : Int32) &&& 31) = c := by
  have e : ((0 : Int32) &&& 31) = 0 := by decide
  rw [e]
  apply Int32.toBitVec_inj.mp
  rw [Int32.toBitVec_shiftRight]
  have e1 : ((0 : Int32).toBitVec.smod 32) = 0#32 := by decide
  rw [e1, BitVec.sshiftRight_eq']
  exact BitVec.sshiftRight_zero
end StrChars
namespace StrChars
open Jvm Sem ClassFile Op Lib Jvm.Stand Jvm.Free.XT Jvm.Free.ALB Jvm.Free.JM Jvm.Free
open Jvm.Lib.Cold (StaticIs)
theorem shr1 {n : Nat} (h : 2 * n < 2 ^ 31) : Int32.ofNat (2 * n) >>> ((1 : Int32) &&& 31) = Int32.ofNat n := by
  have e : ((1 : Int32) &&& 31) = 1 := by decide
  rw [e]
  apply Int32.toBitVec_inj.mp
  rw [Int32.toBitVec_shiftRight]
  have e1 : ((1 : Int32).toBitVec.smod 32) = 1#32 := by decide
  have hm : (BitVec.ofNat 32 (2 * n)).toNat = 2 * n := by rw [BitVec.toNat_ofNat, Nat.mod_eq_of_lt (by omega)]
  rw [e1, BitVec.sshiftRight_eq']
  apply BitVec.eq_of_toNat_eq
  show ((BitVec.ofNat 32 (2 * n)).sshiftRight 1).toNat = (BitVec.ofNat 32 n).toNat
  rw [BitVec.toNat_sshiftRight_of_msb_false (by rw [BitVec.msb_eq_false_iff_two_mul_lt, hm]; omega), hm, BitVec.toNat_ofNat, Nat.shiftRight_eq_div_pow]
  omega
/-- the array's cell V codes the n chars f 0 .. f (n - 1) by the coder cd, as the JDK does: coder 1 just where some char is above 255 -/
def Cod (cd : Int32) (n : Nat) (f : Nat → Int32) (V : Cell) : Prop := (cd = 0 ∧ V.slots.size = n ∧ ∀ j, j < n → V.slots[j]? = some (.int (lo8 (f j))) ∧ ¬ 255 < f j) ∨ (cd = 1 ∧ V.slots.size = 2 * n ∧ (∀ j, j < n → V.slots[2 * j]? = some (.int (lo8 (f j))) ∧ V.slots[2 * j + 1]? = some (.int (hi8 (f j)))) ∧ ∃ j, j < n ∧ 255 < f j)
theorem Cod.cd {cd : Int32} {n : Nat} {f : Nat → Int32} {V : Cell} (h : Cod cd n f V) : cd = 0 ∨ cd = 1 := h.imp (fun q => q.1) fun q => q.1
theorem Cod.len {cd : Int32} {n : Nat} {f : Nat → Int32} {V : Cell} (h : Cod cd n f V) (hs : V.slots.size < 2 ^ 31) : Int32.ofNat V.slots.size >>> (cd &&& 31) = Int32.ofNat n := by
  rcases h with ⟨rfl, h, -⟩ | ⟨rfl, h, -⟩
  · rw [shr0, h]
  · rw [h, shr1 (by omega)]
/-- **x is a String of the n chars f 0 .. f (n - 1)**, Latin-1 or UTF-16; its array at t has the cell V -/
def Txt (x t : Addr) (V : Cell) (cd : Int32) (n : Nat) (f : Nat → Int32) (U : State) : Prop := Exact "java/lang/String" x U ∧ Has x "java/lang/String" "value" "[B" (.ref t) U ∧ Has x "java/lang/String" "coder" "B" (.int cd) U ∧ XT.Arr .byte t V U ∧ Cod cd n f V ∧ ∀ j, j < n → ¬ f j < 0 ∧ ¬ 65535 < f j
theorem Txt.mv {x t : Addr} {V : Cell} {cd : Int32} {n : Nat} {f : Nat → Int32} {U U' : State} (h : Txt x t V cd n f U) (hal : U.vm.Alike U'.vm) (hh : U'.heap = U.heap) : Txt x t V cd n f U' := ⟨h.1.mv hal hh, h.2.1.mv hal hh, h.2.2.1.mv hal hh, h.2.2.2.1.mv hal hh, h.2.2.2.2⟩
namespace Cdr
def yN : MethodName := ⟨"java/lang/String", "coder", "()B"⟩
abbrev yB : ByteArray := jdk_42_method_152_code
theorem d0 : decode yB 0 = .ok (.getstatic 38, 3) := by decide +kernel
theorem d3 : decode yB 3 = .ok (.ifCond (.eq) 10, 3) := by decide +kernel
theorem d6 : decode yB 6 = .ok (.aload_n 0, 1) := by decide +kernel
theorem d7 : decode yB 7 = .ok (.getfield 15, 3) := by decide +kernel
theorem d10 : decode yB 10 = .ok (.goto 4, 3) := by decide +kernel
theorem d14 : decode yB 14 = .ok (.ireturn, 1) := by decide +kernel
def site : List Cond := [.fieldLink "java/lang/String" 38 "java/lang/String" "COMPACT_STRINGS" "Z", .fieldLink "java/lang/String" 15 "java/lang/String" "coder" "B"]
def tab : Cond := tabOf yN yB 1 (some .byte) site
def P (x : Addr) (cd z : Int32) (args : Array Value) (s : State) : Prop := args = #[.ref x] ∧ Has x "java/lang/String" "coder" "B" (.int cd) s ∧ (cd = 0 ∨ cd = 1) ∧ StaticIs s "java/lang/String" "COMPACT_STRINGS" "Z" (.int z) ∧ ¬ z = 0
def E (cd : Int32) (r : Option Value) (s u : State) : Prop := XT.PureE (some (.int cd)) r s u
theorem law (l : Launch) (x : Addr) (cd z : Int32) : Law l yN 1 0 0 0 yB 1 (some .byte) site (P x cd z) (E cd) [] 0 0 := by
  refine Law.of_walk (plainFor_of_name (by decide +kernel)) (by decide +kernel) (by decide +kernel) (by decide) (fun _ _ h => by rw [h.1]; rfl) (fun _ U U' hal hh h => ⟨h.1, h.2.1.mv hal hh, h.2.2.1, h.2.2.2.1.there hal hh, h.2.2.2.2⟩) (fun r U U' V V' h1 hal h2 h => XT.PureE.mv r U U' V V' h1 hal h2 h) ?_
  intro p e s m args below meth c s₁ X0 hexec hbytes hml hret hlk hnm hown hh0 W hP
  obtain ⟨rfl, hx, hc, s1, hz⟩ := hP
  have c1 : Steps p.tables e below (s₁.setTop (entryFrame m #[.ref x] 1)) (s₁.setTop (mkF m 0 #[.val (.ref x)] [])) := entry rfl
  obtain ⟨T2, X2, q2, st2⟩ := X0.sget hexec hown (wk W (.fieldLink "java/lang/String" 38 "java/lang/String" "COMPACT_STRINGS" "Z")) s1 (fun _ _ h => by rw [hh0]; exact h) (g := (mkF m 0 #[.val (.ref x)] [])) rfl (hb hbytes d0)
  have hh2 := q2.trans hh0
  have c3 : Steps p.tables e below (s₁.setTop (entryFrame m #[.ref x] 1)) (T2.setTop (mkF m 7 #[.val (.ref x)] [.ref x])) := (c1.trans (st2 _ (Steps.refl _))).trans (by
    refine XS.ifNo X2.here hexec rfl (hb hbytes d3) rfl (i0_eq_f hz) ?_
    refine XS.aloadN X2.here hexec rfl (hb hbytes d6) rfl rfl ?_
    exact Steps.refl _)
  obtain ⟨T4, X4, q4, st4⟩ := X2.hget hexec hown (wk W (.fieldLink "java/lang/String" 15 "java/lang/String" "coder" "B")) (hx.mv X2.warmed.alike hh2) (g := (mkF m 7 #[.val (.ref x)] [.ref x])) rfl (rest := []) rfl (hb hbytes d7)
  have c5 : Steps p.tables e below (s₁.setTop (entryFrame m #[.ref x] 1)) (T4.setTop (mkF m 14 #[.val (.ref x)] [.int cd])) := (c3.trans (st4 _ (Steps.refl _))).trans (by
    refine XS.goto X4.here hexec rfl (pc0 := 10) rfl (hb hbytes d10) (by decide) rfl ?_
    exact Steps.refl _)
  exact ⟨T4, some (.int cd), _, _, _, X4, rfl, rfl, rfl, (fun h => by cases h), ⟨rfl, q4.trans hh2⟩, fun fs hl => c5.trans (X4.ireturnOut hexec hret (by rcases hc with rfl | rfl <;> rfl) (Or.inr (Or.inr (Or.inl rfl))) (hb hbytes d14) hl)⟩
end Cdr
namespace Len
def yN : MethodName := ⟨"java/lang/String", "length", "()I"⟩
abbrev yB : ByteArray := jdk_42_method_54_code
theorem d0 : decode yB 0 = .ok (.aload_n 0, 1) := by decide +kernel
theorem d1 : decode yB 1 = .ok (.getfield 9, 3) := by decide +kernel
theorem d4 : decode yB 4 = .ok (.arraylength, 1) := by decide +kernel
theorem d5 : decode yB 5 = .ok (.aload_n 0, 1) := by decide +kernel
theorem d6 : decode yB 6 = .ok (.invokevirtual 335, 3) := by decide +kernel
theorem d9 : decode yB 9 = .ok (.ishr, 1) := by decide +kernel
theorem d10 : decode yB 10 = .ok (.ireturn, 1) := by decide +kernel
def site : List Cond := [.fieldLink "java/lang/String" 9 "java/lang/String" "value" "[B", Cdr.tab] ++ virtW "java/lang/String" 335 "java/lang/String" Cdr.yN Cdr.yN
def tab : Cond := tabOf yN yB 1 (some .int) site
def P (x t : Addr) (V : Cell) (cd : Int32) (n : Nat) (f : Nat → Int32) (z : Int32) (args : Array Value) (s : State) : Prop := args = #[.ref x] ∧ Txt x t V cd n f s ∧ StaticIs s "java/lang/String" "COMPACT_STRINGS" "Z" (.int z) ∧ ¬ z = 0
def E (n : Nat) (r : Option Value) (s u : State) : Prop := XT.PureE (some (.int (Int32.ofNat n))) r s u
/-- length() of a String of n chars, in either coding -/
theorem law (l : Launch) (x t : Addr) (V : Cell) (cd : Int32) (n : Nat) (f : Nat → Int32) (z : Int32) : Law l yN 1 0 1 13 yB 1 (some .int) site (P x t V cd n f z) (E n) [] 0 0 := by
  refine Law.of_walk (plainFor_of_name (by decide +kernel)) (by decide +kernel) (by decide +kernel) (by decide) (fun _ _ h => by rw [h.1]; rfl) (fun _ U U' hal hh h => ⟨h.1, h.2.1.mv hal hh, h.2.2.1.there hal hh, h.2.2.2⟩) (fun r U U' V V' h1 hal h2 h => XT.PureE.mv r U U' V V' h1 hal h2 h) ?_
  intro p e s m args below meth c s₁ X0 hexec hbytes hml hret hlk hnm hown hh0 W hP
  obtain ⟨rfl, hx, s1, hz⟩ := hP
  have v31 := hx.2.2.2.1.2.2.2
  have c1 : Steps p.tables e below (s₁.setTop (entryFrame m #[.ref x] 1)) (s₁.setTop (mkF m 1 #[.val (.ref x)] [.ref x])) := Steps.trans (entry rfl) (by
    show Steps p.tables e below (s₁.setTop (mkF m 0 #[.val (.ref x)] [])) _
    refine XS.aloadN X0.here hexec rfl (hb hbytes d0) rfl rfl ?_
    exact Steps.refl _)
  obtain ⟨T2, X2, q2, st2⟩ := X0.hget hexec hown (wk W (.fieldLink "java/lang/String" 9 "java/lang/String" "value" "[B")) (hx.mv X0.warmed.alike hh0).2.1 (g := (mkF m 1 #[.val (.ref x)] [.ref x])) rfl (rest := []) rfl (hb hbytes d1)
  have hh2 := q2.trans hh0
  have hx2 := hx.mv X2.warmed.alike hh2
  have c3 : Steps p.tables e below (s₁.setTop (entryFrame m #[.ref x] 1)) (T2.setTop (mkF m 6 #[.val (.ref x)] [.ref x, .int (Int32.ofNat V.slots.size)])) := (c1.trans (st2 _ (Steps.refl _))).trans (by
    refine X2.alen hexec hx2.2.2.2.1 rfl rfl (hb hbytes d4) ?_
    refine XS.aloadN X2.here hexec rfl (hb hbytes d5) rfl rfl ?_
    exact Steps.refl _)
  obtain ⟨v4, T4, X4, E4, g4⟩ := X2.callV hexec (Cdr.law l x cd z) hown (wks W (virtW "java/lang/String" 335 "java/lang/String" Cdr.yN Cdr.yN)) rfl (by decide) (wk W Cdr.tab) (W := 1) (Nat.le_of_ble_eq_true rfl) (Nat.le_of_ble_eq_true rfl) (Nat.le_refl _) (Nat.le_refl _) (hx2.1.fc X2.warmed.alike) hx2.1.is (g := (mkF m 6 #[.val (.ref x)] [.ref x, .int (Int32.ofNat V.slots.size)])) rfl (by rw [hml]; rfl) c3 (argsL := []) (rest := [.int (Int32.ofNat V.slots.size)]) rfl rfl (by show 2 * 0 + (1 + 0) ≤ _; decide) (hb hbytes d6) (⟨rfl, hx2.2.2.1, hx.2.2.2.2.1.cd, s1.there X2.warmed.alike hh2, hz⟩)
  obtain ⟨rfl, q4⟩ := E4
  have c5 : Steps p.tables e below (s₁.setTop (entryFrame m #[.ref x] 1)) (T4.setTop (mkF m 10 #[.val (.ref x)] [.int (Int32.ofNat V.slots.size >>> (cd &&& 31))])) := Steps.trans g4 (by
    refine ishr X4.here hexec rfl (hb hbytes d9) rfl ?_
    exact Steps.refl _)
  rw [hx.2.2.2.2.1.len v31] at c5
  exact ⟨T4, some (.int (Int32.ofNat n)), _, _, _, X4, rfl, rfl, rfl, (fun h => by cases h), ⟨rfl, q4.trans hh2⟩, fun fs hl => c5.trans (X4.ireturnOut hexec hret rfl (Or.inl rfl) (hb hbytes d10) hl)⟩
theorem pays {l : Launch} {R : Room} {p : Program} {e : Env} {below : List Frame} {s : State} {sargs : Array Value} {len W : Nat} (x t : Addr) (V : Cell) (cd : Int32) (n : Nat) (f : Nat → Int32) (z : Int32) (htab : tab.before sargs s = true) (hfr : 2 ≤ R.frames) (hlo : W + 25 ≤ R.locals) :
    Back l R p e below s sargs yN len W (fun A₁ a₁ => A₁.cells + 0 ≤ R.cells ∧ A₁.slots + 0 ≤ R.slots ∧ P x t V cd n f z a₁ A₁.U) (fun A₁ _ v₁ B₁ => E n v₁ A₁.U B₁.U ∧ B₁.locs = A₁.locs ++ [] ∧ B₁.cells = A₁.cells + 0 ∧ B₁.slots = A₁.slots + 0) :=
  (law l x t V cd n f z).pays htab hfr (by omega)
end Len
end StrChars
namespace StrChars.Road
open Jvm Sem ClassFile Op Lib Jvm.Stand Jvm.Free Jvm.Free.XT
open Jvm.Lib.Cold (StaticIs)
theorem consq {a : Array Value} {s : State} {c : Jvm.Cond} {L : List Jvm.Cond} (h0 : c.before a s = true) (h : ∀ w ∈ L, w.before a s = true) : ∀ w ∈ c :: L, w.before a s = true := fun w hw => (List.mem_cons.mp hw).elim (fun e => e ▸ h0) (h w)
/-- the words of String.length(), either coding -/
abbrev wordsLen : List Jvm.Cond := [.code Len.yN Len.yB 1 (some .int), .initialized ST, .fieldLink ST 9 ST "value" "[B", .fieldLink ST 38 ST "COMPACT_STRINGS" "Z", .fieldLink ST 15 ST "coder" "B", .code Cdr.yN Cdr.yB 1 (some .byte), .methodLink ST 335 Cdr.yN, .declares Cdr.yN, .selects ST Cdr.yN Cdr.yN, .instanceMethod Cdr.yN]
theorem tabLen_of {a : Array Value} {s : State} (h : ∀ w ∈ wordsLen, w.before a s = true) : Len.tab.before a s = true := by
  have hc : Cdr.tab.before a s = true := unparts (wk h (.code Cdr.yN Cdr.yB 1 (some .byte))) (wks h (.initialized Cdr.yN.cls :: Cdr.site))
  have q := consq hc h
  exact unparts (wk q (.code Len.yN Len.yB 1 (some .int))) (wks q (.initialized Len.yN.cls :: Len.site))
theorem movedLen {Z s : State} {a0 args : Array Value} (hZ : Z.Warmed39 s.vm) (hw : ∀ d ∈ wordsLen, d.before a0 Z = true) : ∀ d ∈ wordsLen, d.before args s = true := fun d hd => by
  have q := hw d hd
  have t : ∀ d ∈ wordsLen, d = .arrayClass .byte ∨ (d.onTables && d.keepsFace) = true := by decide +kernel
  rcases t d hd with rfl | t
  · exact RoadKit.mvA hZ q
  · exact RoadKit.mv hZ q t
/-- the bytes of the chars cs, low before high -/
def wideBytes : List Int32 → List Value
  | [] => []
  | c :: cs => .int (lo8 c) :: .int (hi8 c) :: wideBytes cs
theorem wide_lo (d : Value) : ∀ (cs : List Int32) (j : Nat), j < cs.length → (wideBytes cs).getD (2 * j) d = .int (lo8 (cs.getD j 0))
  | [], j, h => absurd h (Nat.not_lt_zero j)
  | c :: cs, 0, _ => rfl
  | c :: cs, j + 1, h => by
    have q := wide_lo d cs j (by simpa using h)
    rw [show 2 * (j + 1) = 2 * j + 1 + 1 from by omega]
    simpa [wideBytes] using q
theorem wide_hi (d : Value) : ∀ (cs : List Int32) (j : Nat), j < cs.length → (wideBytes cs).getD (2 * j + 1) d = .int (hi8 (cs.getD j 0))
  | [], j, h => absurd h (Nat.not_lt_zero j)
  | c :: cs, 0, _ => rfl
  | c :: cs, j + 1, h => by
    have q := wide_hi d cs j (by simpa using h)
    rw [show 2 * (j + 1) + 1 = 2 * j + 1 + 1 + 1 from by omega]
    simpa [wideBytes] using q
theorem low_at (d : Value) (cs : List Int32) (j : Nat) (h : j < cs.length) : (cs.map fun c => Value.int (lo8 c)).getD j d = .int (lo8 (cs.getD j 0)) := by
  simp [List.getD_eq_getElem?_getD, h]
/-- an array of N2 bytes vs codes the chars cs by the coder cd -/
def CodA (cs : List Int32) (cd N2 : Int32) (vs : List Value) : Prop := (cd = 0 ∧ N2 = Int32.ofNat cs.length ∧ vs = (cs.map fun c => Value.int (lo8 c)) ∧ ∀ c ∈ cs, ¬ 255 < c) ∨ (cd = 1 ∧ N2 = Int32.ofNat (2 * cs.length) ∧ vs = wideBytes cs ∧ ∃ c ∈ cs, 255 < c)
theorem CodA.cod {cs : List Int32} {cd N2 : Int32} {vs : List Value} {V : Cell} (h : CodA cs cd N2 vs) (hn : 2 * cs.length < 2 ^ 31) (hs : V.slots.size = N2.toNatClampNeg) (hv : RoadKit.Has V vs (.int 0)) : Cod cd cs.length (fun j => cs.getD j 0) V := by
  rcases h with ⟨rfl, rfl, rfl, h⟩ | ⟨rfl, rfl, rfl, c, hc, hw⟩
  · rw [n32 (by omega)] at hs
    exact Or.inl ⟨rfl, hs, fun j hj => ⟨by rw [hv j (by omega), low_at _ _ _ hj], by
      have e : cs.getD j 0 = cs[j] := by simp [List.getD_eq_getElem?_getD, hj]
      show ¬ 255 < cs.getD j 0
      rw [e]; exact h _ (List.getElem_mem _)⟩⟩
  · rw [n32 (by omega)] at hs
    obtain ⟨j, hj, rfl⟩ := List.getElem_of_mem hc
    exact Or.inr ⟨rfl, hs, fun j hj => ⟨by rw [hv _ (by omega), wide_lo _ _ _ hj], by rw [hv _ (by omega), wide_hi _ _ _ hj]⟩, j, hj, by
      have e : cs.getD j 0 = cs[j] := by simp [List.getD_eq_getElem?_getD, hj]
      show 255 < cs.getD j 0
      rw [e]; exact hw⟩
/-- an object of exactly java/lang/String, its two fields found: as the laws ask it -/
theorem strObj {Z U : State} {a0 : Array Value} {kI : Nat} (wi : (Jvm.Cond.instantiable ST kI).before a0 Z = true) (al : Z.vm.Alike U.vm) {x : Addr} {v0 c0 : Value} (E : RoadKit.Exa Z U.heap x ST) (V : RoadKit.Fld Z U.heap x ST "value" "[B" v0) (C : RoadKit.Fld Z U.heap x ST "coder" "B" c0) :
    ∃ (D : Cell) (fV fC : Field), Blank ST x D U ∧ Found ST "value" "[B" fV U ∧ Found ST "coder" "B" fC U ∧ D.slots[fV.slot]? = some v0 ∧ D.slots[fC.slot]? = some c0 ∧ RoadKit.slotOf Z ST "value" "[B" = fV.slot ∧ RoadKit.slotOf Z ST "coder" "B" = fC.slot := by
  obtain ⟨D, cfV, kV, iV, fV, hD, gV, stV, knV, obV, asV, slV⟩ := V
  obtain ⟨D', cfC, kC, iC, fC, hD', gC, stC, -, -, asC, slC⟩ := C
  cases hD.symm.trans hD'
  obtain ⟨D2, kD, e1, e2, e3, e4, e5⟩ := E
  cases hD.symm.trans e1
  obtain ⟨c2, k2, i1, i2, i3, -⟩ := Cond.instantiable_spec wi
  cases e2.symm.trans i1
  cases e3.symm.trans i2
  obtain ⟨kU, u1, u2⟩ := al.2.2 _ _ e3
  exact ⟨D, fV, fC, ⟨hD, ⟨knV, fun q hq => by rw [hq] at obV; cases obV⟩, by rw [al.findClass]; exact e2, kU, u1, by rw [u2]; exact i3, by rw [u2]; exact e5 i3⟩, ⟨SBG.found_only al ⟨cfV, kV, iV, gV⟩, stV⟩, ⟨SBG.found_only al ⟨cfC, kC, iC, gC⟩, stC⟩, slV, slC, by simp [RoadKit.slotOf, gV], by simp [RoadKit.slotOf, gC]⟩
theorem sta_is {Z U : State} (al : Z.vm.Alike U.vm) {C n d : String} {v : Value} (S : RoadKit.Sta Z U.heap C n d v) : StaticIs U C n d v := by
  obtain ⟨cfS, iS, kS, fS, st, cS, t1, t2, t3, t4, t5, t6, t7⟩ := S
  exact StaticIs.there (s := { Z with heap := U.heap }) ⟨cfS, iS, kS, fS, st, cS, t1, t2, t3, t4, t5, (fun q => by rw [q] at t6; cases t6), t7⟩ al rfl
/-- **length() OF SUCH A STRING** -/
theorem lenW {p : Program} {l : Launch} {e : Env} {R : Room} {s : State} {args : Array Value} {below : List Frame} {len W : Nat} {Z : State} {a0 : Array Value} {h : Heap} (hZ : Z.Warmed39 s.vm) (hw : ∀ d ∈ wordsLen, d.before a0 Z = true) {kI : Nat} (wi : (Jvm.Cond.instantiable ST kI).before a0 Z = true)
    {x t : Addr} {kb : ClassId} {cs : List Int32} {cd N2 z : Int32} {vs : List Value} (E : RoadKit.Exa Z h x ST) (V : RoadKit.Fld Z h x ST "value" "[B" (.ref t)) (C : RoadKit.Fld Z h x ST "coder" "B" (.int cd)) (K : RoadKit.Arv Z h t kb .byte N2 vs (.int 0)) (hc : CodA cs cd N2 vs) (hb : ∀ c ∈ cs, ¬ c < 0 ∧ ¬ (65535 : Int32) < c)
    (S : RoadKit.Sta Z h ST "COMPACT_STRINGS" "Z" (.int z)) (hz : ¬ z = 0) (l2 : cs.length ≤ 4000) (hfr : 2 ≤ R.frames) (hlo : W + 25 ≤ R.locals) :
    Back l R p e below s args (⟨"java/lang/String", "length", "()I"⟩ : MethodName) len W (fun P a => a = #[.ref x] ∧ P.U.heap = h ∧ P.cells + 0 ≤ R.cells ∧ P.slots + 0 ≤ R.slots)
      (fun P _ v B => ∃ L, (v = some (.int (Int32.ofNat cs.length)) ∧ L = [] ∧ B.U.heap = h) ∧ B.locs = P.locs ++ L ∧ B.cells = P.cells + 0 ∧ B.slots = P.slots + 0) := by
  obtain ⟨A, K1, K2, K3, K4, K5, K6⟩ := K
  have hcod := hc.cod (by omega) K3 K5
  intro m meth c P g ig mk a X hg hsize hdg hW hn hp'
  obtain ⟨rfl, rfl, r1, r2⟩ := hp'
  have al : Z.vm.Alike P.U.vm := hZ.alike.trans X.warmed.alike
  obtain ⟨D, fV, fC, hB, F1, F2, g1, g2, -, -⟩ := strObj wi al E V C
  have hx : Txt x t A cd cs.length (fun j => cs.getD j 0) P.U := ⟨⟨_, hB.2.2.1, D, hB.1, rfl, by cases q : D.vm <;> first | rfl | exact absurd q (hB.2.1.2 _)⟩, Has.of hB F1 g1, Has.of hB F2 g2, ⟨K1.1, State.isArrayOf_alike al K1.2.1, K1.2.2, by rcases hcod with ⟨-, q, -⟩ | ⟨-, q, -⟩ <;> omega⟩, hcod, fun j hj => by
    have e : cs.getD j 0 = cs[j] := by simp [List.getD_eq_getElem?_getD, hj]
    show ¬ cs.getD j 0 < 0 ∧ ¬ 65535 < cs.getD j 0
    rw [e]; exact hb _ (List.getElem_mem _)⟩
  obtain ⟨v, B, X', ⟨⟨hv, hh⟩, hl, hk, hs⟩, st⟩ := Len.pays x t A cd cs.length (fun j => cs.getD j 0) z (tabLen_of (movedLen hZ hw)) hfr hlo m meth c P g ig mk _ X hg hsize hdg hW hn ⟨r1, r2, rfl, hx, sta_is al S, hz⟩
  exact ⟨v, B, X', ⟨[], ⟨hv, rfl, hh⟩, hl, hk, hs⟩, st⟩
end StrChars.Road
namespace StrChars.Road
open Jvm Sem ClassFile Op Lib Jvm.Stand Jvm.Free Jvm.Free.XT
open Jvm.Lib.Cold (StaticIs)
/-- what backV says of its String, as the contracts of this text ask it: cs's low bytes, coder 0 -/
theorem codOf {cs : List Int32} {n : Nat} (hn : cs.length = n) (hb : ∀ c ∈ cs, ¬ 255 < c) : CodA cs 0 (Int32.ofNat n) ((cs.map lo8).map Value.int) := Or.inl ⟨rfl, by rw [hn], by simp [List.map_map, Function.comp_def], hb⟩
end StrChars.Road
end Jvm.Pilot.@@N@@
namespace Jvm.Pilot.@@N@@
open Jvm Jvm.ClassFile Sem Op Lib Jvm.Free Jvm.Stand Jvm.LawKit Jvm.RoadKit Bundle Jvm.Pilot.@@N@@.Jvm.D
namespace Wd
section Strs
variable {p : Program} {l : Launch} {e : Env} {R : Room} {s : State} {args : Array Value} {below : List Frame} {Z : State} {EL : List (String × Nat)} {n0 : Nat} {h h' : Heap} {WL FL : List Addr} {a0 : Array Value} {len W : Nat} {x t : Addr} {cs : List Int32}
abbrev lat (cs : List Int32) : List Value := (cs.map fun c => c.toInt8.toInt32).map Value.int
/-- x is a String of the chars cs, each at most 255; t its bytes -/
def StrL (Z : State) (h : Heap) (x t : Addr) (cs : List Int32) : Prop :=
  Exa Z h x "java/lang/String" ∧ Fld Z h x "java/lang/String" "value" "[B" (.ref t) ∧ Fld Z h x "java/lang/String" "coder" "B" (.int 0) ∧ (∃ kb, Arv Z h t kb .byte (Int32.ofNat cs.length) (lat cs) (.int 0)) ∧ (∀ c ∈ cs, ¬ c < 0 ∧ ¬ (255 : Int32) < c) ∧ cs.length ≤ 4000
theorem StrL.ext (S : StrL Z h x t cs) (E : Ext h h') : StrL Z h' x t cs := by
  obtain ⟨s1, s2, s3, ⟨kb, s4⟩, s5⟩ := S; exact ⟨s1.ext E, s2.ext E, s3.ext E, ⟨kb, s4.ext E⟩, s5⟩
theorem StrL.keep {ws : List Addr} (S : StrL Z h x t cs) (K : Keep h h' ws) (h1 : x ∉ ws) (h2 : t ∉ ws) : StrL Z h' x t cs := by
  obtain ⟨s1, s2, s3, ⟨kb, s4⟩, s5⟩ := S; exact ⟨s1.keep K, s2.keep K h1, s3.keep K h1, ⟨kb, s4.keep K h2⟩, s5⟩
theorem StrL.wr {a : Addr} {sl : Nat} {v : Value} (S : StrL Z h x t cs) (W : Wr h h' a sl v) (h1 : x ≠ a) (h2 : t ≠ a) : StrL Z h' x t cs := by
  obtain ⟨s1, s2, s3, ⟨kb, s4⟩, s5⟩ := S; exact ⟨s1.wr W, s2.other W (Or.inl h1), s3.other W (Or.inl h1), ⟨kb, s4.other W h2⟩, s5⟩
/-- what new String(chars) leaves -/
def QNew (Z : State) (x : Addr) (cs : List Int32) (h : Heap) (v : Option Value) (h' : Heap) (WL' FL' : List Addr) : Prop := ∃ t : Addr, v = none ∧ WL' = [] ∧ FL' = [t] ∧ Keep h h' [x] ∧ StrL Z h' x t cs
theorem StrL.up (S : StrL Z h x t cs) : ∀ c ∈ cs, ¬ c < 0 ∧ ¬ (65535 : Int32) < c := fun c hc => ⟨(S.2.2.2.2.1 c hc).1, fun q => (S.2.2.2.2.1 c hc).2 (by rw [Int32.lt_iff_toInt_lt] at q ⊢; have e1 : (65535 : Int32).toInt = 65535 := rfl; have e2 : (255 : Int32).toInt = 255 := rfl; omega)⟩
theorem StrL.cod (S : StrL Z h x t cs) : StrChars.Road.CodA cs 0 (Int32.ofNat cs.length) (lat cs) := StrChars.Road.codOf rfl (fun c hc => (S.2.2.2.2.1 c hc).2)
theorem pay_new (hw : ∀ d ∈ StrChars.Road.words, d.before a0 Z = true) {kI : Nat} (wi : (Jvm.Cond.instantiable "java/lang/String" kI).before a0 Z = true) {b : Addr} {kC : ClassId} {d v0 c0 : Value} {z N : Int32} {n : Nat} (ge : n0 ≤ x) (ge' : n0 ≤ h.size) (hx : x ∈ WL) (E : Exa Z h x "java/lang/String") (V : Fld Z h x "java/lang/String" "value" "[B" v0) (C : Fld Z h x "java/lang/String" "coder" "B" c0) (A : Arv Z h b kC .char N (cs.map Value.int) d) (S : Sta Z h "java/lang/String" "COMPACT_STRINGS" "Z" (.int z)) (hz : ¬ z = 0)
    (hn : cs.length = n) (hN : N = Int32.ofNat n) (l0 : 0 < n) (l2 : n ≤ 4000) (hp : ∀ c ∈ cs, ¬ c < 0 ∧ ¬ (255 : Int32) < c) (hfr : 4 ≤ R.frames) (hlo : W + 65 ≤ R.locals) :
    Pay l R p e below s args Z EL n0 (⟨"java/lang/String", "<init>", "([C)V"⟩ : MethodName) len W #[.ref x, .ref b] h WL FL 1 n (QNew Z x cs h) :=
  Pay.ofN (fun vm0 hZ => StrChars.Road.backV (n0 := n0) hZ hw wi ge ge' E V C A S hz hn hN l0 l2 hp rfl hfr hlo) (fun v h' L ⟨q1, q2, q3, q4, q5, t, kb, q6, q7, q8, q9, q10⟩ => by
    refine ⟨q2, [x], [t], q3, allS hx all0, allS ⟨q7, q10.lt⟩ all0, t, q1, rfl, rfl, q3, q4, q9, q5, ⟨kb, ?_⟩, hp, by omega⟩
    rw [hN] at q10; rw [hn]; exact q10)
theorem pay_len (hw : ∀ d ∈ StrChars.Road.wordsLen, d.before a0 Z = true) {kI : Nat} (wi : (Jvm.Cond.instantiable "java/lang/String" kI).before a0 Z = true) {z : Int32} (S : StrL Z h x t cs) (O : Sta Z h "java/lang/String" "COMPACT_STRINGS" "Z" (.int z)) (hz : ¬ z = 0) (hfr : 2 ≤ R.frames) (hlo : W + 25 ≤ R.locals) :
    Pay l R p e below s args Z EL n0 (⟨"java/lang/String", "length", "()I"⟩ : MethodName) len W #[.ref x] h WL FL 0 0 (fun v h' WL' FL' => v = some (.int (Int32.ofNat cs.length)) ∧ WL' = [] ∧ FL' = [] ∧ h' = h) := by
  have up := S.up; have cd := S.cod
  obtain ⟨s1, s2, s3, ⟨kb, s4⟩, s5, s6⟩ := S
  exact Pay.ofN (Qn := fun v h' L => v = some (.int (Int32.ofNat cs.length)) ∧ L = [] ∧ h' = h) (fun vm0 hZ => StrChars.Road.lenW hZ hw wi s1 s2 s3 s4 cd up O hz s6 hfr hlo) (fun v h' L ⟨q1, q2, q3⟩ => by
    subst q2 q3
    exact ⟨Fr.nil _, [], [], Keep.refl _ _, all0, all0, q1, rfl, rfl, rfl⟩)
end Strs
end Wd
end Jvm.Pilot.@@N@@
namespace Jvm.Pilot.@@N@@
open Jvm Jvm.ClassFile Sem Op Lib Jvm.Free Jvm.Stand Jvm.LawKit Jvm.RoadKit Bundle Jvm.Pilot.@@N@@.Jvm.D Wd
theorem nlt {a b : Nat} (h : Nat.ble (a + 1) b = true) : a < b := Nat.le_of_ble_eq_true h
theorem nle {a b : Nat} (h : Nat.ble a b = true) : a ≤ b := Nat.le_of_ble_eq_true h
theorem fc0 {P : Int32 → Prop} : ∀ c ∈ ([] : List Int32), P c := fun _ q => nomatch q
theorem fcS {P : Int32 → Prop} {y : Int32} {L : List Int32} (q : P y) (r : ∀ c ∈ L, P c) : ∀ c ∈ y :: L, P c := fun c z => (List.mem_cons.mp z).elim (fun u => u ▸ q) (r c)
theorem msk {x m : Int32} {k : Nat} (hk : k ≤ 31) (hm : m.toBitVec.toNat = 2 ^ k - 1) : (x &&& m).toInt = x.toInt % (2 ^ k : Nat) := c_mask x m k hk hm
theorem rng255 (x : Int32) : ¬ (x &&& 255) < 0 ∧ ¬ (255 : Int32) < (x &&& 255) := by
  have h := c_mask x 255 8 (by decide) (by decide)
  rw [Int32.lt_iff_toInt_lt, Int32.lt_iff_toInt_lt, h]
  have e1 : (255 : Int32).toInt = 255 := rfl
  have e2 : (0 : Int32).toInt = 0 := rfl
  have e3 : ((2 ^ 8 : Nat) : Int) = 256 := rfl
  rw [e1, e2, e3]
  omega
theorem nar255 (x : Int32) : nar .char (x &&& 255) = x &&& 255 := i2c_mask x
theorem and3 (x : Int32) : x &&& 3 = 0 ∨ x &&& 3 = 1 ∨ x &&& 3 = 2 ∨ x &&& 3 = 3 := by
  have h := c_mask x 3 2 (by decide) (by decide)
  have e3 : ((2 ^ 2 : Nat) : Int) = 4 := rfl
  rw [e3] at h
  have : (x &&& 3).toInt = 0 ∨ (x &&& 3).toInt = 1 ∨ (x &&& 3).toInt = 2 ∨ (x &&& 3).toInt = 3 := by omega
  rcases this with q | q | q | q
  · exact Or.inl (Int32.toInt_inj.mp q)
  · exact Or.inr (Or.inl (Int32.toInt_inj.mp q))
  · exact Or.inr (Or.inr (Or.inl (Int32.toInt_inj.mp q)))
  · exact Or.inr (Or.inr (Or.inr (Int32.toInt_inj.mp q)))
theorem ofn {c : Int32} (h : ¬ c < 0 ∧ ¬ (255 : Int32) < c) : ∃ k : Fin 256, c = Int32.ofNat k.val := by
  have h1 := h.1; have h2 := h.2
  rw [Int32.lt_iff_toInt_lt] at h1 h2
  have e1 : (255 : Int32).toInt = 255 := rfl
  have e2 : (0 : Int32).toInt = 0 := rfl
  rw [e2] at h1; rw [e1] at h2
  refine ⟨⟨c.toInt.toNat, by omega⟩, Int32.toInt_inj.mp ?_⟩
  rw [Int32.toInt_ofNat_small (show c.toInt.toNat < 2 ^ 31 by omega)]
  show c.toInt = ((c.toInt.toNat : Nat) : Int)
  omega
theorem narR {c : Int32} (h : ¬ c < 0 ∧ ¬ (255 : Int32) < c) : nar .char c = c := by
  obtain ⟨k, rfl⟩ := ofn h
  exact (by decide +kernel : ∀ k : Fin 256, nar .char (Int32.ofNat k.val) = Int32.ofNat k.val) k
theorem b8 {c : Int32} (h : ¬ c < 0 ∧ ¬ (255 : Int32) < c) (d : Int32) (hd : ∀ k : Fin 256, (Int32.ofNat k.val).toInt8.toInt32 = d ↔ Int32.ofNat k.val = d) : c.toInt8.toInt32 = d ↔ c = d := by
  obtain ⟨k, rfl⟩ := ofn h
  exact hd k
def EL1 : List (String × Nat) := consts_1
theorem rg16 {c : Int32} (h : ¬ c < 0 ∧ ¬ (65535 : Int32) < c) : 0 ≤ c.toInt ∧ c.toInt ≤ 65535 := by
  have h1 := h.1; have h2 := h.2
  rw [Int32.lt_iff_toInt_lt] at h1 h2
  have e1 : (65535 : Int32).toInt = 65535 := rfl
  have e2 : (0 : Int32).toInt = 0 := rfl
  omega
theorem uU {c : Int32} (h : ¬ c < 0 ∧ ¬ (65535 : Int32) < c) : ((((c.toInt8.toInt32) &&& (255 : Int32)) <<< ((0 : Int32) &&& 31)) ||| ((((c >>> ((8 : Int32) &&& 31)).toInt8.toInt32) &&& (255 : Int32)) <<< ((8 : Int32) &&& 31))).toUInt32.toUInt16.toUInt32.toInt32 = c := by
  obtain ⟨g1, g2⟩ := rg16 h
  have a1 := c_i2b c
  have a2 := c_mask (c.toInt8.toInt32) 255 8 (by decide) (by decide)
  have a3 := c_ishl ((c.toInt8.toInt32) &&& (255 : Int32)) 0 0 (by decide)
  have b0 := c_ishr c 8 8 (by decide)
  have b1 := c_i2b (c >>> ((8 : Int32) &&& 31))
  have b2 := c_mask ((c >>> ((8 : Int32) &&& 31)).toInt8.toInt32) 255 8 (by decide) (by decide)
  have b3 := c_ishl (((c >>> ((8 : Int32) &&& 31)).toInt8.toInt32) &&& (255 : Int32)) 8 8 (by decide)
  generalize hA : (((c.toInt8.toInt32) &&& (255 : Int32)) <<< ((0 : Int32) &&& 31)) = A at *
  generalize hB : ((((c >>> ((8 : Int32) &&& 31)).toInt8.toInt32) &&& (255 : Int32)) <<< ((8 : Int32) &&& 31)) = B at *
  have e8 : ((2 ^ 8 : Nat) : Int) = 256 := rfl
  have e0 : ((2 ^ 0 : Nat) : Int) = 1 := rfl
  rw [e8] at a2 b0 b2 b3
  rw [e0] at a3
  have rA := rng32 A
  have rB := rng32 B
  have d := c_or' A B 8 (by decide) 256 rfl (by omega) (by omega) (by omega)
  have f := c_i2c (A ||| B)
  have rO := rng32 (A ||| B)
  apply Int32.toInt_inj.mp
  omega
theorem narU {c : Int32} (h : ¬ c < 0 ∧ ¬ (65535 : Int32) < c) : nar .char c = c := by
  obtain ⟨g1, g2⟩ := rg16 h
  have f := c_i2c c
  show c.toUInt32.toUInt16.toUInt32.toInt32 = c
  apply Int32.toInt_inj.mp
  omega
theorem rgC (x : Int32) : ¬ (x.toUInt32.toUInt16.toUInt32.toInt32) < 0 ∧ ¬ (65535 : Int32) < (x.toUInt32.toUInt16.toUInt32.toInt32) := by
  have f := c_i2c x
  rw [Int32.lt_iff_toInt_lt, Int32.lt_iff_toInt_lt]
  have e1 : (65535 : Int32).toInt = 65535 := rfl
  have e2 : (0 : Int32).toInt = 0 := rfl
  omega
theorem narB {c : Int32} : nar .byte (c.toInt8.toInt32) = c.toInt8.toInt32 := by simp [nar]
theorem shr00 (x : Int32) : x >>> ((0 : Int32) &&& 31) = x := by
  have e : ((0 : Int32) &&& 31) = 0 := rfl
  rw [e]; simp
theorem kr {k : Int32} (h : k = 9 ∨ k = 10 ∨ k = 13) : ¬ k < 0 ∧ ¬ (255 : Int32) < k := by rcases h with rfl | rfl | rfl <;> decide
theorem kr6 {k : Int32} (h : k = 9 ∨ k = 10 ∨ k = 13) : k < (65536 : Int32) := by rcases h with rfl | rfl | rfl <;> decide
theorem bk {c k : Int32} (hc : ¬ c < 0 ∧ ¬ (255 : Int32) < c) (h : k = 9 ∨ k = 10 ∨ k = 13) : c.toInt8.toInt32 = k.toInt8.toInt32 ↔ c = k := by
  rcases h with rfl | rfl | rfl
  · exact b8 hc 9 (by decide +kernel)
  · exact b8 hc 10 (by decide +kernel)
  · exact b8 hc 13 (by decide +kernel)
def Cx (a0 : Array Value) (Z : State) (gC : Int32) (gF : Value) : Prop := (∀ d ∈ tables_1, d.before a0 Z = true) ∧ (Sta Z Z.heap "java/lang/String" "COMPACT_STRINGS" "Z" (.int gC)) ∧ (¬ gC = (0 : Int32)) ∧ (Sta Z Z.heap "jdk/internal/util/Preconditions" "SIOOBE_FORMATTER" "Ljava/util/function/BiFunction;" gF) ∧ (gF.isRef = true) ∧ (Sta Z Z.heap "java/lang/StringUTF16" "$assertionsDisabled" "Z" (.int 1)) ∧ (Sta Z Z.heap "java/lang/StringUTF16" "HI_BYTE_SHIFT" "I" (.int 0)) ∧ (Sta Z Z.heap "java/lang/StringUTF16" "LO_BYTE_SHIFT" "I" (.int 8))
def txt (i : Nat) : String := match tables_1[i]? with | some (Jvm.Cond.stringLink _ _ t) => t | _ => ""
theorem w0 {Z : State} {a0 : Array Value} {gC : Int32} {gF : Value} (cx : Cx a0 Z gC gF) : (Jvm.Cond.methodLink "com/example/lynceus/lynceus/BagIsPrintablePinLaw" (8 : Nat) ({ cls := "com/example/lynceus/lynceus/BagIsPrintablePinLaw", name := "draw", desc := "(I)C" } : Jvm.MethodName)).before a0 Z = true := cx.1 _ (List.mem_of_getElem? (i := 0) rfl)
theorem w1 {Z : State} {a0 : Array Value} {gC : Int32} {gF : Value} (cx : Cx a0 Z gC gF) : (Jvm.Cond.static ({ cls := "com/example/lynceus/lynceus/BagIsPrintablePinLaw", name := "draw", desc := "(I)C" } : Jvm.MethodName)).before a0 Z = true := cx.1 _ (List.mem_of_getElem? (i := 1) rfl)
theorem w2 {Z : State} {a0 : Array Value} {gC : Int32} {gF : Value} (cx : Cx a0 Z gC gF) : (Jvm.Cond.initialized "com/example/lynceus/lynceus/BagIsPrintablePinLaw").before a0 Z = true := cx.1 _ (List.mem_of_getElem? (i := 2) rfl)
theorem w3 {Z : State} {a0 : Array Value} {gC : Int32} {gF : Value} (cx : Cx a0 Z gC gF) : (Jvm.Cond.code ({ cls := "com/example/lynceus/lynceus/BagIsPrintablePinLaw", name := "draw", desc := "(I)C" } : Jvm.MethodName) method_2_code (2 : Nat) (Option.some Jvm.ClassFile.FieldType.char)).before a0 Z = true := cx.1 _ (List.mem_of_getElem? (i := 3) rfl)
theorem w4 {Z : State} {a0 : Array Value} {gC : Int32} {gF : Value} (cx : Cx a0 Z gC gF) : (Jvm.Cond.constant "com/example/lynceus/lynceus/BagIsPrintablePinLaw" (7 : Nat) (65535 : Int32)).before a0 Z = true := cx.1 _ (List.mem_of_getElem? (i := 4) rfl)
theorem w5 {Z : State} {a0 : Array Value} {gC : Int32} {gF : Value} (cx : Cx a0 Z gC gF) : (Jvm.Cond.classLink "com/example/lynceus/lynceus/BagIsPrintablePinLaw" (14 : Nat) "java/lang/String").before a0 Z = true := cx.1 _ (List.mem_of_getElem? (i := 5) rfl)
theorem w6 {Z : State} {a0 : Array Value} {gC : Int32} {gF : Value} (cx : Cx a0 Z gC gF) : (Jvm.Cond.instantiable "java/lang/String" (4 : Nat)).before a0 Z = true := cx.1 _ (List.mem_of_getElem? (i := 6) rfl)
theorem w7 {Z : State} {a0 : Array Value} {gC : Int32} {gF : Value} (cx : Cx a0 Z gC gF) : (Jvm.Cond.initialized "java/lang/String").before a0 Z = true := cx.1 _ (List.mem_of_getElem? (i := 7) rfl)
theorem w8 {Z : State} {a0 : Array Value} {gC : Int32} {gF : Value} (cx : Cx a0 Z gC gF) : (Jvm.Cond.arrayClass Jvm.ClassFile.FieldType.char).before a0 Z = true := cx.1 _ (List.mem_of_getElem? (i := 8) rfl)
theorem w9 {Z : State} {a0 : Array Value} {gC : Int32} {gF : Value} (cx : Cx a0 Z gC gF) : (Jvm.Cond.methodLink "com/example/lynceus/lynceus/BagIsPrintablePinLaw" (16 : Nat) ({ cls := "java/lang/String", name := "<init>", desc := "([C)V" } : Jvm.MethodName)).before a0 Z = true := cx.1 _ (List.mem_of_getElem? (i := 9) rfl)
theorem w10 {Z : State} {a0 : Array Value} {gC : Int32} {gF : Value} (cx : Cx a0 Z gC gF) : (Jvm.Cond.instanceMethod ({ cls := "java/lang/String", name := "<init>", desc := "([C)V" } : Jvm.MethodName)).before a0 Z = true := cx.1 _ (List.mem_of_getElem? (i := 10) rfl)
theorem w11 {Z : State} {a0 : Array Value} {gC : Int32} {gF : Value} (cx : Cx a0 Z gC gF) : (Jvm.Cond.code ({ cls := "java/lang/String", name := "<init>", desc := "([C)V" } : Jvm.MethodName) jdk_42_method_3_code (2 : Nat) (Option.none : Option Jvm.ClassFile.FieldType)).before a0 Z = true := cx.1 _ (List.mem_of_getElem? (i := 11) rfl)
theorem w12 {Z : State} {a0 : Array Value} {gC : Int32} {gF : Value} (cx : Cx a0 Z gC gF) : (Jvm.Cond.methodLink "java/lang/String" (27 : Nat) ({ cls := "java/lang/String", name := "<init>", desc := "([CIILjava/lang/Void;)V" } : Jvm.MethodName)).before a0 Z = true := cx.1 _ (List.mem_of_getElem? (i := 12) rfl)
theorem w13 {Z : State} {a0 : Array Value} {gC : Int32} {gF : Value} (cx : Cx a0 Z gC gF) : (Jvm.Cond.instanceMethod ({ cls := "java/lang/String", name := "<init>", desc := "([CIILjava/lang/Void;)V" } : Jvm.MethodName)).before a0 Z = true := cx.1 _ (List.mem_of_getElem? (i := 13) rfl)
theorem w15 {Z : State} {a0 : Array Value} {gC : Int32} {gF : Value} (cx : Cx a0 Z gC gF) : (Jvm.Cond.code ({ cls := "java/lang/String", name := "<init>", desc := "([CIILjava/lang/Void;)V" } : Jvm.MethodName) jdk_42_method_149_code (6 : Nat) (Option.none : Option Jvm.ClassFile.FieldType)).before a0 Z = true := cx.1 _ (List.mem_of_getElem? (i := 15) rfl)
theorem w16 {Z : State} {a0 : Array Value} {gC : Int32} {gF : Value} (cx : Cx a0 Z gC gF) : (Jvm.Cond.methodLink "java/lang/String" (1 : Nat) ({ cls := "java/lang/Object", name := "<init>", desc := "()V" } : Jvm.MethodName)).before a0 Z = true := cx.1 _ (List.mem_of_getElem? (i := 16) rfl)
theorem w17 {Z : State} {a0 : Array Value} {gC : Int32} {gF : Value} (cx : Cx a0 Z gC gF) : (Jvm.Cond.instanceMethod ({ cls := "java/lang/Object", name := "<init>", desc := "()V" } : Jvm.MethodName)).before a0 Z = true := cx.1 _ (List.mem_of_getElem? (i := 17) rfl)
theorem w18 {Z : State} {a0 : Array Value} {gC : Int32} {gF : Value} (cx : Cx a0 Z gC gF) : (Jvm.Cond.code ({ cls := "java/lang/Object", name := "<init>", desc := "()V" } : Jvm.MethodName) object_method_1_code (1 : Nat) (Option.none : Option Jvm.ClassFile.FieldType)).before a0 Z = true := cx.1 _ (List.mem_of_getElem? (i := 18) rfl)
theorem w19 {Z : State} {a0 : Array Value} {gC : Int32} {gF : Value} (cx : Cx a0 Z gC gF) : (Jvm.Cond.stringLink "java/lang/String" (7 : Nat) (txt 19)).before a0 Z = true := cx.1 _ (List.mem_of_getElem? (i := 19) rfl)
theorem w20 {Z : State} {a0 : Array Value} {gC : Int32} {gF : Value} (cx : Cx a0 Z gC gF) : (Jvm.Cond.arrayClass Jvm.ClassFile.FieldType.byte).before a0 Z = true := cx.1 _ (List.mem_of_getElem? (i := 20) rfl)
theorem w21 {Z : State} {a0 : Array Value} {gC : Int32} {gF : Value} (cx : Cx a0 Z gC gF) : (Jvm.Cond.laysFinal "java/lang/String" "java/lang/String" "value" "[B").before a0 Z = true := cx.1 _ (List.mem_of_getElem? (i := 21) rfl)
theorem w22 {Z : State} {a0 : Array Value} {gC : Int32} {gF : Value} (cx : Cx a0 Z gC gF) : (Jvm.Cond.laysFinal "java/lang/String" "java/lang/String" "coder" "B").before a0 Z = true := cx.1 _ (List.mem_of_getElem? (i := 22) rfl)
theorem w25 {Z : State} {a0 : Array Value} {gC : Int32} {gF : Value} (cx : Cx a0 Z gC gF) : (Jvm.Cond.fieldLink "java/lang/String" (9 : Nat) "java/lang/String" "value" "[B").before a0 Z = true := cx.1 _ (List.mem_of_getElem? (i := 25) rfl)
theorem w26 {Z : State} {a0 : Array Value} {gC : Int32} {gF : Value} (cx : Cx a0 Z gC gF) : (Jvm.Cond.fieldLink "java/lang/String" (15 : Nat) "java/lang/String" "coder" "B").before a0 Z = true := cx.1 _ (List.mem_of_getElem? (i := 26) rfl)
theorem w27 {Z : State} {a0 : Array Value} {gC : Int32} {gF : Value} (cx : Cx a0 Z gC gF) : (Jvm.Cond.methodLink "com/example/lynceus/lynceus/BagIsPrintablePinLaw" (23 : Nat) ({ cls := "com/example/lynceus/lynceus/Bag", name := "isPrintable", desc := "(Ljava/lang/String;)Z" } : Jvm.MethodName)).before a0 Z = true := cx.1 _ (List.mem_of_getElem? (i := 27) rfl)
theorem w28 {Z : State} {a0 : Array Value} {gC : Int32} {gF : Value} (cx : Cx a0 Z gC gF) : (Jvm.Cond.static ({ cls := "com/example/lynceus/lynceus/Bag", name := "isPrintable", desc := "(Ljava/lang/String;)Z" } : Jvm.MethodName)).before a0 Z = true := cx.1 _ (List.mem_of_getElem? (i := 28) rfl)
theorem w29 {Z : State} {a0 : Array Value} {gC : Int32} {gF : Value} (cx : Cx a0 Z gC gF) : (Jvm.Cond.initialized "com/example/lynceus/lynceus/Bag").before a0 Z = true := cx.1 _ (List.mem_of_getElem? (i := 29) rfl)
theorem w30 {Z : State} {a0 : Array Value} {gC : Int32} {gF : Value} (cx : Cx a0 Z gC gF) : (Jvm.Cond.code ({ cls := "com/example/lynceus/lynceus/Bag", name := "isPrintable", desc := "(Ljava/lang/String;)Z" } : Jvm.MethodName) prog_1_method_3_code (1 : Nat) (Option.some Jvm.ClassFile.FieldType.boolean)).before a0 Z = true := cx.1 _ (List.mem_of_getElem? (i := 30) rfl)
theorem w31 {Z : State} {a0 : Array Value} {gC : Int32} {gF : Value} (cx : Cx a0 Z gC gF) : (Jvm.Cond.methodLink "com/example/lynceus/lynceus/Bag" (68 : Nat) ({ cls := "java/lang/String", name := "indexOf", desc := "(I)I" } : Jvm.MethodName)).before a0 Z = true := cx.1 _ (List.mem_of_getElem? (i := 31) rfl)
theorem w32 {Z : State} {a0 : Array Value} {gC : Int32} {gF : Value} (cx : Cx a0 Z gC gF) : (Jvm.Cond.declares ({ cls := "java/lang/String", name := "indexOf", desc := "(I)I" } : Jvm.MethodName)).before a0 Z = true := cx.1 _ (List.mem_of_getElem? (i := 32) rfl)
theorem w33 {Z : State} {a0 : Array Value} {gC : Int32} {gF : Value} (cx : Cx a0 Z gC gF) : (Jvm.Cond.instanceMethod ({ cls := "java/lang/String", name := "indexOf", desc := "(I)I" } : Jvm.MethodName)).before a0 Z = true := cx.1 _ (List.mem_of_getElem? (i := 33) rfl)
theorem w34 {Z : State} {a0 : Array Value} {gC : Int32} {gF : Value} (cx : Cx a0 Z gC gF) : (Jvm.Cond.selects "java/lang/String" ({ cls := "java/lang/String", name := "indexOf", desc := "(I)I" } : Jvm.MethodName) ({ cls := "java/lang/String", name := "indexOf", desc := "(I)I" } : Jvm.MethodName)).before a0 Z = true := cx.1 _ (List.mem_of_getElem? (i := 34) rfl)
theorem w35 {Z : State} {a0 : Array Value} {gC : Int32} {gF : Value} (cx : Cx a0 Z gC gF) : (Jvm.Cond.code ({ cls := "java/lang/String", name := "indexOf", desc := "(I)I" } : Jvm.MethodName) jdk_42_method_79_code (2 : Nat) (Option.some Jvm.ClassFile.FieldType.int)).before a0 Z = true := cx.1 _ (List.mem_of_getElem? (i := 35) rfl)
theorem w36 {Z : State} {a0 : Array Value} {gC : Int32} {gF : Value} (cx : Cx a0 Z gC gF) : (Jvm.Cond.methodLink "java/lang/String" (633 : Nat) ({ cls := "java/lang/String", name := "indexOf", desc := "(II)I" } : Jvm.MethodName)).before a0 Z = true := cx.1 _ (List.mem_of_getElem? (i := 36) rfl)
theorem w37 {Z : State} {a0 : Array Value} {gC : Int32} {gF : Value} (cx : Cx a0 Z gC gF) : (Jvm.Cond.declares ({ cls := "java/lang/String", name := "indexOf", desc := "(II)I" } : Jvm.MethodName)).before a0 Z = true := cx.1 _ (List.mem_of_getElem? (i := 37) rfl)
theorem w38 {Z : State} {a0 : Array Value} {gC : Int32} {gF : Value} (cx : Cx a0 Z gC gF) : (Jvm.Cond.instanceMethod ({ cls := "java/lang/String", name := "indexOf", desc := "(II)I" } : Jvm.MethodName)).before a0 Z = true := cx.1 _ (List.mem_of_getElem? (i := 38) rfl)
theorem w39 {Z : State} {a0 : Array Value} {gC : Int32} {gF : Value} (cx : Cx a0 Z gC gF) : (Jvm.Cond.selects "java/lang/String" ({ cls := "java/lang/String", name := "indexOf", desc := "(II)I" } : Jvm.MethodName) ({ cls := "java/lang/String", name := "indexOf", desc := "(II)I" } : Jvm.MethodName)).before a0 Z = true := cx.1 _ (List.mem_of_getElem? (i := 39) rfl)
theorem w40 {Z : State} {a0 : Array Value} {gC : Int32} {gF : Value} (cx : Cx a0 Z gC gF) : (Jvm.Cond.code ({ cls := "java/lang/String", name := "indexOf", desc := "(II)I" } : Jvm.MethodName) jdk_42_method_80_code (3 : Nat) (Option.some Jvm.ClassFile.FieldType.int)).before a0 Z = true := cx.1 _ (List.mem_of_getElem? (i := 40) rfl)
theorem w41 {Z : State} {a0 : Array Value} {gC : Int32} {gF : Value} (cx : Cx a0 Z gC gF) : (Jvm.Cond.methodLink "java/lang/String" (492 : Nat) ({ cls := "java/lang/String", name := "isLatin1", desc := "()Z" } : Jvm.MethodName)).before a0 Z = true := cx.1 _ (List.mem_of_getElem? (i := 41) rfl)
theorem w42 {Z : State} {a0 : Array Value} {gC : Int32} {gF : Value} (cx : Cx a0 Z gC gF) : (Jvm.Cond.declares ({ cls := "java/lang/String", name := "isLatin1", desc := "()Z" } : Jvm.MethodName)).before a0 Z = true := cx.1 _ (List.mem_of_getElem? (i := 42) rfl)
theorem w43 {Z : State} {a0 : Array Value} {gC : Int32} {gF : Value} (cx : Cx a0 Z gC gF) : (Jvm.Cond.instanceMethod ({ cls := "java/lang/String", name := "isLatin1", desc := "()Z" } : Jvm.MethodName)).before a0 Z = true := cx.1 _ (List.mem_of_getElem? (i := 43) rfl)
theorem w44 {Z : State} {a0 : Array Value} {gC : Int32} {gF : Value} (cx : Cx a0 Z gC gF) : (Jvm.Cond.selects "java/lang/String" ({ cls := "java/lang/String", name := "isLatin1", desc := "()Z" } : Jvm.MethodName) ({ cls := "java/lang/String", name := "isLatin1", desc := "()Z" } : Jvm.MethodName)).before a0 Z = true := cx.1 _ (List.mem_of_getElem? (i := 44) rfl)
theorem w45 {Z : State} {a0 : Array Value} {gC : Int32} {gF : Value} (cx : Cx a0 Z gC gF) : (Jvm.Cond.code ({ cls := "java/lang/String", name := "isLatin1", desc := "()Z" } : Jvm.MethodName) jdk_42_method_154_code (1 : Nat) (Option.some Jvm.ClassFile.FieldType.boolean)).before a0 Z = true := cx.1 _ (List.mem_of_getElem? (i := 45) rfl)
theorem w46 {Z : State} {a0 : Array Value} {gC : Int32} {gF : Value} (cx : Cx a0 Z gC gF) : (Jvm.Cond.fieldLink "java/lang/String" (38 : Nat) "java/lang/String" "COMPACT_STRINGS" "Z").before a0 Z = true := cx.1 _ (List.mem_of_getElem? (i := 46) rfl)
theorem w47 {Z : State} {a0 : Array Value} {gC : Int32} {gF : Value} (cx : Cx a0 Z gC gF) : (Jvm.Cond.methodLink "java/lang/String" (505 : Nat) ({ cls := "java/lang/String", name := "length", desc := "()I" } : Jvm.MethodName)).before a0 Z = true := cx.1 _ (List.mem_of_getElem? (i := 47) rfl)
theorem w48 {Z : State} {a0 : Array Value} {gC : Int32} {gF : Value} (cx : Cx a0 Z gC gF) : (Jvm.Cond.declares ({ cls := "java/lang/String", name := "length", desc := "()I" } : Jvm.MethodName)).before a0 Z = true := cx.1 _ (List.mem_of_getElem? (i := 48) rfl)
theorem w49 {Z : State} {a0 : Array Value} {gC : Int32} {gF : Value} (cx : Cx a0 Z gC gF) : (Jvm.Cond.instanceMethod ({ cls := "java/lang/String", name := "length", desc := "()I" } : Jvm.MethodName)).before a0 Z = true := cx.1 _ (List.mem_of_getElem? (i := 49) rfl)
theorem w50 {Z : State} {a0 : Array Value} {gC : Int32} {gF : Value} (cx : Cx a0 Z gC gF) : (Jvm.Cond.selects "java/lang/String" ({ cls := "java/lang/String", name := "length", desc := "()I" } : Jvm.MethodName) ({ cls := "java/lang/String", name := "length", desc := "()I" } : Jvm.MethodName)).before a0 Z = true := cx.1 _ (List.mem_of_getElem? (i := 50) rfl)
theorem w51 {Z : State} {a0 : Array Value} {gC : Int32} {gF : Value} (cx : Cx a0 Z gC gF) : (Jvm.Cond.code ({ cls := "java/lang/String", name := "length", desc := "()I" } : Jvm.MethodName) jdk_42_method_54_code (1 : Nat) (Option.some Jvm.ClassFile.FieldType.int)).before a0 Z = true := cx.1 _ (List.mem_of_getElem? (i := 51) rfl)
theorem w52 {Z : State} {a0 : Array Value} {gC : Int32} {gF : Value} (cx : Cx a0 Z gC gF) : (Jvm.Cond.methodLink "java/lang/String" (335 : Nat) ({ cls := "java/lang/String", name := "coder", desc := "()B" } : Jvm.MethodName)).before a0 Z = true := cx.1 _ (List.mem_of_getElem? (i := 52) rfl)
theorem w53 {Z : State} {a0 : Array Value} {gC : Int32} {gF : Value} (cx : Cx a0 Z gC gF) : (Jvm.Cond.declares ({ cls := "java/lang/String", name := "coder", desc := "()B" } : Jvm.MethodName)).before a0 Z = true := cx.1 _ (List.mem_of_getElem? (i := 53) rfl)
theorem w54 {Z : State} {a0 : Array Value} {gC : Int32} {gF : Value} (cx : Cx a0 Z gC gF) : (Jvm.Cond.instanceMethod ({ cls := "java/lang/String", name := "coder", desc := "()B" } : Jvm.MethodName)).before a0 Z = true := cx.1 _ (List.mem_of_getElem? (i := 54) rfl)
theorem w55 {Z : State} {a0 : Array Value} {gC : Int32} {gF : Value} (cx : Cx a0 Z gC gF) : (Jvm.Cond.selects "java/lang/String" ({ cls := "java/lang/String", name := "coder", desc := "()B" } : Jvm.MethodName) ({ cls := "java/lang/String", name := "coder", desc := "()B" } : Jvm.MethodName)).before a0 Z = true := cx.1 _ (List.mem_of_getElem? (i := 55) rfl)
theorem w56 {Z : State} {a0 : Array Value} {gC : Int32} {gF : Value} (cx : Cx a0 Z gC gF) : (Jvm.Cond.code ({ cls := "java/lang/String", name := "coder", desc := "()B" } : Jvm.MethodName) jdk_42_method_152_code (1 : Nat) (Option.some Jvm.ClassFile.FieldType.byte)).before a0 Z = true := cx.1 _ (List.mem_of_getElem? (i := 56) rfl)
theorem w57 {Z : State} {a0 : Array Value} {gC : Int32} {gF : Value} (cx : Cx a0 Z gC gF) : (Jvm.Cond.methodLink "java/lang/String" (637 : Nat) ({ cls := "java/lang/StringLatin1", name := "indexOf", desc := "([BIII)I" } : Jvm.MethodName)).before a0 Z = true := cx.1 _ (List.mem_of_getElem? (i := 57) rfl)
theorem w58 {Z : State} {a0 : Array Value} {gC : Int32} {gF : Value} (cx : Cx a0 Z gC gF) : (Jvm.Cond.static ({ cls := "java/lang/StringLatin1", name := "indexOf", desc := "([BIII)I" } : Jvm.MethodName)).before a0 Z = true := cx.1 _ (List.mem_of_getElem? (i := 58) rfl)
theorem w59 {Z : State} {a0 : Array Value} {gC : Int32} {gF : Value} (cx : Cx a0 Z gC gF) : (Jvm.Cond.initialized "java/lang/StringLatin1").before a0 Z = true := cx.1 _ (List.mem_of_getElem? (i := 59) rfl)
theorem w60 {Z : State} {a0 : Array Value} {gC : Int32} {gF : Value} (cx : Cx a0 Z gC gF) : (Jvm.Cond.code ({ cls := "java/lang/StringLatin1", name := "indexOf", desc := "([BIII)I" } : Jvm.MethodName) jdk_43_method_22_code (4 : Nat) (Option.some Jvm.ClassFile.FieldType.int)).before a0 Z = true := cx.1 _ (List.mem_of_getElem? (i := 60) rfl)
theorem w61 {Z : State} {a0 : Array Value} {gC : Int32} {gF : Value} (cx : Cx a0 Z gC gF) : (Jvm.Cond.methodLink "java/lang/StringLatin1" (88 : Nat) ({ cls := "java/lang/StringLatin1", name := "canEncode", desc := "(I)Z" } : Jvm.MethodName)).before a0 Z = true := cx.1 _ (List.mem_of_getElem? (i := 61) rfl)
theorem w62 {Z : State} {a0 : Array Value} {gC : Int32} {gF : Value} (cx : Cx a0 Z gC gF) : (Jvm.Cond.static ({ cls := "java/lang/StringLatin1", name := "canEncode", desc := "(I)Z" } : Jvm.MethodName)).before a0 Z = true := cx.1 _ (List.mem_of_getElem? (i := 62) rfl)
theorem w63 {Z : State} {a0 : Array Value} {gC : Int32} {gF : Value} (cx : Cx a0 Z gC gF) : (Jvm.Cond.code ({ cls := "java/lang/StringLatin1", name := "canEncode", desc := "(I)Z" } : Jvm.MethodName) jdk_43_method_4_code (1 : Nat) (Option.some Jvm.ClassFile.FieldType.boolean)).before a0 Z = true := cx.1 _ (List.mem_of_getElem? (i := 63) rfl)
theorem w64 {Z : State} {a0 : Array Value} {gC : Int32} {gF : Value} (cx : Cx a0 Z gC gF) : (Jvm.Cond.methodLink "java/lang/StringLatin1" (92 : Nat) ({ cls := "java/lang/Math", name := "max", desc := "(II)I" } : Jvm.MethodName)).before a0 Z = true := cx.1 _ (List.mem_of_getElem? (i := 64) rfl)
theorem w65 {Z : State} {a0 : Array Value} {gC : Int32} {gF : Value} (cx : Cx a0 Z gC gF) : (Jvm.Cond.static ({ cls := "java/lang/Math", name := "max", desc := "(II)I" } : Jvm.MethodName)).before a0 Z = true := cx.1 _ (List.mem_of_getElem? (i := 65) rfl)
theorem w66 {Z : State} {a0 : Array Value} {gC : Int32} {gF : Value} (cx : Cx a0 Z gC gF) : (Jvm.Cond.initialized "java/lang/Math").before a0 Z = true := cx.1 _ (List.mem_of_getElem? (i := 66) rfl)
theorem w67 {Z : State} {a0 : Array Value} {gC : Int32} {gF : Value} (cx : Cx a0 Z gC gF) : (Jvm.Cond.code ({ cls := "java/lang/Math", name := "max", desc := "(II)I" } : Jvm.MethodName) jdk_29_method_65_code (2 : Nat) (Option.some Jvm.ClassFile.FieldType.int)).before a0 Z = true := cx.1 _ (List.mem_of_getElem? (i := 67) rfl)
theorem w68 {Z : State} {a0 : Array Value} {gC : Int32} {gF : Value} (cx : Cx a0 Z gC gF) : (Jvm.Cond.methodLink "java/lang/StringLatin1" (38 : Nat) ({ cls := "java/lang/Math", name := "min", desc := "(II)I" } : Jvm.MethodName)).before a0 Z = true := cx.1 _ (List.mem_of_getElem? (i := 68) rfl)
theorem w69 {Z : State} {a0 : Array Value} {gC : Int32} {gF : Value} (cx : Cx a0 Z gC gF) : (Jvm.Cond.static ({ cls := "java/lang/Math", name := "min", desc := "(II)I" } : Jvm.MethodName)).before a0 Z = true := cx.1 _ (List.mem_of_getElem? (i := 69) rfl)
theorem w70 {Z : State} {a0 : Array Value} {gC : Int32} {gF : Value} (cx : Cx a0 Z gC gF) : (Jvm.Cond.code ({ cls := "java/lang/Math", name := "min", desc := "(II)I" } : Jvm.MethodName) jdk_29_method_69_code (2 : Nat) (Option.some Jvm.ClassFile.FieldType.int)).before a0 Z = true := cx.1 _ (List.mem_of_getElem? (i := 70) rfl)
theorem w71 {Z : State} {a0 : Array Value} {gC : Int32} {gF : Value} (cx : Cx a0 Z gC gF) : (Jvm.Cond.methodLink "java/lang/String" (177 : Nat) ({ cls := "java/lang/StringUTF16", name := "compress", desc := "([CII)[B" } : Jvm.MethodName)).before a0 Z = true := cx.1 _ (List.mem_of_getElem? (i := 71) rfl)
theorem w72 {Z : State} {a0 : Array Value} {gC : Int32} {gF : Value} (cx : Cx a0 Z gC gF) : (Jvm.Cond.static ({ cls := "java/lang/StringUTF16", name := "compress", desc := "([CII)[B" } : Jvm.MethodName)).before a0 Z = true := cx.1 _ (List.mem_of_getElem? (i := 72) rfl)
theorem w73 {Z : State} {a0 : Array Value} {gC : Int32} {gF : Value} (cx : Cx a0 Z gC gF) : (Jvm.Cond.initialized "java/lang/StringUTF16").before a0 Z = true := cx.1 _ (List.mem_of_getElem? (i := 73) rfl)
theorem w74 {Z : State} {a0 : Array Value} {gC : Int32} {gF : Value} (cx : Cx a0 Z gC gF) : (Jvm.Cond.code ({ cls := "java/lang/StringUTF16", name := "compress", desc := "([CII)[B" } : Jvm.MethodName) jdk_52_method_16_code (6 : Nat) (Option.some (Jvm.ClassFile.FieldType.array Jvm.ClassFile.FieldType.byte))).before a0 Z = true := cx.1 _ (List.mem_of_getElem? (i := 74) rfl)
theorem w75 {Z : State} {a0 : Array Value} {gC : Int32} {gF : Value} (cx : Cx a0 Z gC gF) : (Jvm.Cond.methodLink "java/lang/StringUTF16" (115 : Nat) ({ cls := "java/lang/StringUTF16", name := "compress", desc := "([CI[BII)I" } : Jvm.MethodName)).before a0 Z = true := cx.1 _ (List.mem_of_getElem? (i := 75) rfl)
theorem w76 {Z : State} {a0 : Array Value} {gC : Int32} {gF : Value} (cx : Cx a0 Z gC gF) : (Jvm.Cond.static ({ cls := "java/lang/StringUTF16", name := "compress", desc := "([CI[BII)I" } : Jvm.MethodName)).before a0 Z = true := cx.1 _ (List.mem_of_getElem? (i := 76) rfl)
theorem w77 {Z : State} {a0 : Array Value} {gC : Int32} {gF : Value} (cx : Cx a0 Z gC gF) : (Jvm.Cond.code ({ cls := "java/lang/StringUTF16", name := "compress", desc := "([CI[BII)I" } : Jvm.MethodName) jdk_52_method_21_code (7 : Nat) (Option.some Jvm.ClassFile.FieldType.int)).before a0 Z = true := cx.1 _ (List.mem_of_getElem? (i := 77) rfl)
theorem w78 {Z : State} {a0 : Array Value} {gC : Int32} {gF : Value} (cx : Cx a0 Z gC gF) : (Jvm.Cond.methodLink "java/lang/String" (47 : Nat) ({ cls := "java/lang/StringUTF16", name := "coderFromArrayLen", desc := "([BI)B" } : Jvm.MethodName)).before a0 Z = true := cx.1 _ (List.mem_of_getElem? (i := 78) rfl)
theorem w79 {Z : State} {a0 : Array Value} {gC : Int32} {gF : Value} (cx : Cx a0 Z gC gF) : (Jvm.Cond.static ({ cls := "java/lang/StringUTF16", name := "coderFromArrayLen", desc := "([BI)B" } : Jvm.MethodName)).before a0 Z = true := cx.1 _ (List.mem_of_getElem? (i := 79) rfl)
theorem w80 {Z : State} {a0 : Array Value} {gC : Int32} {gF : Value} (cx : Cx a0 Z gC gF) : (Jvm.Cond.code ({ cls := "java/lang/StringUTF16", name := "coderFromArrayLen", desc := "([BI)B" } : Jvm.MethodName) jdk_52_method_15_code (2 : Nat) (Option.some Jvm.ClassFile.FieldType.byte)).before a0 Z = true := cx.1 _ (List.mem_of_getElem? (i := 80) rfl)
theorem w81 {Z : State} {a0 : Array Value} {gC : Int32} {gF : Value} (cx : Cx a0 Z gC gF) : (Jvm.Cond.methodLink "com/example/lynceus/lynceus/BagIsPrintablePinLaw" (19 : Nat) ({ cls := "com/example/lynceus/lynceus/BagIsPrintablePinLaw", name := "bad", desc := "(C)Z" } : Jvm.MethodName)).before a0 Z = true := cx.1 _ (List.mem_of_getElem? (i := 81) rfl)
theorem w82 {Z : State} {a0 : Array Value} {gC : Int32} {gF : Value} (cx : Cx a0 Z gC gF) : (Jvm.Cond.static ({ cls := "com/example/lynceus/lynceus/BagIsPrintablePinLaw", name := "bad", desc := "(C)Z" } : Jvm.MethodName)).before a0 Z = true := cx.1 _ (List.mem_of_getElem? (i := 82) rfl)
theorem w83 {Z : State} {a0 : Array Value} {gC : Int32} {gF : Value} (cx : Cx a0 Z gC gF) : (Jvm.Cond.code ({ cls := "com/example/lynceus/lynceus/BagIsPrintablePinLaw", name := "bad", desc := "(C)Z" } : Jvm.MethodName) method_3_code (1 : Nat) (Option.some Jvm.ClassFile.FieldType.boolean)).before a0 Z = true := cx.1 _ (List.mem_of_getElem? (i := 83) rfl)
theorem w84 {Z : State} {a0 : Array Value} {gC : Int32} {gF : Value} (cx : Cx a0 Z gC gF) : (Jvm.Cond.methodLink "java/lang/StringLatin1" (95 : Nat) ({ cls := "java/lang/StringLatin1", name := "indexOfChar", desc := "([BIII)I" } : Jvm.MethodName)).before a0 Z = true := cx.1 _ (List.mem_of_getElem? (i := 84) rfl)
theorem w85 {Z : State} {a0 : Array Value} {gC : Int32} {gF : Value} (cx : Cx a0 Z gC gF) : (Jvm.Cond.static ({ cls := "java/lang/StringLatin1", name := "indexOfChar", desc := "([BIII)I" } : Jvm.MethodName)).before a0 Z = true := cx.1 _ (List.mem_of_getElem? (i := 85) rfl)
theorem w86 {Z : State} {a0 : Array Value} {gC : Int32} {gF : Value} (cx : Cx a0 Z gC gF) : (Jvm.Cond.code ({ cls := "java/lang/StringLatin1", name := "indexOfChar", desc := "([BIII)I" } : Jvm.MethodName) jdk_43_method_23_code (6 : Nat) (Option.some Jvm.ClassFile.FieldType.int)).before a0 Z = true := cx.1 _ (List.mem_of_getElem? (i := 86) rfl)
theorem w87 {Z : State} {a0 : Array Value} {gC : Int32} {gF : Value} (cx : Cx a0 Z gC gF) : (Jvm.Cond.methodLink "java/lang/StringUTF16" (119 : Nat) ({ cls := "java/lang/StringUTF16", name := "toBytes", desc := "([CII)[B" } : Jvm.MethodName)).before a0 Z = true := cx.1 _ (List.mem_of_getElem? (i := 87) rfl)
theorem w88 {Z : State} {a0 : Array Value} {gC : Int32} {gF : Value} (cx : Cx a0 Z gC gF) : (Jvm.Cond.static ({ cls := "java/lang/StringUTF16", name := "toBytes", desc := "([CII)[B" } : Jvm.MethodName)).before a0 Z = true := cx.1 _ (List.mem_of_getElem? (i := 88) rfl)
theorem w89 {Z : State} {a0 : Array Value} {gC : Int32} {gF : Value} (cx : Cx a0 Z gC gF) : (Jvm.Cond.code ({ cls := "java/lang/StringUTF16", name := "toBytes", desc := "([CII)[B" } : Jvm.MethodName) jdk_52_method_14_code (5 : Nat) (Option.some (Jvm.ClassFile.FieldType.array Jvm.ClassFile.FieldType.byte))).before a0 Z = true := cx.1 _ (List.mem_of_getElem? (i := 89) rfl)
theorem w90 {Z : State} {a0 : Array Value} {gC : Int32} {gF : Value} (cx : Cx a0 Z gC gF) : (Jvm.Cond.methodLink "java/lang/StringUTF16" (107 : Nat) ({ cls := "java/lang/StringUTF16", name := "newBytesFor", desc := "(I)[B" } : Jvm.MethodName)).before a0 Z = true := cx.1 _ (List.mem_of_getElem? (i := 90) rfl)
theorem w91 {Z : State} {a0 : Array Value} {gC : Int32} {gF : Value} (cx : Cx a0 Z gC gF) : (Jvm.Cond.static ({ cls := "java/lang/StringUTF16", name := "newBytesFor", desc := "(I)[B" } : Jvm.MethodName)).before a0 Z = true := cx.1 _ (List.mem_of_getElem? (i := 91) rfl)
theorem w92 {Z : State} {a0 : Array Value} {gC : Int32} {gF : Value} (cx : Cx a0 Z gC gF) : (Jvm.Cond.code ({ cls := "java/lang/StringUTF16", name := "newBytesFor", desc := "(I)[B" } : Jvm.MethodName) jdk_52_method_2_code (1 : Nat) (Option.some (Jvm.ClassFile.FieldType.array Jvm.ClassFile.FieldType.byte))).before a0 Z = true := cx.1 _ (List.mem_of_getElem? (i := 92) rfl)
theorem w93 {Z : State} {a0 : Array Value} {gC : Int32} {gF : Value} (cx : Cx a0 Z gC gF) : (Jvm.Cond.methodLink "java/lang/StringUTF16" (11 : Nat) ({ cls := "java/lang/StringUTF16", name := "newBytesLength", desc := "(I)I" } : Jvm.MethodName)).before a0 Z = true := cx.1 _ (List.mem_of_getElem? (i := 93) rfl)
theorem w94 {Z : State} {a0 : Array Value} {gC : Int32} {gF : Value} (cx : Cx a0 Z gC gF) : (Jvm.Cond.static ({ cls := "java/lang/StringUTF16", name := "newBytesLength", desc := "(I)I" } : Jvm.MethodName)).before a0 Z = true := cx.1 _ (List.mem_of_getElem? (i := 94) rfl)
theorem w95 {Z : State} {a0 : Array Value} {gC : Int32} {gF : Value} (cx : Cx a0 Z gC gF) : (Jvm.Cond.code ({ cls := "java/lang/StringUTF16", name := "newBytesLength", desc := "(I)I" } : Jvm.MethodName) jdk_52_method_3_code (1 : Nat) (Option.some Jvm.ClassFile.FieldType.int)).before a0 Z = true := cx.1 _ (List.mem_of_getElem? (i := 95) rfl)
theorem w96 {Z : State} {a0 : Array Value} {gC : Int32} {gF : Value} (cx : Cx a0 Z gC gF) : (Jvm.Cond.constant "java/lang/StringUTF16" (20 : Nat) (1073741823 : Int32)).before a0 Z = true := cx.1 _ (List.mem_of_getElem? (i := 96) rfl)
theorem w97 {Z : State} {a0 : Array Value} {gC : Int32} {gF : Value} (cx : Cx a0 Z gC gF) : (Jvm.Cond.methodLink "java/lang/StringUTF16" (111 : Nat) ({ cls := "java/lang/StringUTF16", name := "putChar", desc := "([BII)V" } : Jvm.MethodName)).before a0 Z = true := cx.1 _ (List.mem_of_getElem? (i := 97) rfl)
theorem w98 {Z : State} {a0 : Array Value} {gC : Int32} {gF : Value} (cx : Cx a0 Z gC gF) : (Jvm.Cond.static ({ cls := "java/lang/StringUTF16", name := "putChar", desc := "([BII)V" } : Jvm.MethodName)).before a0 Z = true := cx.1 _ (List.mem_of_getElem? (i := 98) rfl)
theorem w99 {Z : State} {a0 : Array Value} {gC : Int32} {gF : Value} (cx : Cx a0 Z gC gF) : (Jvm.Cond.code ({ cls := "java/lang/StringUTF16", name := "putChar", desc := "([BII)V" } : Jvm.MethodName) jdk_52_method_4_code (3 : Nat) (Option.none : Option Jvm.ClassFile.FieldType)).before a0 Z = true := cx.1 _ (List.mem_of_getElem? (i := 99) rfl)
theorem w100 {Z : State} {a0 : Array Value} {gC : Int32} {gF : Value} (cx : Cx a0 Z gC gF) : (Jvm.Cond.fieldLink "java/lang/StringUTF16" (44 : Nat) "java/lang/StringUTF16" "$assertionsDisabled" "Z").before a0 Z = true := cx.1 _ (List.mem_of_getElem? (i := 100) rfl)
theorem w101 {Z : State} {a0 : Array Value} {gC : Int32} {gF : Value} (cx : Cx a0 Z gC gF) : (Jvm.Cond.fieldLink "java/lang/StringUTF16" (59 : Nat) "java/lang/StringUTF16" "HI_BYTE_SHIFT" "I").before a0 Z = true := cx.1 _ (List.mem_of_getElem? (i := 101) rfl)
theorem w102 {Z : State} {a0 : Array Value} {gC : Int32} {gF : Value} (cx : Cx a0 Z gC gF) : (Jvm.Cond.fieldLink "java/lang/StringUTF16" (63 : Nat) "java/lang/StringUTF16" "LO_BYTE_SHIFT" "I").before a0 Z = true := cx.1 _ (List.mem_of_getElem? (i := 102) rfl)
theorem w103 {Z : State} {a0 : Array Value} {gC : Int32} {gF : Value} (cx : Cx a0 Z gC gF) : (Jvm.Cond.methodLink "java/lang/StringUTF16" (71 : Nat) ({ cls := "java/lang/StringUTF16", name := "getChar", desc := "([BI)C" } : Jvm.MethodName)).before a0 Z = true := cx.1 _ (List.mem_of_getElem? (i := 103) rfl)
theorem w104 {Z : State} {a0 : Array Value} {gC : Int32} {gF : Value} (cx : Cx a0 Z gC gF) : (Jvm.Cond.static ({ cls := "java/lang/StringUTF16", name := "getChar", desc := "([BI)C" } : Jvm.MethodName)).before a0 Z = true := cx.1 _ (List.mem_of_getElem? (i := 104) rfl)
theorem w105 {Z : State} {a0 : Array Value} {gC : Int32} {gF : Value} (cx : Cx a0 Z gC gF) : (Jvm.Cond.code ({ cls := "java/lang/StringUTF16", name := "getChar", desc := "([BI)C" } : Jvm.MethodName) jdk_52_method_5_code (2 : Nat) (Option.some Jvm.ClassFile.FieldType.char)).before a0 Z = true := cx.1 _ (List.mem_of_getElem? (i := 105) rfl)
theorem w106 {Z : State} {a0 : Array Value} {gC : Int32} {gF : Value} (cx : Cx a0 Z gC gF) : (Jvm.Cond.methodLink "java/lang/String" (640 : Nat) ({ cls := "java/lang/StringUTF16", name := "indexOf", desc := "([BIII)I" } : Jvm.MethodName)).before a0 Z = true := cx.1 _ (List.mem_of_getElem? (i := 106) rfl)
theorem w107 {Z : State} {a0 : Array Value} {gC : Int32} {gF : Value} (cx : Cx a0 Z gC gF) : (Jvm.Cond.static ({ cls := "java/lang/StringUTF16", name := "indexOf", desc := "([BIII)I" } : Jvm.MethodName)).before a0 Z = true := cx.1 _ (List.mem_of_getElem? (i := 107) rfl)
theorem w108 {Z : State} {a0 : Array Value} {gC : Int32} {gF : Value} (cx : Cx a0 Z gC gF) : (Jvm.Cond.code ({ cls := "java/lang/StringUTF16", name := "indexOf", desc := "([BIII)I" } : Jvm.MethodName) jdk_52_method_40_code (4 : Nat) (Option.some Jvm.ClassFile.FieldType.int)).before a0 Z = true := cx.1 _ (List.mem_of_getElem? (i := 108) rfl)
theorem w109 {Z : State} {a0 : Array Value} {gC : Int32} {gF : Value} (cx : Cx a0 Z gC gF) : (Jvm.Cond.methodLink "java/lang/StringUTF16" (224 : Nat) ({ cls := "java/lang/Math", name := "max", desc := "(II)I" } : Jvm.MethodName)).before a0 Z = true := cx.1 _ (List.mem_of_getElem? (i := 109) rfl)
theorem w110 {Z : State} {a0 : Array Value} {gC : Int32} {gF : Value} (cx : Cx a0 Z gC gF) : (Jvm.Cond.methodLink "java/lang/StringUTF16" (183 : Nat) ({ cls := "java/lang/Math", name := "min", desc := "(II)I" } : Jvm.MethodName)).before a0 Z = true := cx.1 _ (List.mem_of_getElem? (i := 110) rfl)
theorem w111 {Z : State} {a0 : Array Value} {gC : Int32} {gF : Value} (cx : Cx a0 Z gC gF) : (Jvm.Cond.constant "java/lang/StringUTF16" (227 : Nat) (65536 : Int32)).before a0 Z = true := cx.1 _ (List.mem_of_getElem? (i := 111) rfl)
theorem w112 {Z : State} {a0 : Array Value} {gC : Int32} {gF : Value} (cx : Cx a0 Z gC gF) : (Jvm.Cond.methodLink "java/lang/StringUTF16" (228 : Nat) ({ cls := "java/lang/StringUTF16", name := "indexOfChar", desc := "([BIII)I" } : Jvm.MethodName)).before a0 Z = true := cx.1 _ (List.mem_of_getElem? (i := 112) rfl)
theorem w113 {Z : State} {a0 : Array Value} {gC : Int32} {gF : Value} (cx : Cx a0 Z gC gF) : (Jvm.Cond.static ({ cls := "java/lang/StringUTF16", name := "indexOfChar", desc := "([BIII)I" } : Jvm.MethodName)).before a0 Z = true := cx.1 _ (List.mem_of_getElem? (i := 113) rfl)
theorem w114 {Z : State} {a0 : Array Value} {gC : Int32} {gF : Value} (cx : Cx a0 Z gC gF) : (Jvm.Cond.code ({ cls := "java/lang/StringUTF16", name := "indexOfChar", desc := "([BIII)I" } : Jvm.MethodName) jdk_52_method_47_code (4 : Nat) (Option.some Jvm.ClassFile.FieldType.int)).before a0 Z = true := cx.1 _ (List.mem_of_getElem? (i := 114) rfl)
theorem w115 {Z : State} {a0 : Array Value} {gC : Int32} {gF : Value} (cx : Cx a0 Z gC gF) : (Jvm.Cond.methodLink "java/lang/StringUTF16" (96 : Nat) ({ cls := "java/lang/StringUTF16", name := "checkBoundsBeginEnd", desc := "(II[B)V" } : Jvm.MethodName)).before a0 Z = true := cx.1 _ (List.mem_of_getElem? (i := 115) rfl)
theorem w116 {Z : State} {a0 : Array Value} {gC : Int32} {gF : Value} (cx : Cx a0 Z gC gF) : (Jvm.Cond.static ({ cls := "java/lang/StringUTF16", name := "checkBoundsBeginEnd", desc := "(II[B)V" } : Jvm.MethodName)).before a0 Z = true := cx.1 _ (List.mem_of_getElem? (i := 116) rfl)
theorem w117 {Z : State} {a0 : Array Value} {gC : Int32} {gF : Value} (cx : Cx a0 Z gC gF) : (Jvm.Cond.code ({ cls := "java/lang/StringUTF16", name := "checkBoundsBeginEnd", desc := "(II[B)V" } : Jvm.MethodName) jdk_52_method_93_code (3 : Nat) (Option.none : Option Jvm.ClassFile.FieldType)).before a0 Z = true := cx.1 _ (List.mem_of_getElem? (i := 117) rfl)
theorem w118 {Z : State} {a0 : Array Value} {gC : Int32} {gF : Value} (cx : Cx a0 Z gC gF) : (Jvm.Cond.methodLink "java/lang/StringUTF16" (48 : Nat) ({ cls := "java/lang/StringUTF16", name := "length", desc := "([B)I" } : Jvm.MethodName)).before a0 Z = true := cx.1 _ (List.mem_of_getElem? (i := 118) rfl)
theorem w119 {Z : State} {a0 : Array Value} {gC : Int32} {gF : Value} (cx : Cx a0 Z gC gF) : (Jvm.Cond.static ({ cls := "java/lang/StringUTF16", name := "length", desc := "([B)I" } : Jvm.MethodName)).before a0 Z = true := cx.1 _ (List.mem_of_getElem? (i := 119) rfl)
theorem w120 {Z : State} {a0 : Array Value} {gC : Int32} {gF : Value} (cx : Cx a0 Z gC gF) : (Jvm.Cond.code ({ cls := "java/lang/StringUTF16", name := "length", desc := "([B)I" } : Jvm.MethodName) jdk_52_method_6_code (1 : Nat) (Option.some Jvm.ClassFile.FieldType.int)).before a0 Z = true := cx.1 _ (List.mem_of_getElem? (i := 120) rfl)
theorem w121 {Z : State} {a0 : Array Value} {gC : Int32} {gF : Value} (cx : Cx a0 Z gC gF) : (Jvm.Cond.methodLink "java/lang/StringUTF16" (241 : Nat) ({ cls := "java/lang/String", name := "checkBoundsBeginEnd", desc := "(III)V" } : Jvm.MethodName)).before a0 Z = true := cx.1 _ (List.mem_of_getElem? (i := 121) rfl)
theorem w122 {Z : State} {a0 : Array Value} {gC : Int32} {gF : Value} (cx : Cx a0 Z gC gF) : (Jvm.Cond.static ({ cls := "java/lang/String", name := "checkBoundsBeginEnd", desc := "(III)V" } : Jvm.MethodName)).before a0 Z = true := cx.1 _ (List.mem_of_getElem? (i := 122) rfl)
theorem w123 {Z : State} {a0 : Array Value} {gC : Int32} {gF : Value} (cx : Cx a0 Z gC gF) : (Jvm.Cond.code ({ cls := "java/lang/String", name := "checkBoundsBeginEnd", desc := "(III)V" } : Jvm.MethodName) jdk_42_method_158_code (3 : Nat) (Option.none : Option Jvm.ClassFile.FieldType)).before a0 Z = true := cx.1 _ (List.mem_of_getElem? (i := 123) rfl)
theorem w124 {Z : State} {a0 : Array Value} {gC : Int32} {gF : Value} (cx : Cx a0 Z gC gF) : (Jvm.Cond.fieldLink "java/lang/String" (1053 : Nat) "jdk/internal/util/Preconditions" "SIOOBE_FORMATTER" "Ljava/util/function/BiFunction;").before a0 Z = true := cx.1 _ (List.mem_of_getElem? (i := 124) rfl)
theorem w125 {Z : State} {a0 : Array Value} {gC : Int32} {gF : Value} (cx : Cx a0 Z gC gF) : (Jvm.Cond.initialized "jdk/internal/util/Preconditions").before a0 Z = true := cx.1 _ (List.mem_of_getElem? (i := 125) rfl)
theorem w126 {Z : State} {a0 : Array Value} {gC : Int32} {gF : Value} (cx : Cx a0 Z gC gF) : (Jvm.Cond.methodLink "java/lang/String" (1062 : Nat) ({ cls := "jdk/internal/util/Preconditions", name := "checkFromToIndex", desc := "(IIILjava/util/function/BiFunction;)I" } : Jvm.MethodName)).before a0 Z = true := cx.1 _ (List.mem_of_getElem? (i := 126) rfl)
theorem w127 {Z : State} {a0 : Array Value} {gC : Int32} {gF : Value} (cx : Cx a0 Z gC gF) : (Jvm.Cond.static ({ cls := "jdk/internal/util/Preconditions", name := "checkFromToIndex", desc := "(IIILjava/util/function/BiFunction;)I" } : Jvm.MethodName)).before a0 Z = true := cx.1 _ (List.mem_of_getElem? (i := 127) rfl)
theorem w128 {Z : State} {a0 : Array Value} {gC : Int32} {gF : Value} (cx : Cx a0 Z gC gF) : (Jvm.Cond.code ({ cls := "jdk/internal/util/Preconditions", name := "checkFromToIndex", desc := "(IIILjava/util/function/BiFunction;)I" } : Jvm.MethodName) jdk_41_method_12_code (4 : Nat) (Option.some Jvm.ClassFile.FieldType.int)).before a0 Z = true := cx.1 _ (List.mem_of_getElem? (i := 128) rfl)
theorem w129 {Z : State} {a0 : Array Value} {gC : Int32} {gF : Value} (cx : Cx a0 Z gC gF) : (Jvm.Cond.methodLink "java/lang/StringUTF16" (244 : Nat) ({ cls := "java/lang/StringUTF16", name := "indexOfCharUnsafe", desc := "([BIII)I" } : Jvm.MethodName)).before a0 Z = true := cx.1 _ (List.mem_of_getElem? (i := 129) rfl)
theorem w130 {Z : State} {a0 : Array Value} {gC : Int32} {gF : Value} (cx : Cx a0 Z gC gF) : (Jvm.Cond.static ({ cls := "java/lang/StringUTF16", name := "indexOfCharUnsafe", desc := "([BIII)I" } : Jvm.MethodName)).before a0 Z = true := cx.1 _ (List.mem_of_getElem? (i := 130) rfl)
theorem w131 {Z : State} {a0 : Array Value} {gC : Int32} {gF : Value} (cx : Cx a0 Z gC gF) : (Jvm.Cond.code ({ cls := "java/lang/StringUTF16", name := "indexOfCharUnsafe", desc := "([BIII)I" } : Jvm.MethodName) jdk_52_method_48_code (5 : Nat) (Option.some Jvm.ClassFile.FieldType.int)).before a0 Z = true := cx.1 _ (List.mem_of_getElem? (i := 131) rfl)
theorem S_C {Z : State} {a0 : Array Value} {gC : Int32} {gF : Value} (cx : Cx a0 Z gC gF) : Sta Z Z.heap "java/lang/String" "COMPACT_STRINGS" "Z" (.int gC) := cx.2.1
theorem N_C {Z : State} {a0 : Array Value} {gC : Int32} {gF : Value} (cx : Cx a0 Z gC gF) : ¬ gC = (0 : Int32) := cx.2.2.1
theorem S_F {Z : State} {a0 : Array Value} {gC : Int32} {gF : Value} (cx : Cx a0 Z gC gF) : Sta Z Z.heap "jdk/internal/util/Preconditions" "SIOOBE_FORMATTER" "Ljava/util/function/BiFunction;" gF := cx.2.2.2.1
theorem R_F {Z : State} {a0 : Array Value} {gC : Int32} {gF : Value} (cx : Cx a0 Z gC gF) : gF.isRef = true := cx.2.2.2.2.1
theorem S_AD {Z : State} {a0 : Array Value} {gC : Int32} {gF : Value} (cx : Cx a0 Z gC gF) : Sta Z Z.heap "java/lang/StringUTF16" "$assertionsDisabled" "Z" (.int 1) := cx.2.2.2.2.2.1
theorem S_HI {Z : State} {a0 : Array Value} {gC : Int32} {gF : Value} (cx : Cx a0 Z gC gF) : Sta Z Z.heap "java/lang/StringUTF16" "HI_BYTE_SHIFT" "I" (.int 0) := cx.2.2.2.2.2.2.1
theorem S_LO {Z : State} {a0 : Array Value} {gC : Int32} {gF : Value} (cx : Cx a0 Z gC gF) : Sta Z Z.heap "java/lang/StringUTF16" "LO_BYTE_SHIFT" "I" (.int 8) := cx.2.2.2.2.2.2.2
theorem hws {Z : State} {a0 : Array Value} {gC : Int32} {gF : Value} (cx : Cx a0 Z gC gF) : ∀ d ∈ StrChars.Road.words, d.before a0 Z = true := fun d hd => cx.1 d ((by decide +kernel : ∀ d ∈ StrChars.Road.words, d ∈ tables_1) d hd)
theorem hln {Z : State} {a0 : Array Value} {gC : Int32} {gF : Value} (cx : Cx a0 Z gC gF) : ∀ d ∈ StrChars.Road.wordsLen, d.before a0 Z = true := fun d hd => cx.1 d ((by decide +kernel : ∀ d ∈ StrChars.Road.wordsLen, d ∈ tables_1) d hd)
theorem strAtoms {Z : State} {a0 : Array Value} {gC : Int32} {gF : Value} (cx : Cx a0 Z gC gF) : ∀ d ∈ Bundle.stringAtoms, d.before a0 Z = true := fun d hd => cx.1 d ((by decide +kernel : ∀ d ∈ Bundle.stringAtoms, d ∈ tables_1) d hd)
theorem pn0 : plainName "java/lang/String" = true := by first | (simp [plainName, overriddenIn]; done) | decide +kernel
theorem pn1 : plainName "java/lang/StringUTF16" = true := by first | (simp [plainName, overriddenIn]; done) | decide +kernel
theorem pn2 : plainName "com/example/lynceus/lynceus/BagIsPrintablePinLaw" = true := by first | (simp [plainName, overriddenIn]; done) | decide +kernel
theorem pn3 : plainName "java/lang/StringLatin1" = true := by first | (simp [plainName, overriddenIn]; done) | decide +kernel
theorem pn4 : plainName "jdk/internal/util/Preconditions" = true := by first | (simp [plainName, overriddenIn]; done) | decide +kernel
theorem pn5 : plainName "com/example/lynceus/lynceus/Bag" = true := by first | (simp [plainName, overriddenIn]; done) | decide +kernel
theorem d1_0 : decode method_2_code 0 = .ok (.iload_n 0, 1) := by decide +kernel
theorem d1_1 : decode method_2_code 1 = .ok (.bipush 16, 2) := by decide +kernel
theorem d1_3 : decode method_2_code 3 = .ok (.iushr, 1) := by decide +kernel
theorem d1_4 : decode method_2_code 4 = .ok (.iconst 3, 1) := by decide +kernel
theorem d1_5 : decode method_2_code 5 = .ok (.iand, 1) := by decide +kernel
theorem d1_6 : decode method_2_code 6 = .ok (.istore_n 1, 1) := by decide +kernel
theorem d1_7 : decode method_2_code 7 = .ok (.iload_n 1, 1) := by decide +kernel
theorem d1_8 : decode method_2_code 8 = .ok (.iconst 1, 1) := by decide +kernel
theorem d1_9 : decode method_2_code 9 = .ok (.if_icmp .ne 6, 3) := by decide +kernel
theorem d1_12 : decode method_2_code 12 = .ok (.bipush 9, 2) := by decide +kernel
theorem d1_14 : decode method_2_code 14 = .ok (.ireturn, 1) := by decide +kernel
theorem d1_15 : decode method_2_code 15 = .ok (.iload_n 1, 1) := by decide +kernel
theorem d1_16 : decode method_2_code 16 = .ok (.iconst 2, 1) := by decide +kernel
theorem d1_17 : decode method_2_code 17 = .ok (.if_icmp .ne 6, 3) := by decide +kernel
theorem d1_20 : decode method_2_code 20 = .ok (.bipush 10, 2) := by decide +kernel
theorem d1_22 : decode method_2_code 22 = .ok (.ireturn, 1) := by decide +kernel
theorem d1_23 : decode method_2_code 23 = .ok (.iload_n 1, 1) := by decide +kernel
theorem d1_24 : decode method_2_code 24 = .ok (.iconst 3, 1) := by decide +kernel
theorem d1_25 : decode method_2_code 25 = .ok (.if_icmp .ne 6, 3) := by decide +kernel
theorem d1_28 : decode method_2_code 28 = .ok (.bipush 13, 2) := by decide +kernel
theorem d1_30 : decode method_2_code 30 = .ok (.ireturn, 1) := by decide +kernel
theorem d1_31 : decode method_2_code 31 = .ok (.iload_n 0, 1) := by decide +kernel
theorem d1_32 : decode method_2_code 32 = .ok (.ldc 7, 2) := by decide +kernel
theorem d1_34 : decode method_2_code 34 = .ok (.iand, 1) := by decide +kernel
theorem d1_35 : decode method_2_code 35 = .ok (.i2c, 1) := by decide +kernel
theorem d1_36 : decode method_2_code 36 = .ok (.ireturn, 1) := by decide +kernel
theorem d2_0 : decode jdk_42_method_3_code 0 = .ok (.aload_n 0, 1) := by decide +kernel
theorem d2_1 : decode jdk_42_method_3_code 1 = .ok (.aload_n 1, 1) := by decide +kernel
theorem d2_2 : decode jdk_42_method_3_code 2 = .ok (.iconst 0, 1) := by decide +kernel
theorem d2_3 : decode jdk_42_method_3_code 3 = .ok (.aload_n 1, 1) := by decide +kernel
theorem d2_4 : decode jdk_42_method_3_code 4 = .ok (.arraylength, 1) := by decide +kernel
theorem d2_5 : decode jdk_42_method_3_code 5 = .ok (.aconst_null, 1) := by decide +kernel
theorem d2_6 : decode jdk_42_method_3_code 6 = .ok (.invokespecial 27, 3) := by decide +kernel
theorem d2_9 : decode jdk_42_method_3_code 9 = .ok (.return_, 1) := by decide +kernel
theorem d3_0 : decode jdk_42_method_149_code 0 = .ok (.aload_n 0, 1) := by decide +kernel
theorem d3_1 : decode jdk_42_method_149_code 1 = .ok (.invokespecial 1, 3) := by decide +kernel
theorem d3_4 : decode jdk_42_method_149_code 4 = .ok (.iload_n 3, 1) := by decide +kernel
theorem d3_5 : decode jdk_42_method_149_code 5 = .ok (.ifCond .ne 22, 3) := by decide +kernel
theorem d3_8 : decode jdk_42_method_149_code 8 = .ok (.aload_n 0, 1) := by decide +kernel
theorem d3_9 : decode jdk_42_method_149_code 9 = .ok (.ldc 7, 2) := by decide +kernel
theorem d3_11 : decode jdk_42_method_149_code 11 = .ok (.getfield 9, 3) := by decide +kernel
theorem d3_14 : decode jdk_42_method_149_code 14 = .ok (.putfield 9, 3) := by decide +kernel
theorem d3_17 : decode jdk_42_method_149_code 17 = .ok (.aload_n 0, 1) := by decide +kernel
theorem d3_18 : decode jdk_42_method_149_code 18 = .ok (.ldc 7, 2) := by decide +kernel
theorem d3_20 : decode jdk_42_method_149_code 20 = .ok (.getfield 15, 3) := by decide +kernel
theorem d3_23 : decode jdk_42_method_149_code 23 = .ok (.putfield 15, 3) := by decide +kernel
theorem d3_26 : decode jdk_42_method_149_code 26 = .ok (.return_, 1) := by decide +kernel
theorem d3_27 : decode jdk_42_method_149_code 27 = .ok (.getstatic 38, 3) := by decide +kernel
theorem d3_30 : decode jdk_42_method_149_code 30 = .ok (.ifCond .eq 28, 3) := by decide +kernel
theorem d3_33 : decode jdk_42_method_149_code 33 = .ok (.aload_n 1, 1) := by decide +kernel
theorem d3_34 : decode jdk_42_method_149_code 34 = .ok (.iload_n 2, 1) := by decide +kernel
theorem d3_35 : decode jdk_42_method_149_code 35 = .ok (.iload_n 3, 1) := by decide +kernel
theorem d3_36 : decode jdk_42_method_149_code 36 = .ok (.invokestatic 177, 3) := by decide +kernel
theorem d3_39 : decode jdk_42_method_149_code 39 = .ok (.astore 5, 2) := by decide +kernel
theorem d3_41 : decode jdk_42_method_149_code 41 = .ok (.aload_n 0, 1) := by decide +kernel
theorem d3_42 : decode jdk_42_method_149_code 42 = .ok (.aload 5, 2) := by decide +kernel
theorem d3_44 : decode jdk_42_method_149_code 44 = .ok (.iload_n 3, 1) := by decide +kernel
theorem d3_45 : decode jdk_42_method_149_code 45 = .ok (.invokestatic 47, 3) := by decide +kernel
theorem d3_48 : decode jdk_42_method_149_code 48 = .ok (.putfield 15, 3) := by decide +kernel
theorem d3_51 : decode jdk_42_method_149_code 51 = .ok (.aload_n 0, 1) := by decide +kernel
theorem d3_52 : decode jdk_42_method_149_code 52 = .ok (.aload 5, 2) := by decide +kernel
theorem d3_54 : decode jdk_42_method_149_code 54 = .ok (.putfield 9, 3) := by decide +kernel
theorem d3_57 : decode jdk_42_method_149_code 57 = .ok (.return_, 1) := by decide +kernel
theorem d5_0 : decode prog_1_method_3_code 0 = .ok (.aload_n 0, 1) := by decide +kernel
theorem d5_1 : decode prog_1_method_3_code 1 = .ok (.bipush 9, 2) := by decide +kernel
theorem d5_3 : decode prog_1_method_3_code 3 = .ok (.invokevirtual 68, 3) := by decide +kernel
theorem d5_6 : decode prog_1_method_3_code 6 = .ok (.ifCond .ge 25, 3) := by decide +kernel
theorem d5_9 : decode prog_1_method_3_code 9 = .ok (.aload_n 0, 1) := by decide +kernel
theorem d5_10 : decode prog_1_method_3_code 10 = .ok (.bipush 10, 2) := by decide +kernel
theorem d5_12 : decode prog_1_method_3_code 12 = .ok (.invokevirtual 68, 3) := by decide +kernel
theorem d5_15 : decode prog_1_method_3_code 15 = .ok (.ifCond .ge 16, 3) := by decide +kernel
theorem d5_18 : decode prog_1_method_3_code 18 = .ok (.aload_n 0, 1) := by decide +kernel
theorem d5_19 : decode prog_1_method_3_code 19 = .ok (.bipush 13, 2) := by decide +kernel
theorem d5_21 : decode prog_1_method_3_code 21 = .ok (.invokevirtual 68, 3) := by decide +kernel
theorem d5_24 : decode prog_1_method_3_code 24 = .ok (.ifCond .ge 7, 3) := by decide +kernel
theorem d5_27 : decode prog_1_method_3_code 27 = .ok (.iconst 1, 1) := by decide +kernel
theorem d5_28 : decode prog_1_method_3_code 28 = .ok (.goto 4, 3) := by decide +kernel
theorem d5_31 : decode prog_1_method_3_code 31 = .ok (.iconst 0, 1) := by decide +kernel
theorem d5_32 : decode prog_1_method_3_code 32 = .ok (.ireturn, 1) := by decide +kernel
theorem d6_0 : decode jdk_42_method_79_code 0 = .ok (.aload_n 0, 1) := by decide +kernel
theorem d6_1 : decode jdk_42_method_79_code 1 = .ok (.iload_n 1, 1) := by decide +kernel
theorem d6_2 : decode jdk_42_method_79_code 2 = .ok (.iconst 0, 1) := by decide +kernel
theorem d6_3 : decode jdk_42_method_79_code 3 = .ok (.invokevirtual 633, 3) := by decide +kernel
theorem d6_6 : decode jdk_42_method_79_code 6 = .ok (.ireturn, 1) := by decide +kernel
theorem d7_0 : decode jdk_42_method_80_code 0 = .ok (.aload_n 0, 1) := by decide +kernel
theorem d7_1 : decode jdk_42_method_80_code 1 = .ok (.invokevirtual 492, 3) := by decide +kernel
theorem d7_4 : decode jdk_42_method_80_code 4 = .ok (.ifCond .eq 19, 3) := by decide +kernel
theorem d7_7 : decode jdk_42_method_80_code 7 = .ok (.aload_n 0, 1) := by decide +kernel
theorem d7_8 : decode jdk_42_method_80_code 8 = .ok (.getfield 9, 3) := by decide +kernel
theorem d7_11 : decode jdk_42_method_80_code 11 = .ok (.iload_n 1, 1) := by decide +kernel
theorem d7_12 : decode jdk_42_method_80_code 12 = .ok (.iload_n 2, 1) := by decide +kernel
theorem d7_13 : decode jdk_42_method_80_code 13 = .ok (.aload_n 0, 1) := by decide +kernel
theorem d7_14 : decode jdk_42_method_80_code 14 = .ok (.invokevirtual 505, 3) := by decide +kernel
theorem d7_17 : decode jdk_42_method_80_code 17 = .ok (.invokestatic 637, 3) := by decide +kernel
theorem d7_20 : decode jdk_42_method_80_code 20 = .ok (.goto 16, 3) := by decide +kernel
theorem d7_23 : decode jdk_42_method_80_code 23 = .ok (.aload_n 0, 1) := by decide +kernel
theorem d7_24 : decode jdk_42_method_80_code 24 = .ok (.getfield 9, 3) := by decide +kernel
theorem d7_27 : decode jdk_42_method_80_code 27 = .ok (.iload_n 1, 1) := by decide +kernel
theorem d7_28 : decode jdk_42_method_80_code 28 = .ok (.iload_n 2, 1) := by decide +kernel
theorem d7_29 : decode jdk_42_method_80_code 29 = .ok (.aload_n 0, 1) := by decide +kernel
theorem d7_30 : decode jdk_42_method_80_code 30 = .ok (.invokevirtual 505, 3) := by decide +kernel
theorem d7_33 : decode jdk_42_method_80_code 33 = .ok (.invokestatic 640, 3) := by decide +kernel
theorem d7_36 : decode jdk_42_method_80_code 36 = .ok (.ireturn, 1) := by decide +kernel
theorem d8_0 : decode jdk_42_method_154_code 0 = .ok (.getstatic 38, 3) := by decide +kernel
theorem d8_3 : decode jdk_42_method_154_code 3 = .ok (.ifCond .eq 14, 3) := by decide +kernel
theorem d8_6 : decode jdk_42_method_154_code 6 = .ok (.aload_n 0, 1) := by decide +kernel
theorem d8_7 : decode jdk_42_method_154_code 7 = .ok (.getfield 15, 3) := by decide +kernel
theorem d8_10 : decode jdk_42_method_154_code 10 = .ok (.ifCond .ne 7, 3) := by decide +kernel
theorem d8_13 : decode jdk_42_method_154_code 13 = .ok (.iconst 1, 1) := by decide +kernel
theorem d8_14 : decode jdk_42_method_154_code 14 = .ok (.goto 4, 3) := by decide +kernel
theorem d8_17 : decode jdk_42_method_154_code 17 = .ok (.iconst 0, 1) := by decide +kernel
theorem d8_18 : decode jdk_42_method_154_code 18 = .ok (.ireturn, 1) := by decide +kernel
theorem d9_0 : decode jdk_42_method_54_code 0 = .ok (.aload_n 0, 1) := by decide +kernel
theorem d9_1 : decode jdk_42_method_54_code 1 = .ok (.getfield 9, 3) := by decide +kernel
theorem d9_4 : decode jdk_42_method_54_code 4 = .ok (.arraylength, 1) := by decide +kernel
theorem d9_5 : decode jdk_42_method_54_code 5 = .ok (.aload_n 0, 1) := by decide +kernel
theorem d9_6 : decode jdk_42_method_54_code 6 = .ok (.invokevirtual 335, 3) := by decide +kernel
theorem d9_9 : decode jdk_42_method_54_code 9 = .ok (.ishr, 1) := by decide +kernel
theorem d9_10 : decode jdk_42_method_54_code 10 = .ok (.ireturn, 1) := by decide +kernel
theorem d10_0 : decode jdk_42_method_152_code 0 = .ok (.getstatic 38, 3) := by decide +kernel
theorem d10_3 : decode jdk_42_method_152_code 3 = .ok (.ifCond .eq 10, 3) := by decide +kernel
theorem d10_6 : decode jdk_42_method_152_code 6 = .ok (.aload_n 0, 1) := by decide +kernel
theorem d10_7 : decode jdk_42_method_152_code 7 = .ok (.getfield 15, 3) := by decide +kernel
theorem d10_10 : decode jdk_42_method_152_code 10 = .ok (.goto 4, 3) := by decide +kernel
theorem d10_14 : decode jdk_42_method_152_code 14 = .ok (.ireturn, 1) := by decide +kernel
theorem d11_0 : decode jdk_43_method_22_code 0 = .ok (.iload_n 1, 1) := by decide +kernel
theorem d11_1 : decode jdk_43_method_22_code 1 = .ok (.invokestatic 88, 3) := by decide +kernel
theorem d11_4 : decode jdk_43_method_22_code 4 = .ok (.ifCond .ne 5, 3) := by decide +kernel
theorem d11_9 : decode jdk_43_method_22_code 9 = .ok (.iload_n 2, 1) := by decide +kernel
theorem d11_10 : decode jdk_43_method_22_code 10 = .ok (.iconst 0, 1) := by decide +kernel
theorem d11_11 : decode jdk_43_method_22_code 11 = .ok (.invokestatic 92, 3) := by decide +kernel
theorem d11_14 : decode jdk_43_method_22_code 14 = .ok (.istore_n 2, 1) := by decide +kernel
theorem d11_15 : decode jdk_43_method_22_code 15 = .ok (.iload_n 3, 1) := by decide +kernel
theorem d11_16 : decode jdk_43_method_22_code 16 = .ok (.aload_n 0, 1) := by decide +kernel
theorem d11_17 : decode jdk_43_method_22_code 17 = .ok (.arraylength, 1) := by decide +kernel
theorem d11_18 : decode jdk_43_method_22_code 18 = .ok (.invokestatic 38, 3) := by decide +kernel
theorem d11_21 : decode jdk_43_method_22_code 21 = .ok (.istore_n 3, 1) := by decide +kernel
theorem d11_22 : decode jdk_43_method_22_code 22 = .ok (.iload_n 2, 1) := by decide +kernel
theorem d11_23 : decode jdk_43_method_22_code 23 = .ok (.iload_n 3, 1) := by decide +kernel
theorem d11_24 : decode jdk_43_method_22_code 24 = .ok (.if_icmp .lt 5, 3) := by decide +kernel
theorem d11_27 : decode jdk_43_method_22_code 27 = .ok (.iconst (-1), 1) := by decide +kernel
theorem d11_28 : decode jdk_43_method_22_code 28 = .ok (.ireturn, 1) := by decide +kernel
theorem d11_29 : decode jdk_43_method_22_code 29 = .ok (.aload_n 0, 1) := by decide +kernel
theorem d11_30 : decode jdk_43_method_22_code 30 = .ok (.iload_n 1, 1) := by decide +kernel
theorem d11_31 : decode jdk_43_method_22_code 31 = .ok (.iload_n 2, 1) := by decide +kernel
theorem d11_32 : decode jdk_43_method_22_code 32 = .ok (.iload_n 3, 1) := by decide +kernel
theorem d11_33 : decode jdk_43_method_22_code 33 = .ok (.invokestatic 95, 3) := by decide +kernel
theorem d11_36 : decode jdk_43_method_22_code 36 = .ok (.ireturn, 1) := by decide +kernel
theorem d12_0 : decode jdk_43_method_4_code 0 = .ok (.iload_n 0, 1) := by decide +kernel
theorem d12_1 : decode jdk_43_method_4_code 1 = .ok (.ifCond .lt 14, 3) := by decide +kernel
theorem d12_4 : decode jdk_43_method_4_code 4 = .ok (.iload_n 0, 1) := by decide +kernel
theorem d12_5 : decode jdk_43_method_4_code 5 = .ok (.sipush 255, 3) := by decide +kernel
theorem d12_8 : decode jdk_43_method_4_code 8 = .ok (.if_icmp .gt 7, 3) := by decide +kernel
theorem d12_11 : decode jdk_43_method_4_code 11 = .ok (.iconst 1, 1) := by decide +kernel
theorem d12_12 : decode jdk_43_method_4_code 12 = .ok (.goto 4, 3) := by decide +kernel
theorem d12_16 : decode jdk_43_method_4_code 16 = .ok (.ireturn, 1) := by decide +kernel
theorem d13_0 : decode jdk_29_method_65_code 0 = .ok (.iload_n 0, 1) := by decide +kernel
theorem d13_1 : decode jdk_29_method_65_code 1 = .ok (.iload_n 1, 1) := by decide +kernel
theorem d13_2 : decode jdk_29_method_65_code 2 = .ok (.if_icmp .lt 7, 3) := by decide +kernel
theorem d13_5 : decode jdk_29_method_65_code 5 = .ok (.iload_n 0, 1) := by decide +kernel
theorem d13_6 : decode jdk_29_method_65_code 6 = .ok (.goto 4, 3) := by decide +kernel
theorem d13_10 : decode jdk_29_method_65_code 10 = .ok (.ireturn, 1) := by decide +kernel
theorem d14_0 : decode jdk_29_method_69_code 0 = .ok (.iload_n 0, 1) := by decide +kernel
theorem d14_1 : decode jdk_29_method_69_code 1 = .ok (.iload_n 1, 1) := by decide +kernel
theorem d14_2 : decode jdk_29_method_69_code 2 = .ok (.if_icmp .gt 7, 3) := by decide +kernel
theorem d14_5 : decode jdk_29_method_69_code 5 = .ok (.iload_n 0, 1) := by decide +kernel
theorem d14_6 : decode jdk_29_method_69_code 6 = .ok (.goto 4, 3) := by decide +kernel
theorem d14_10 : decode jdk_29_method_69_code 10 = .ok (.ireturn, 1) := by decide +kernel
theorem d15_0 : decode jdk_52_method_16_code 0 = .ok (.iload_n 2, 1) := by decide +kernel
theorem d15_1 : decode jdk_52_method_16_code 1 = .ok (.newarray .byte, 2) := by decide +kernel
theorem d15_3 : decode jdk_52_method_16_code 3 = .ok (.astore_n 3, 1) := by decide +kernel
theorem d15_4 : decode jdk_52_method_16_code 4 = .ok (.aload_n 0, 1) := by decide +kernel
theorem d15_5 : decode jdk_52_method_16_code 5 = .ok (.iload_n 1, 1) := by decide +kernel
theorem d15_6 : decode jdk_52_method_16_code 6 = .ok (.aload_n 3, 1) := by decide +kernel
theorem d15_7 : decode jdk_52_method_16_code 7 = .ok (.iconst 0, 1) := by decide +kernel
theorem d15_8 : decode jdk_52_method_16_code 8 = .ok (.iload_n 2, 1) := by decide +kernel
theorem d15_9 : decode jdk_52_method_16_code 9 = .ok (.invokestatic 115, 3) := by decide +kernel
theorem d15_12 : decode jdk_52_method_16_code 12 = .ok (.istore 4, 2) := by decide +kernel
theorem d15_14 : decode jdk_52_method_16_code 14 = .ok (.iload 4, 2) := by decide +kernel
theorem d15_16 : decode jdk_52_method_16_code 16 = .ok (.iload_n 2, 1) := by decide +kernel
theorem d15_17 : decode jdk_52_method_16_code 17 = .ok (.if_icmp .eq 40, 3) := by decide +kernel
theorem d15_20 : decode jdk_52_method_16_code 20 = .ok (.aload_n 0, 1) := by decide +kernel
theorem d15_21 : decode jdk_52_method_16_code 21 = .ok (.iload_n 1, 1) := by decide +kernel
theorem d15_22 : decode jdk_52_method_16_code 22 = .ok (.iload_n 2, 1) := by decide +kernel
theorem d15_23 : decode jdk_52_method_16_code 23 = .ok (.invokestatic 119, 3) := by decide +kernel
theorem d15_26 : decode jdk_52_method_16_code 26 = .ok (.astore 5, 2) := by decide +kernel
theorem d15_28 : decode jdk_52_method_16_code 28 = .ok (.aload 5, 2) := by decide +kernel
theorem d15_30 : decode jdk_52_method_16_code 30 = .ok (.iload 4, 2) := by decide +kernel
theorem d15_32 : decode jdk_52_method_16_code 32 = .ok (.invokestatic 71, 3) := by decide +kernel
theorem d15_35 : decode jdk_52_method_16_code 35 = .ok (.sipush 255, 3) := by decide +kernel
theorem d15_38 : decode jdk_52_method_16_code 38 = .ok (.if_icmp .gt 16, 3) := by decide +kernel
theorem d15_54 : decode jdk_52_method_16_code 54 = .ok (.aload 5, 2) := by decide +kernel
theorem d15_56 : decode jdk_52_method_16_code 56 = .ok (.areturn, 1) := by decide +kernel
theorem d16_0 : decode jdk_52_method_21_code 0 = .ok (.iconst 0, 1) := by decide +kernel
theorem d16_1 : decode jdk_52_method_21_code 1 = .ok (.istore 5, 2) := by decide +kernel
theorem d16_3 : decode jdk_52_method_21_code 3 = .ok (.iload 5, 2) := by decide +kernel
theorem d16_5 : decode jdk_52_method_21_code 5 = .ok (.iload 4, 2) := by decide +kernel
theorem d16_7 : decode jdk_52_method_21_code 7 = .ok (.if_icmp .ge 37, 3) := by decide +kernel
theorem d16_10 : decode jdk_52_method_21_code 10 = .ok (.aload_n 0, 1) := by decide +kernel
theorem d16_11 : decode jdk_52_method_21_code 11 = .ok (.iload_n 1, 1) := by decide +kernel
theorem d16_12 : decode jdk_52_method_21_code 12 = .ok (.caload, 1) := by decide +kernel
theorem d16_13 : decode jdk_52_method_21_code 13 = .ok (.istore 6, 2) := by decide +kernel
theorem d16_15 : decode jdk_52_method_21_code 15 = .ok (.iload 6, 2) := by decide +kernel
theorem d16_17 : decode jdk_52_method_21_code 17 = .ok (.sipush 255, 3) := by decide +kernel
theorem d16_20 : decode jdk_52_method_21_code 20 = .ok (.if_icmp .le 6, 3) := by decide +kernel
theorem d16_23 : decode jdk_52_method_21_code 23 = .ok (.iload 5, 2) := by decide +kernel
theorem d16_25 : decode jdk_52_method_21_code 25 = .ok (.ireturn, 1) := by decide +kernel
theorem d16_26 : decode jdk_52_method_21_code 26 = .ok (.aload_n 2, 1) := by decide +kernel
theorem d16_27 : decode jdk_52_method_21_code 27 = .ok (.iload_n 3, 1) := by decide +kernel
theorem d16_28 : decode jdk_52_method_21_code 28 = .ok (.iload 6, 2) := by decide +kernel
theorem d16_30 : decode jdk_52_method_21_code 30 = .ok (.i2b, 1) := by decide +kernel
theorem d16_31 : decode jdk_52_method_21_code 31 = .ok (.bastore, 1) := by decide +kernel
theorem d16_32 : decode jdk_52_method_21_code 32 = .ok (.iinc 1 1, 3) := by decide +kernel
theorem d16_35 : decode jdk_52_method_21_code 35 = .ok (.iinc 3 1, 3) := by decide +kernel
theorem d16_38 : decode jdk_52_method_21_code 38 = .ok (.iinc 5 1, 3) := by decide +kernel
theorem d16_41 : decode jdk_52_method_21_code 41 = .ok (.goto (-38), 3) := by decide +kernel
theorem d17_0 : decode jdk_52_method_15_code 0 = .ok (.iload_n 1, 1) := by decide +kernel
theorem d17_1 : decode jdk_52_method_15_code 1 = .ok (.aload_n 0, 1) := by decide +kernel
theorem d17_2 : decode jdk_52_method_15_code 2 = .ok (.arraylength, 1) := by decide +kernel
theorem d17_3 : decode jdk_52_method_15_code 3 = .ok (.isub, 1) := by decide +kernel
theorem d17_4 : decode jdk_52_method_15_code 4 = .ok (.bipush 31, 2) := by decide +kernel
theorem d17_6 : decode jdk_52_method_15_code 6 = .ok (.iushr, 1) := by decide +kernel
theorem d17_7 : decode jdk_52_method_15_code 7 = .ok (.i2b, 1) := by decide +kernel
theorem d17_8 : decode jdk_52_method_15_code 8 = .ok (.ireturn, 1) := by decide +kernel
theorem d18_0 : decode method_3_code 0 = .ok (.iload_n 0, 1) := by decide +kernel
theorem d18_1 : decode method_3_code 1 = .ok (.bipush 9, 2) := by decide +kernel
theorem d18_3 : decode method_3_code 3 = .ok (.if_icmp .eq 15, 3) := by decide +kernel
theorem d18_6 : decode method_3_code 6 = .ok (.iload_n 0, 1) := by decide +kernel
theorem d18_7 : decode method_3_code 7 = .ok (.bipush 10, 2) := by decide +kernel
theorem d18_9 : decode method_3_code 9 = .ok (.if_icmp .eq 9, 3) := by decide +kernel
theorem d18_12 : decode method_3_code 12 = .ok (.iload_n 0, 1) := by decide +kernel
theorem d18_13 : decode method_3_code 13 = .ok (.bipush 13, 2) := by decide +kernel
theorem d18_15 : decode method_3_code 15 = .ok (.if_icmp .ne 7, 3) := by decide +kernel
theorem d18_18 : decode method_3_code 18 = .ok (.iconst 1, 1) := by decide +kernel
theorem d18_19 : decode method_3_code 19 = .ok (.goto 4, 3) := by decide +kernel
theorem d18_22 : decode method_3_code 22 = .ok (.iconst 0, 1) := by decide +kernel
theorem d18_23 : decode method_3_code 23 = .ok (.ireturn, 1) := by decide +kernel
theorem d19_0 : decode jdk_43_method_23_code 0 = .ok (.iload_n 1, 1) := by decide +kernel
theorem d19_1 : decode jdk_43_method_23_code 1 = .ok (.i2b, 1) := by decide +kernel
theorem d19_2 : decode jdk_43_method_23_code 2 = .ok (.istore 4, 2) := by decide +kernel
theorem d19_4 : decode jdk_43_method_23_code 4 = .ok (.iload_n 2, 1) := by decide +kernel
theorem d19_5 : decode jdk_43_method_23_code 5 = .ok (.istore 5, 2) := by decide +kernel
theorem d19_7 : decode jdk_43_method_23_code 7 = .ok (.iload 5, 2) := by decide +kernel
theorem d19_9 : decode jdk_43_method_23_code 9 = .ok (.iload_n 3, 1) := by decide +kernel
theorem d19_10 : decode jdk_43_method_23_code 10 = .ok (.if_icmp .ge 21, 3) := by decide +kernel
theorem d19_13 : decode jdk_43_method_23_code 13 = .ok (.aload_n 0, 1) := by decide +kernel
theorem d19_14 : decode jdk_43_method_23_code 14 = .ok (.iload 5, 2) := by decide +kernel
theorem d19_16 : decode jdk_43_method_23_code 16 = .ok (.baload, 1) := by decide +kernel
theorem d19_17 : decode jdk_43_method_23_code 17 = .ok (.iload 4, 2) := by decide +kernel
theorem d19_19 : decode jdk_43_method_23_code 19 = .ok (.if_icmp .ne 6, 3) := by decide +kernel
theorem d19_22 : decode jdk_43_method_23_code 22 = .ok (.iload 5, 2) := by decide +kernel
theorem d19_24 : decode jdk_43_method_23_code 24 = .ok (.ireturn, 1) := by decide +kernel
theorem d19_25 : decode jdk_43_method_23_code 25 = .ok (.iinc 5 1, 3) := by decide +kernel
theorem d19_28 : decode jdk_43_method_23_code 28 = .ok (.goto (-21), 3) := by decide +kernel
theorem d19_31 : decode jdk_43_method_23_code 31 = .ok (.iconst (-1), 1) := by decide +kernel
theorem d19_32 : decode jdk_43_method_23_code 32 = .ok (.ireturn, 1) := by decide +kernel
theorem d20_0 : decode jdk_52_method_14_code 0 = .ok (.iload_n 2, 1) := by decide +kernel
theorem d20_1 : decode jdk_52_method_14_code 1 = .ok (.invokestatic 107, 3) := by decide +kernel
theorem d20_4 : decode jdk_52_method_14_code 4 = .ok (.astore_n 3, 1) := by decide +kernel
theorem d20_5 : decode jdk_52_method_14_code 5 = .ok (.iconst 0, 1) := by decide +kernel
theorem d20_6 : decode jdk_52_method_14_code 6 = .ok (.istore 4, 2) := by decide +kernel
theorem d20_8 : decode jdk_52_method_14_code 8 = .ok (.iload 4, 2) := by decide +kernel
theorem d20_10 : decode jdk_52_method_14_code 10 = .ok (.iload_n 2, 1) := by decide +kernel
theorem d20_11 : decode jdk_52_method_14_code 11 = .ok (.if_icmp .ge 21, 3) := by decide +kernel
theorem d20_14 : decode jdk_52_method_14_code 14 = .ok (.aload_n 3, 1) := by decide +kernel
theorem d20_15 : decode jdk_52_method_14_code 15 = .ok (.iload 4, 2) := by decide +kernel
theorem d20_17 : decode jdk_52_method_14_code 17 = .ok (.aload_n 0, 1) := by decide +kernel
theorem d20_18 : decode jdk_52_method_14_code 18 = .ok (.iload_n 1, 1) := by decide +kernel
theorem d20_19 : decode jdk_52_method_14_code 19 = .ok (.caload, 1) := by decide +kernel
theorem d20_20 : decode jdk_52_method_14_code 20 = .ok (.invokestatic 111, 3) := by decide +kernel
theorem d20_23 : decode jdk_52_method_14_code 23 = .ok (.iinc 1 1, 3) := by decide +kernel
theorem d20_26 : decode jdk_52_method_14_code 26 = .ok (.iinc 4 1, 3) := by decide +kernel
theorem d20_29 : decode jdk_52_method_14_code 29 = .ok (.goto (-21), 3) := by decide +kernel
theorem d20_32 : decode jdk_52_method_14_code 32 = .ok (.aload_n 3, 1) := by decide +kernel
theorem d20_33 : decode jdk_52_method_14_code 33 = .ok (.areturn, 1) := by decide +kernel
theorem d21_0 : decode jdk_52_method_2_code 0 = .ok (.iload_n 0, 1) := by decide +kernel
theorem d21_1 : decode jdk_52_method_2_code 1 = .ok (.invokestatic 11, 3) := by decide +kernel
theorem d21_4 : decode jdk_52_method_2_code 4 = .ok (.newarray .byte, 2) := by decide +kernel
theorem d21_6 : decode jdk_52_method_2_code 6 = .ok (.areturn, 1) := by decide +kernel
theorem d22_0 : decode jdk_52_method_3_code 0 = .ok (.iload_n 0, 1) := by decide +kernel
theorem d22_1 : decode jdk_52_method_3_code 1 = .ok (.ifCond .ge 11, 3) := by decide +kernel
theorem d22_12 : decode jdk_52_method_3_code 12 = .ok (.iload_n 0, 1) := by decide +kernel
theorem d22_13 : decode jdk_52_method_3_code 13 = .ok (.ldc 20, 2) := by decide +kernel
theorem d22_15 : decode jdk_52_method_3_code 15 = .ok (.if_icmp .lt 40, 3) := by decide +kernel
theorem d22_55 : decode jdk_52_method_3_code 55 = .ok (.iload_n 0, 1) := by decide +kernel
theorem d22_56 : decode jdk_52_method_3_code 56 = .ok (.iconst 1, 1) := by decide +kernel
theorem d22_57 : decode jdk_52_method_3_code 57 = .ok (.ishl, 1) := by decide +kernel
theorem d22_58 : decode jdk_52_method_3_code 58 = .ok (.ireturn, 1) := by decide +kernel
theorem d23_0 : decode jdk_52_method_4_code 0 = .ok (.getstatic 44, 3) := by decide +kernel
theorem d23_3 : decode jdk_52_method_4_code 3 = .ok (.ifCond .ne 25, 3) := by decide +kernel
theorem d23_28 : decode jdk_52_method_4_code 28 = .ok (.iload_n 1, 1) := by decide +kernel
theorem d23_29 : decode jdk_52_method_4_code 29 = .ok (.iconst 1, 1) := by decide +kernel
theorem d23_30 : decode jdk_52_method_4_code 30 = .ok (.ishl, 1) := by decide +kernel
theorem d23_31 : decode jdk_52_method_4_code 31 = .ok (.istore_n 1, 1) := by decide +kernel
theorem d23_32 : decode jdk_52_method_4_code 32 = .ok (.aload_n 0, 1) := by decide +kernel
theorem d23_33 : decode jdk_52_method_4_code 33 = .ok (.iload_n 1, 1) := by decide +kernel
theorem d23_34 : decode jdk_52_method_4_code 34 = .ok (.iinc 1 1, 3) := by decide +kernel
theorem d23_37 : decode jdk_52_method_4_code 37 = .ok (.iload_n 2, 1) := by decide +kernel
theorem d23_38 : decode jdk_52_method_4_code 38 = .ok (.getstatic 59, 3) := by decide +kernel
theorem d23_41 : decode jdk_52_method_4_code 41 = .ok (.ishr, 1) := by decide +kernel
theorem d23_42 : decode jdk_52_method_4_code 42 = .ok (.i2b, 1) := by decide +kernel
theorem d23_43 : decode jdk_52_method_4_code 43 = .ok (.bastore, 1) := by decide +kernel
theorem d23_44 : decode jdk_52_method_4_code 44 = .ok (.aload_n 0, 1) := by decide +kernel
theorem d23_45 : decode jdk_52_method_4_code 45 = .ok (.iload_n 1, 1) := by decide +kernel
theorem d23_46 : decode jdk_52_method_4_code 46 = .ok (.iload_n 2, 1) := by decide +kernel
theorem d23_47 : decode jdk_52_method_4_code 47 = .ok (.getstatic 63, 3) := by decide +kernel
theorem d23_50 : decode jdk_52_method_4_code 50 = .ok (.ishr, 1) := by decide +kernel
theorem d23_51 : decode jdk_52_method_4_code 51 = .ok (.i2b, 1) := by decide +kernel
theorem d23_52 : decode jdk_52_method_4_code 52 = .ok (.bastore, 1) := by decide +kernel
theorem d23_53 : decode jdk_52_method_4_code 53 = .ok (.return_, 1) := by decide +kernel
theorem d24_0 : decode jdk_52_method_5_code 0 = .ok (.getstatic 44, 3) := by decide +kernel
theorem d24_3 : decode jdk_52_method_5_code 3 = .ok (.ifCond .ne 25, 3) := by decide +kernel
theorem d24_28 : decode jdk_52_method_5_code 28 = .ok (.iload_n 1, 1) := by decide +kernel
theorem d24_29 : decode jdk_52_method_5_code 29 = .ok (.iconst 1, 1) := by decide +kernel
theorem d24_30 : decode jdk_52_method_5_code 30 = .ok (.ishl, 1) := by decide +kernel
theorem d24_31 : decode jdk_52_method_5_code 31 = .ok (.istore_n 1, 1) := by decide +kernel
theorem d24_32 : decode jdk_52_method_5_code 32 = .ok (.aload_n 0, 1) := by decide +kernel
theorem d24_33 : decode jdk_52_method_5_code 33 = .ok (.iload_n 1, 1) := by decide +kernel
theorem d24_34 : decode jdk_52_method_5_code 34 = .ok (.iinc 1 1, 3) := by decide +kernel
theorem d24_37 : decode jdk_52_method_5_code 37 = .ok (.baload, 1) := by decide +kernel
theorem d24_38 : decode jdk_52_method_5_code 38 = .ok (.sipush 255, 3) := by decide +kernel
theorem d24_41 : decode jdk_52_method_5_code 41 = .ok (.iand, 1) := by decide +kernel
theorem d24_42 : decode jdk_52_method_5_code 42 = .ok (.getstatic 59, 3) := by decide +kernel
theorem d24_45 : decode jdk_52_method_5_code 45 = .ok (.ishl, 1) := by decide +kernel
theorem d24_46 : decode jdk_52_method_5_code 46 = .ok (.aload_n 0, 1) := by decide +kernel
theorem d24_47 : decode jdk_52_method_5_code 47 = .ok (.iload_n 1, 1) := by decide +kernel
theorem d24_48 : decode jdk_52_method_5_code 48 = .ok (.baload, 1) := by decide +kernel
theorem d24_49 : decode jdk_52_method_5_code 49 = .ok (.sipush 255, 3) := by decide +kernel
theorem d24_52 : decode jdk_52_method_5_code 52 = .ok (.iand, 1) := by decide +kernel
theorem d24_53 : decode jdk_52_method_5_code 53 = .ok (.getstatic 63, 3) := by decide +kernel
theorem d24_56 : decode jdk_52_method_5_code 56 = .ok (.ishl, 1) := by decide +kernel
theorem d24_57 : decode jdk_52_method_5_code 57 = .ok (.ior, 1) := by decide +kernel
theorem d24_58 : decode jdk_52_method_5_code 58 = .ok (.i2c, 1) := by decide +kernel
theorem d24_59 : decode jdk_52_method_5_code 59 = .ok (.ireturn, 1) := by decide +kernel
theorem d25_0 : decode jdk_52_method_40_code 0 = .ok (.iload_n 2, 1) := by decide +kernel
theorem d25_1 : decode jdk_52_method_40_code 1 = .ok (.iconst 0, 1) := by decide +kernel
theorem d25_2 : decode jdk_52_method_40_code 2 = .ok (.invokestatic 224, 3) := by decide +kernel
theorem d25_5 : decode jdk_52_method_40_code 5 = .ok (.istore_n 2, 1) := by decide +kernel
theorem d25_6 : decode jdk_52_method_40_code 6 = .ok (.iload_n 3, 1) := by decide +kernel
theorem d25_7 : decode jdk_52_method_40_code 7 = .ok (.aload_n 0, 1) := by decide +kernel
theorem d25_8 : decode jdk_52_method_40_code 8 = .ok (.arraylength, 1) := by decide +kernel
theorem d25_9 : decode jdk_52_method_40_code 9 = .ok (.iconst 1, 1) := by decide +kernel
theorem d25_10 : decode jdk_52_method_40_code 10 = .ok (.ishr, 1) := by decide +kernel
theorem d25_11 : decode jdk_52_method_40_code 11 = .ok (.invokestatic 183, 3) := by decide +kernel
theorem d25_14 : decode jdk_52_method_40_code 14 = .ok (.istore_n 3, 1) := by decide +kernel
theorem d25_15 : decode jdk_52_method_40_code 15 = .ok (.iload_n 2, 1) := by decide +kernel
theorem d25_16 : decode jdk_52_method_40_code 16 = .ok (.iload_n 3, 1) := by decide +kernel
theorem d25_17 : decode jdk_52_method_40_code 17 = .ok (.if_icmp .lt 5, 3) := by decide +kernel
theorem d25_22 : decode jdk_52_method_40_code 22 = .ok (.iload_n 1, 1) := by decide +kernel
theorem d25_23 : decode jdk_52_method_40_code 23 = .ok (.ldc 227, 2) := by decide +kernel
theorem d25_25 : decode jdk_52_method_40_code 25 = .ok (.if_icmp .ge 11, 3) := by decide +kernel
theorem d25_28 : decode jdk_52_method_40_code 28 = .ok (.aload_n 0, 1) := by decide +kernel
theorem d25_29 : decode jdk_52_method_40_code 29 = .ok (.iload_n 1, 1) := by decide +kernel
theorem d25_30 : decode jdk_52_method_40_code 30 = .ok (.iload_n 2, 1) := by decide +kernel
theorem d25_31 : decode jdk_52_method_40_code 31 = .ok (.iload_n 3, 1) := by decide +kernel
theorem d25_32 : decode jdk_52_method_40_code 32 = .ok (.invokestatic 228, 3) := by decide +kernel
theorem d25_35 : decode jdk_52_method_40_code 35 = .ok (.ireturn, 1) := by decide +kernel
theorem d26_0 : decode jdk_52_method_47_code 0 = .ok (.iload_n 2, 1) := by decide +kernel
theorem d26_1 : decode jdk_52_method_47_code 1 = .ok (.iload_n 3, 1) := by decide +kernel
theorem d26_2 : decode jdk_52_method_47_code 2 = .ok (.aload_n 0, 1) := by decide +kernel
theorem d26_3 : decode jdk_52_method_47_code 3 = .ok (.invokestatic 96, 3) := by decide +kernel
theorem d26_6 : decode jdk_52_method_47_code 6 = .ok (.aload_n 0, 1) := by decide +kernel
theorem d26_7 : decode jdk_52_method_47_code 7 = .ok (.iload_n 1, 1) := by decide +kernel
theorem d26_8 : decode jdk_52_method_47_code 8 = .ok (.iload_n 2, 1) := by decide +kernel
theorem d26_9 : decode jdk_52_method_47_code 9 = .ok (.iload_n 3, 1) := by decide +kernel
theorem d26_10 : decode jdk_52_method_47_code 10 = .ok (.invokestatic 244, 3) := by decide +kernel
theorem d26_13 : decode jdk_52_method_47_code 13 = .ok (.ireturn, 1) := by decide +kernel
theorem d27_0 : decode jdk_52_method_93_code 0 = .ok (.iload_n 0, 1) := by decide +kernel
theorem d27_1 : decode jdk_52_method_93_code 1 = .ok (.iload_n 1, 1) := by decide +kernel
theorem d27_2 : decode jdk_52_method_93_code 2 = .ok (.aload_n 2, 1) := by decide +kernel
theorem d27_3 : decode jdk_52_method_93_code 3 = .ok (.invokestatic 48, 3) := by decide +kernel
theorem d27_6 : decode jdk_52_method_93_code 6 = .ok (.invokestatic 241, 3) := by decide +kernel
theorem d27_9 : decode jdk_52_method_93_code 9 = .ok (.return_, 1) := by decide +kernel
theorem d28_0 : decode jdk_52_method_6_code 0 = .ok (.aload_n 0, 1) := by decide +kernel
theorem d28_1 : decode jdk_52_method_6_code 1 = .ok (.arraylength, 1) := by decide +kernel
theorem d28_2 : decode jdk_52_method_6_code 2 = .ok (.iconst 1, 1) := by decide +kernel
theorem d28_3 : decode jdk_52_method_6_code 3 = .ok (.ishr, 1) := by decide +kernel
theorem d28_4 : decode jdk_52_method_6_code 4 = .ok (.ireturn, 1) := by decide +kernel
theorem d29_0 : decode jdk_42_method_158_code 0 = .ok (.iload_n 0, 1) := by decide +kernel
theorem d29_1 : decode jdk_42_method_158_code 1 = .ok (.iload_n 1, 1) := by decide +kernel
theorem d29_2 : decode jdk_42_method_158_code 2 = .ok (.iload_n 2, 1) := by decide +kernel
theorem d29_3 : decode jdk_42_method_158_code 3 = .ok (.getstatic 1053, 3) := by decide +kernel
theorem d29_6 : decode jdk_42_method_158_code 6 = .ok (.invokestatic 1062, 3) := by decide +kernel
theorem d29_9 : decode jdk_42_method_158_code 9 = .ok (.pop, 1) := by decide +kernel
theorem d29_10 : decode jdk_42_method_158_code 10 = .ok (.return_, 1) := by decide +kernel
theorem d30_0 : decode jdk_41_method_12_code 0 = .ok (.iload_n 0, 1) := by decide +kernel
theorem d30_1 : decode jdk_41_method_12_code 1 = .ok (.ifCond .lt 13, 3) := by decide +kernel
theorem d30_4 : decode jdk_41_method_12_code 4 = .ok (.iload_n 0, 1) := by decide +kernel
theorem d30_5 : decode jdk_41_method_12_code 5 = .ok (.iload_n 1, 1) := by decide +kernel
theorem d30_6 : decode jdk_41_method_12_code 6 = .ok (.if_icmp .gt 8, 3) := by decide +kernel
theorem d30_9 : decode jdk_41_method_12_code 9 = .ok (.iload_n 1, 1) := by decide +kernel
theorem d30_10 : decode jdk_41_method_12_code 10 = .ok (.iload_n 2, 1) := by decide +kernel
theorem d30_11 : decode jdk_41_method_12_code 11 = .ok (.if_icmp .le 11, 3) := by decide +kernel
theorem d30_22 : decode jdk_41_method_12_code 22 = .ok (.iload_n 0, 1) := by decide +kernel
theorem d30_23 : decode jdk_41_method_12_code 23 = .ok (.ireturn, 1) := by decide +kernel
theorem d31_0 : decode jdk_52_method_48_code 0 = .ok (.iload_n 2, 1) := by decide +kernel
theorem d31_1 : decode jdk_52_method_48_code 1 = .ok (.istore 4, 2) := by decide +kernel
theorem d31_3 : decode jdk_52_method_48_code 3 = .ok (.iload 4, 2) := by decide +kernel
theorem d31_5 : decode jdk_52_method_48_code 5 = .ok (.iload_n 3, 1) := by decide +kernel
theorem d31_6 : decode jdk_52_method_48_code 6 = .ok (.if_icmp .ge 22, 3) := by decide +kernel
theorem d31_9 : decode jdk_52_method_48_code 9 = .ok (.aload_n 0, 1) := by decide +kernel
theorem d31_10 : decode jdk_52_method_48_code 10 = .ok (.iload 4, 2) := by decide +kernel
theorem d31_12 : decode jdk_52_method_48_code 12 = .ok (.invokestatic 71, 3) := by decide +kernel
theorem d31_15 : decode jdk_52_method_48_code 15 = .ok (.iload_n 1, 1) := by decide +kernel
theorem d31_16 : decode jdk_52_method_48_code 16 = .ok (.if_icmp .ne 6, 3) := by decide +kernel
theorem d31_19 : decode jdk_52_method_48_code 19 = .ok (.iload 4, 2) := by decide +kernel
theorem d31_21 : decode jdk_52_method_48_code 21 = .ok (.ireturn, 1) := by decide +kernel
theorem d31_22 : decode jdk_52_method_48_code 22 = .ok (.iinc 4 1, 3) := by decide +kernel
theorem d31_25 : decode jdk_52_method_48_code 25 = .ok (.goto (-22), 3) := by decide +kernel
theorem d31_28 : decode jdk_52_method_48_code 28 = .ok (.iconst (-1), 1) := by decide +kernel
theorem d31_29 : decode jdk_52_method_48_code 29 = .ok (.ireturn, 1) := by decide +kernel
theorem pd0 : parseMethodDescriptor "([CIILjava/lang/Void;)V" = some ⟨[(.array .char), .int, .int, (.object "java/lang/Void")], none⟩ := by decide +kernel
theorem pd1 : parseMethodDescriptor "(I)I" = some ⟨[.int], some .int⟩ := by decide +kernel
theorem pd2 : parseMethodDescriptor "(I)[B" = some ⟨[.int], some (.array .byte)⟩ := by decide +kernel
theorem pd3 : parseMethodDescriptor "([BII)V" = some ⟨[(.array .byte), .int, .int], none⟩ := by decide +kernel
theorem pd4 : parseMethodDescriptor "([CI[BII)I" = some ⟨[(.array .char), .int, (.array .byte), .int, .int], some .int⟩ := by decide +kernel
theorem pd5 : parseMethodDescriptor "([CII)[B" = some ⟨[(.array .char), .int, .int], some (.array .byte)⟩ := by decide +kernel
theorem pd6 : parseMethodDescriptor "([BI)C" = some ⟨[(.array .byte), .int], some .char⟩ := by decide +kernel
theorem pd7 : parseMethodDescriptor "([BI)B" = some ⟨[(.array .byte), .int], some .byte⟩ := by decide +kernel
theorem pd8 : parseMethodDescriptor "()B" = some ⟨[], some .byte⟩ := by decide +kernel
theorem pd9 : parseMethodDescriptor "(I)Z" = some ⟨[.int], some .boolean⟩ := by decide +kernel
theorem pd10 : parseMethodDescriptor "(II)I" = some ⟨[.int, .int], some .int⟩ := by decide +kernel
theorem pd11 : parseMethodDescriptor "([BIII)I" = some ⟨[(.array .byte), .int, .int, .int], some .int⟩ := by decide +kernel
theorem pd12 : parseMethodDescriptor "()Z" = some ⟨[], some .boolean⟩ := by decide +kernel
theorem pd13 : parseMethodDescriptor "()I" = some ⟨[], some .int⟩ := by decide +kernel
theorem pd14 : parseMethodDescriptor "([B)I" = some ⟨[(.array .byte)], some .int⟩ := by decide +kernel
theorem pd15 : parseMethodDescriptor "(IIILjava/util/function/BiFunction;)I" = some ⟨[.int, .int, .int, (.object "java/util/function/BiFunction")], some .int⟩ := by decide +kernel
theorem pd16 : parseMethodDescriptor "(III)V" = some ⟨[.int, .int, .int], none⟩ := by decide +kernel
theorem pd17 : parseMethodDescriptor "(II[B)V" = some ⟨[.int, .int, (.array .byte)], none⟩ := by decide +kernel
theorem pd18 : parseMethodDescriptor "(I)C" = some ⟨[.int], some .char⟩ := by decide +kernel
theorem pd19 : parseMethodDescriptor "([C)V" = some ⟨[(.array .char)], none⟩ := by decide +kernel
theorem pd20 : parseMethodDescriptor "(Ljava/lang/String;)Z" = some ⟨[(.object "java/lang/String")], some .boolean⟩ := by decide +kernel
theorem pd21 : parseMethodDescriptor "(C)Z" = some ⟨[.char], some .boolean⟩ := by decide +kernel
section Cts
set_option maxRecDepth 65536
set_option maxHeartbeats 4000000
def Q_s4e (Z : State) (gC : Int32) (gF : Value) (x : Addr) (b : Addr) (h : Heap) (v : Option Value) (h' : Heap) (WL' FL' : List Addr) : Prop := ∃ t : Addr, v = none ∧ WL' = [] ∧ FL' = [t] ∧ Keep h h' [x] ∧ StrL Z h' x t []
theorem ct_s4e {l : Launch} {Z : State} {a0 : Array Value} {gC : Int32} {gF : Value} (cx : Cx a0 Z gC gF) {n0 : Nat} (x : Addr) (b : Addr) (h : Heap) (WL FL : List Addr) (P0 : Exa Z h x "java/lang/String") (P1 : Fld Z h x "java/lang/String" "value" "[B" .null) (P2 : Fld Z h x "java/lang/String" "coder" "B" (.int 0)) (P3 : x ∈ WL) :
    Ct l Z EL1 n0 (⟨"java/lang/String", "<init>", "([CIILjava/lang/Void;)V"⟩ : MethodName) jdk_42_method_149_code 6 (Option.none : Option Jvm.ClassFile.FieldType) ({ frames := 1, cells := 4, slots := 8, locals := 12 } : Room) #[(.ref x), (.ref b), (.int 0), (.int 0), .null] h WL FL (Q_s4e Z gC gF x b h) := by
  refine Ct.of (plainFor_of_name pn0) ?_
  intro p e s m below meth c s1 hx hby hml hnm hret hlk X0
  refine Wo.cast (f' := (mkF m 0 #[.val (.ref x), .val (.ref b), .val (.int 0), .val (.int 0), .val .null, .unset] [])) (by rfl) ?_
  have K0 : Keep h h [x] := Keep.refl _ _
  show Wo _ _ _ _ _ _ _ _ _ _ _ s1 (mkF m 0 #[.val (.ref x), .val (.ref b), .val (.int 0), .val (.int 0), .val .null, .unset] [])
  refine P.aloadN X0 hx 1 (hb hby d3_0) rfl rfl rfl ?_
  refine X0.initO hx (w16 cx) (w17 cx) (w18 cx) (by rw [hml]; rfl) (hb hby d3_1) (nle rfl) (W := 0) (Nat.le_of_eq rfl) (nle rfl) ?_
  intro T1 X1
  refine P.iloadN X1 hx 5 (hb hby d3_4) rfl rfl ?_
  refine P.ifNo X1 hx 8 (hb hby d3_5) (by decide) rfl ?_
  refine P.aloadN X1 hx 9 (hb hby d3_8) rfl rfl rfl ?_
  refine X1.ldc hx (w19 cx) (strAtoms cx) (by decide) (vs := []) (z := (0 : Int32)) ⟨by decide, by decide⟩ (by decide) rfl (hb hby d3_9) (n := 0) (nle rfl) (nle rfl) (nle rfl) (nle rfl) ?_
  intro T2 h2 a2 b2 k2 X2 E2 A2 C2 V2 B2
  have K3 : Keep h h2 [x] := K0.ext E2
  refine X2.getF hx (host := "") (Or.inl (w25 cx)) Via.refl V2 (hb hby d3_11) ?_
  intro T4 X4
  have F5 : Fld Z h2 x "java/lang/String" "value" "[B" .null := (P1.ext E2)
  have F6 : Exa Z h2 x "java/lang/String" := (P0.ext E2)
  refine X4.putF hx (host := "") (Or.inl (w25 cx)) Via.refl F5 F6 (Or.inr ⟨(w21 cx), rfl, hnm⟩) (w6 cx) (ty := (.array .byte)) (by decide) rfl rfl P3 (hb hby d3_14) ?_
  intro T7 h7 X7 W7 G7
  have K8 : Keep h h7 [x] := K3.wr W7 (Or.inl (List.mem_of_getElem? (i := 0) rfl))
  refine P.aloadN X7 hx 18 (hb hby d3_17) rfl rfl rfl ?_
  refine X7.ldc hx (w19 cx) (strAtoms cx) (by decide) (vs := []) (z := (0 : Int32)) ⟨by decide, by decide⟩ (by decide) rfl (hb hby d3_18) (n := 0) (nle rfl) (nle rfl) (nle rfl) (nle rfl) ?_
  intro T9 h9 a9 b9 k9 X9 E9 A9 C9 V9 B9
  have K10 : Keep h h9 [x] := K8.ext E9
  refine X9.getF hx (host := "") (Or.inl (w26 cx)) Via.refl C9 (hb hby d3_20) ?_
  intro T11 X11
  have F12 : Fld Z h9 x "java/lang/String" "coder" "B" (.int 0) := (((P2.ext E2).other W7 (Or.inr (slot_ne (Or.inr (w22 cx)) (Or.inr (w21 cx)) (by decide) (t := .byte) (t' := (.array .byte)) (by decide) (by decide)))).ext E9)
  have F13 : Exa Z h9 x "java/lang/String" := ((F6.wr W7).ext E9)
  refine X11.putF hx (host := "") (Or.inl (w26 cx)) Via.refl F12 F13 (Or.inr ⟨(w22 cx), rfl, hnm⟩) (w6 cx) (ty := .byte) (by decide) rfl rfl P3 (hb hby d3_23) ?_
  intro T14 h14 X14 W14 G14
  have K15 : Keep h h14 [x] := K10.wr W14 (Or.inl (List.mem_of_getElem? (i := 0) rfl))
  have F16 : Fld Z h14 x "java/lang/String" "value" "[B" (.ref b2) := ((G7.ext E9).other W14 (Or.inr (slot_ne (Or.inr (w21 cx)) (Or.inr (w22 cx)) (by decide) (t := (.array .byte)) (t' := .byte) (by decide) (by decide))))
  have F17 : Exa Z h14 x "java/lang/String" := (F13.wr W14)
  have F18 : Arv Z h14 b2 k2 .byte (0 : Int32) [] (.int 0) := (((B2.other W7 (X14.neF (List.mem_of_getElem? (i := 3) rfl) P3)).ext E9).other W14 (X14.neF (List.mem_of_getElem? (i := 3) rfl) P3))
  have S19 : StrL Z h14 x b2 [] := ⟨F17, F16, G14, ⟨_, F18⟩, fc0, nle rfl⟩
  have X20 := WS.fl (FL2 := (b2 :: FL)) X14 (fun y hy => (List.mem_cons.mp hy).elim (fun q => q ▸ (List.mem_of_getElem? (i := 3) rfl)) (fun q0 => (List.mem_append_right [a9, b9, a2, b2] q0)))
  exact WS.retV X20 (WL' := []) (FL' := [b2]) hx hret hlk (hb hby d3_26) (nle rfl) (nle rfl) ⟨b2, rfl, rfl, rfl, K15, S19⟩
def Q_s1e (Z : State) (gC : Int32) (gF : Value) (x : Addr) (b : Addr) (kb : ClassId) (dv : Value) (h : Heap) (v : Option Value) (h' : Heap) (WL' FL' : List Addr) : Prop := ∃ t : Addr, v = none ∧ WL' = [] ∧ FL' = [t] ∧ Keep h h' [x] ∧ StrL Z h' x t []
theorem ct_s1e {l : Launch} {Z : State} {a0 : Array Value} {gC : Int32} {gF : Value} (cx : Cx a0 Z gC gF) {n0 : Nat} (x : Addr) (b : Addr) (kb : ClassId) (dv : Value) (h : Heap) (WL FL : List Addr) (P0 : Exa Z h x "java/lang/String") (P1 : Fld Z h x "java/lang/String" "value" "[B" .null) (P2 : Fld Z h x "java/lang/String" "coder" "B" (.int 0)) (P3 : x ∈ WL) (P4 : Arv Z h b kb .char (0 : Int32) [] dv) :
    Ct l Z EL1 n0 (⟨"java/lang/String", "<init>", "([C)V"⟩ : MethodName) jdk_42_method_3_code 2 (Option.none : Option Jvm.ClassFile.FieldType) ({ frames := 2, cells := 4, slots := 8, locals := 29 } : Room) #[(.ref x), (.ref b)] h WL FL (Q_s1e Z gC gF x b kb dv h) := by
  refine Ct.of (plainFor_of_name pn0) ?_
  intro p e s m below meth c s1 hx hby hml hnm hret hlk X0
  refine Wo.cast (f' := (mkF m 0 #[.val (.ref x), .val (.ref b)] [])) (by rfl) ?_
  have K0 : Keep h h [x] := Keep.refl _ _
  show Wo _ _ _ _ _ _ _ _ _ _ _ s1 (mkF m 0 #[.val (.ref x), .val (.ref b)] [])
  refine P.aloadN X0 hx 1 (hb hby d2_0) rfl rfl rfl ?_
  refine P.aloadN X0 hx 2 (hb hby d2_1) rfl rfl rfl ?_
  refine P.iconst X0 hx 3 0 (hb hby d2_2) rfl rfl ?_
  refine P.aloadN X0 hx 4 (hb hby d2_3) rfl rfl rfl ?_
  refine WS.alen X0 hx P4 (hb hby d2_4) ?_
  refine P.aconstNull X0 hx 6 (hb hby d2_5) rfl ?_
  refine X0.callC hx rfl (w12 cx) (w13 cx) (w15 cx) (by decide) (Ct.pay (W := 0) (ct_s4e cx x b h _ _ P0 P1 P2 P3) (w15 cx) (w7 cx) (nle rfl) (nle rfl)) (by rw [hml]; rfl) (argsL := [.ref b, .int 0, .int 0, .null]) (rest := []) (lenOf pd0 rfl) rfl rfl (Nat.le_of_eq rfl) (hb hby d2_6) (nle rfl) (nle rfl) ?_
  rintro T1 h1 _ _ _ X1 ⟨a2, rfl, rfl, rfl, J1, G3⟩
  have K4 : Keep h h1 [x] := K0.trans J1 (allS (Or.inl (List.mem_of_getElem? (i := 0) rfl)) all0)
  exact WS.retV X1 (WL' := []) (FL' := [a2]) hx hret hlk (hb hby d2_9) (nle rfl) (nle rfl) ⟨a2, rfl, rfl, rfl, K4, G3⟩
def Q_nbl_1 (Z : State) (gC : Int32) (gF : Value) (h : Heap) (v : Option Value) (h' : Heap) (WL' FL' : List Addr) : Prop := v = some (.int 2) ∧ WL' = [] ∧ FL' = [] ∧ h' = h
theorem ct_nbl_1 {l : Launch} {Z : State} {a0 : Array Value} {gC : Int32} {gF : Value} (cx : Cx a0 Z gC gF) {n0 : Nat} (h : Heap) (WL FL : List Addr)  :
    Ct l Z EL1 n0 (⟨"java/lang/StringUTF16", "newBytesLength", "(I)I"⟩ : MethodName) jdk_52_method_3_code 1 (Option.some Jvm.ClassFile.FieldType.int) ({ frames := 0, cells := 0, slots := 0, locals := 0 } : Room) #[(.int 1)] h WL FL (Q_nbl_1 Z gC gF h) := by
  refine Ct.of (plainFor_of_name pn1) ?_
  intro p e s m below meth c s1 hx hby hml hnm hret hlk X0
  refine Wo.cast (f' := (mkF m 0 #[.val (.int 1)] [])) (by rfl) ?_
  show Wo _ _ _ _ _ _ _ _ _ _ _ s1 (mkF m 0 #[.val (.int 1)] [])
  refine P.iloadN X0 hx 1 (hb hby d22_0) rfl rfl ?_
  refine P.ifYes X0 hx 12 (hb hby d22_1) (by decide) (by decide) (by decide) ?_
  refine P.iloadN X0 hx 13 (hb hby d22_12) rfl rfl ?_
  refine WS.ldcI X0 hx (w96 cx) (hb hby d22_13) ?_
  refine P.icmpYes X0 hx 55 (hb hby d22_15) (by decide) (by decide) (by decide) ?_
  refine P.iloadN X0 hx 56 (hb hby d22_55) rfl rfl ?_
  refine P.iconst X0 hx 57 1 (hb hby d22_56) rfl rfl ?_
  refine P.ishl X0 hx 58 (z := (2 : Int32)) (hb hby d22_57) rfl rfl ?_
  exact WS.retI X0 (WL' := []) (FL' := []) hx hret hlk (hb hby d22_58) (nle rfl) (nle rfl) ⟨rfl, rfl, rfl, rfl⟩
def Q_nbf1 (Z : State) (gC : Int32) (gF : Value) (h : Heap) (v : Option Value) (h' : Heap) (WL' FL' : List Addr) : Prop := ∃ u : Addr, ∃ ku : ClassId, v = some (.ref u) ∧ WL' = [u] ∧ FL' = [] ∧ Keep h h' [] ∧ h.size ≤ u ∧ Arv Z h' u ku .byte (2 : Int32) [(.int 0), (.int 0)] (.int 0)
theorem ct_nbf1 {l : Launch} {Z : State} {a0 : Array Value} {gC : Int32} {gF : Value} (cx : Cx a0 Z gC gF) {n0 : Nat} (h : Heap) (WL FL : List Addr)  :
    Ct l Z EL1 n0 (⟨"java/lang/StringUTF16", "newBytesFor", "(I)[B"⟩ : MethodName) jdk_52_method_2_code 1 (Option.some (Jvm.ClassFile.FieldType.array Jvm.ClassFile.FieldType.byte)) ({ frames := 1, cells := 1, slots := 2, locals := 12 } : Room) #[(.int 1)] h WL FL (Q_nbf1 Z gC gF h) := by
  refine Ct.of (plainFor_of_name pn1) ?_
  intro p e s m below meth c s1 hx hby hml hnm hret hlk X0
  refine Wo.cast (f' := (mkF m 0 #[.val (.int 1)] [])) (by rfl) ?_
  have K0 : Keep h h [] := Keep.refl _ _
  show Wo _ _ _ _ _ _ _ _ _ _ _ s1 (mkF m 0 #[.val (.int 1)] [])
  refine P.iloadN X0 hx 1 (hb hby d21_0) rfl rfl ?_
  refine X0.callS hx (w93 cx) (w94 cx) (w73 cx) (w95 cx) (by decide) (Ct.pay (W := 0) (ct_nbl_1 cx  h _ _ ) (w95 cx) (w73 cx) (nle rfl) (nle rfl)) (by rw [hml]; rfl) (argsL := [.int 1]) (rest := []) (lenOf pd1 rfl) rfl rfl (Nat.le_of_eq rfl) (hb hby d21_1) (nle rfl) (nle rfl) ?_
  rintro T1 h1 _ _ _ X1 ⟨rfl, rfl, rfl, J1⟩
  rw [J1] at X1
  refine X1.newP (aty := .byte) hx (w20 cx) (hb hby d21_4) (by decide) (cap := 2) (nle rfl) (nle rfl) (nle rfl) (nle rfl) ?_
  intro T2 h2 a2 k2 X2 E2 g2 A2
  have ge3 : h.size ≤ a2 := Nat.le_trans K0.1 g2
  have K4 : Keep h h2 [] := K0.ext E2
  have V5 : Arv Z h2 a2 k2 .byte (2 : Int32) [(.int 0), (.int 0)] (.int 0) := Arv.pad A2 (pad_rep [] _ 2)
  exact WS.retA X2 (WL' := [a2]) (FL' := []) hx hret rfl rfl hlk (hb hby d21_6) (nle rfl) (nle rfl) ⟨a2, k2, rfl, rfl, rfl, K4, ge3, V5⟩
def Q_putc10 (Z : State) (gC : Int32) (gF : Value) (u : Addr) (ku : ClassId) (c0 : Int32) (h : Heap) (v : Option Value) (h' : Heap) (WL' FL' : List Addr) : Prop := v = none ∧ WL' = [] ∧ FL' = [] ∧ Keep h h' [u] ∧ Arv Z h' u ku .byte (2 : Int32) [(.int (c0.toInt8.toInt32)), (.int ((c0 >>> ((8 : Int32) &&& 31)).toInt8.toInt32))] (.int 0)
theorem ct_putc10 {l : Launch} {Z : State} {a0 : Array Value} {gC : Int32} {gF : Value} (cx : Cx a0 Z gC gF) {n0 : Nat} (u : Addr) (ku : ClassId) (c0 : Int32) (h : Heap) (WL FL : List Addr) (P0 : Arv Z h u ku .byte (2 : Int32) [(.int 0), (.int 0)] (.int 0)) (P1 : u ∈ WL) :
    Ct l Z EL1 n0 (⟨"java/lang/StringUTF16", "putChar", "([BII)V"⟩ : MethodName) jdk_52_method_4_code 3 (Option.none : Option Jvm.ClassFile.FieldType) ({ frames := 0, cells := 0, slots := 0, locals := 0 } : Room) #[(.ref u), (.int 0), (.int c0)] h WL FL (Q_putc10 Z gC gF u ku c0 h) := by
  refine Ct.of (plainFor_of_name pn1) ?_
  intro p e s m below meth c s1 hx hby hml hnm hret hlk X0
  refine Wo.cast (f' := (mkF m 0 #[.val (.ref u), .val (.int 0), .val (.int c0)] [])) (by rfl) ?_
  have K0 : Keep h h [u] := Keep.refl _ _
  show Wo _ _ _ _ _ _ _ _ _ _ _ s1 (mkF m 0 #[.val (.ref u), .val (.int 0), .val (.int c0)] [])
  refine X0.getS hx (w100 cx) Via.refl (S_AD cx) (hb hby d23_0) ?_
  intro T1 X1
  refine P.ifYes X1 hx 28 (hb hby d23_3) (by decide) (by decide) (by decide) ?_
  refine P.iloadN X1 hx 29 (hb hby d23_28) rfl rfl ?_
  refine P.iconst X1 hx 30 1 (hb hby d23_29) rfl rfl ?_
  refine P.ishl X1 hx 31 (z := (0 : Int32)) (hb hby d23_30) rfl rfl ?_
  refine P.istoreN X1 hx 32 #[.val (.ref u), .val (.int 0), .val (.int c0)] (hb hby d23_31) rfl rfl ?_
  refine P.aloadN X1 hx 33 (hb hby d23_32) rfl rfl rfl ?_
  refine P.iloadN X1 hx 34 (hb hby d23_33) rfl rfl ?_
  refine P.iinc X1 hx 37 #[.val (.ref u), .val (.int 1), .val (.int c0)] (hb hby d23_34) rfl rfl rfl ?_
  refine P.iloadN X1 hx 38 (hb hby d23_37) rfl rfl ?_
  refine X1.getS hx (w101 cx) Via.refl (S_HI cx) (hb hby d23_38) ?_
  intro T2 X2
  refine P.ishr X2 hx 42 (z := c0) (hb hby d23_41) (by rw [shr00]) rfl ?_
  refine P.i2b X2 hx 43 (z := (c0.toInt8.toInt32)) (hb hby d23_42) rfl rfl ?_
  refine X2.stB hx P0 (j := (0 : Int32)) (x := (c0.toInt8.toInt32)) (i := 0) (by decide) rfl (nlt rfl) P1 (hb hby d23_43) ?_
  intro T3 h3 X3 W3 G3
  have K4 : Keep h h3 [u] := K0.wr W3 (Or.inl (List.mem_of_getElem? (i := 0) rfl))
  have V5 : Arv Z h3 u ku .byte (2 : Int32) [(.int (c0.toInt8.toInt32)), (.int 0)] (.int 0) := by have q := G3; rw [narB] at q; exact q
  refine P.aloadN X3 hx 45 (hb hby d23_44) rfl rfl rfl ?_
  refine P.iloadN X3 hx 46 (hb hby d23_45) rfl rfl ?_
  refine P.iloadN X3 hx 47 (hb hby d23_46) rfl rfl ?_
  refine X3.getS hx (w102 cx) Via.refl (S_LO cx) (hb hby d23_47) ?_
  intro T6 X6
  refine P.ishr X6 hx 51 (z := (c0 >>> ((8 : Int32) &&& 31))) (hb hby d23_50) rfl rfl ?_
  refine P.i2b X6 hx 52 (z := ((c0 >>> ((8 : Int32) &&& 31)).toInt8.toInt32)) (hb hby d23_51) rfl rfl ?_
  refine X6.stB hx V5 (j := (1 : Int32)) (x := ((c0 >>> ((8 : Int32) &&& 31)).toInt8.toInt32)) (i := 1) (by decide) rfl (nlt rfl) P1 (hb hby d23_52) ?_
  intro T7 h7 X7 W7 G7
  have K8 : Keep h h7 [u] := K4.wr W7 (Or.inl (List.mem_of_getElem? (i := 0) rfl))
  have V9 : Arv Z h7 u ku .byte (2 : Int32) [(.int (c0.toInt8.toInt32)), (.int ((c0 >>> ((8 : Int32) &&& 31)).toInt8.toInt32))] (.int 0) := by have q := G7; rw [narB] at q; exact q
  exact WS.retV X7 (WL' := []) (FL' := []) hx hret hlk (hb hby d23_53) (nle rfl) (nle rfl) ⟨rfl, rfl, rfl, K8, V9⟩
def Q_getc10 (Z : State) (gC : Int32) (gF : Value) (u : Addr) (ku : ClassId) (c0 : Int32) (h : Heap) (v : Option Value) (h' : Heap) (WL' FL' : List Addr) : Prop := v = some (.int c0) ∧ WL' = [] ∧ FL' = [] ∧ h' = h
theorem ct_getc10 {l : Launch} {Z : State} {a0 : Array Value} {gC : Int32} {gF : Value} (cx : Cx a0 Z gC gF) {n0 : Nat} (u : Addr) (ku : ClassId) (c0 : Int32) (h : Heap) (WL FL : List Addr) (P0 : Arv Z h u ku .byte (2 : Int32) [(.int (c0.toInt8.toInt32)), (.int ((c0 >>> ((8 : Int32) &&& 31)).toInt8.toInt32))] (.int 0)) (hr_c0 : ¬ c0 < 0 ∧ ¬ (65535 : Int32) < c0) :
    Ct l Z EL1 n0 (⟨"java/lang/StringUTF16", "getChar", "([BI)C"⟩ : MethodName) jdk_52_method_5_code 2 (Option.some Jvm.ClassFile.FieldType.char) ({ frames := 0, cells := 0, slots := 0, locals := 0 } : Room) #[(.ref u), (.int 0)] h WL FL (Q_getc10 Z gC gF u ku c0 h) := by
  refine Ct.of (plainFor_of_name pn1) ?_
  intro p e s m below meth c s1 hx hby hml hnm hret hlk X0
  refine Wo.cast (f' := (mkF m 0 #[.val (.ref u), .val (.int 0)] [])) (by rfl) ?_
  show Wo _ _ _ _ _ _ _ _ _ _ _ s1 (mkF m 0 #[.val (.ref u), .val (.int 0)] [])
  refine X0.getS hx (w100 cx) Via.refl (S_AD cx) (hb hby d24_0) ?_
  intro T1 X1
  refine P.ifYes X1 hx 28 (hb hby d24_3) (by decide) (by decide) (by decide) ?_
  refine P.iloadN X1 hx 29 (hb hby d24_28) rfl rfl ?_
  refine P.iconst X1 hx 30 1 (hb hby d24_29) rfl rfl ?_
  refine P.ishl X1 hx 31 (z := (0 : Int32)) (hb hby d24_30) rfl rfl ?_
  refine P.istoreN X1 hx 32 #[.val (.ref u), .val (.int 0)] (hb hby d24_31) rfl rfl ?_
  refine P.aloadN X1 hx 33 (hb hby d24_32) rfl rfl rfl ?_
  refine P.iloadN X1 hx 34 (hb hby d24_33) rfl rfl ?_
  refine P.iinc X1 hx 37 #[.val (.ref u), .val (.int 1)] (hb hby d24_34) rfl rfl rfl ?_
  refine WS.bld X1 hx P0 (j := (0 : Int32)) (x := (c0.toInt8.toInt32)) (by decide) rfl (hb hby d24_37) ?_
  refine P.sipush X1 hx 41 255 (hb hby d24_38) rfl rfl ?_
  refine P.iand X1 hx 42 (z := ((c0.toInt8.toInt32) &&& (255 : Int32))) (hb hby d24_41) rfl rfl ?_
  refine X1.getS hx (w101 cx) Via.refl (S_HI cx) (hb hby d24_42) ?_
  intro T2 X2
  refine P.ishl X2 hx 46 (z := (((c0.toInt8.toInt32) &&& (255 : Int32)) <<< ((0 : Int32) &&& 31))) (hb hby d24_45) rfl rfl ?_
  refine P.aloadN X2 hx 47 (hb hby d24_46) rfl rfl rfl ?_
  refine P.iloadN X2 hx 48 (hb hby d24_47) rfl rfl ?_
  refine WS.bld X2 hx P0 (j := (1 : Int32)) (x := ((c0 >>> ((8 : Int32) &&& 31)).toInt8.toInt32)) (by decide) rfl (hb hby d24_48) ?_
  refine P.sipush X2 hx 52 255 (hb hby d24_49) rfl rfl ?_
  refine P.iand X2 hx 53 (z := (((c0 >>> ((8 : Int32) &&& 31)).toInt8.toInt32) &&& (255 : Int32))) (hb hby d24_52) rfl rfl ?_
  refine X2.getS hx (w102 cx) Via.refl (S_LO cx) (hb hby d24_53) ?_
  intro T3 X3
  refine P.ishl X3 hx 57 (z := ((((c0 >>> ((8 : Int32) &&& 31)).toInt8.toInt32) &&& (255 : Int32)) <<< ((8 : Int32) &&& 31))) (hb hby d24_56) rfl rfl ?_
  refine P.ior X3 hx 58 (z := ((((c0.toInt8.toInt32) &&& (255 : Int32)) <<< ((0 : Int32) &&& 31)) ||| ((((c0 >>> ((8 : Int32) &&& 31)).toInt8.toInt32) &&& (255 : Int32)) <<< ((8 : Int32) &&& 31)))) (hb hby d24_57) rfl rfl ?_
  refine P.i2c X3 hx 59 (z := c0) (hb hby d24_58) (by rw [uU hr_c0]) rfl ?_
  exact WS.retN X3 (WL' := []) (FL' := []) hx (t := .char) hret (by simp) hlk (hb hby d24_59) (nle rfl) (nle rfl) ⟨(by rw [narU hr_c0]), rfl, rfl, rfl⟩
def Q_tob1 (Z : State) (gC : Int32) (gF : Value) (b : Addr) (kb : ClassId) (c0 : Int32) (h : Heap) (v : Option Value) (h' : Heap) (WL' FL' : List Addr) : Prop := ∃ u : Addr, ∃ ku : ClassId, v = some (.ref u) ∧ WL' = [u] ∧ FL' = [] ∧ Keep h h' [] ∧ h.size ≤ u ∧ Arv Z h' u ku .byte (2 : Int32) [(.int (c0.toInt8.toInt32)), (.int ((c0 >>> ((8 : Int32) &&& 31)).toInt8.toInt32))] (.int 0)
theorem ct_tob1 {l : Launch} {Z : State} {a0 : Array Value} {gC : Int32} {gF : Value} (cx : Cx a0 Z gC gF) {n0 : Nat} (b : Addr) (kb : ClassId) (c0 : Int32) (h : Heap) (WL FL : List Addr) (P0 : Arv Z h b kb .char (1 : Int32) [(.int c0)] (.int 0)) (P1 : b ∈ FL) :
    Ct l Z EL1 n0 (⟨"java/lang/StringUTF16", "toBytes", "([CII)[B"⟩ : MethodName) jdk_52_method_14_code 5 (Option.some (Jvm.ClassFile.FieldType.array Jvm.ClassFile.FieldType.byte)) ({ frames := 2, cells := 1, slots := 2, locals := 24 } : Room) #[(.ref b), (.int 0), (.int 1)] h WL FL (Q_tob1 Z gC gF b kb c0 h) := by
  refine Ct.of (plainFor_of_name pn1) ?_
  intro p e s m below meth c s1 hx hby hml hnm hret hlk X0
  refine Wo.cast (f' := (mkF m 0 #[.val (.ref b), .val (.int 0), .val (.int 1), .unset, .unset] [])) (by rfl) ?_
  have K0 : Keep h h [] := Keep.refl _ _
  show Wo _ _ _ _ _ _ _ _ _ _ _ s1 (mkF m 0 #[.val (.ref b), .val (.int 0), .val (.int 1), .unset, .unset] [])
  refine P.iloadN X0 hx 1 (hb hby d20_0) rfl rfl ?_
  refine X0.callS hx (w90 cx) (w91 cx) (w73 cx) (w92 cx) (by decide) (Ct.pay (W := 0) (ct_nbf1 cx  h _ _ ) (w92 cx) (w73 cx) (nle rfl) (nle rfl)) (by rw [hml]; rfl) (argsL := [.int 1]) (rest := []) (lenOf pd2 rfl) rfl rfl (Nat.le_of_eq rfl) (hb hby d20_1) (nle rfl) (nle rfl) ?_
  rintro T1 h1 _ _ _ X1 ⟨a2, k3, rfl, rfl, rfl, J1, g5, G4⟩
  have ge6 : h.size ≤ a2 := Nat.le_trans K0.1 g5
  have K7 : Keep h h1 [] := K0.trans J1 all0
  refine P.astoreN X1 hx 5 #[.val (.ref b), .val (.int 0), .val (.int 1), .val (.ref a2), .unset] (hb hby d20_4) rfl rfl rfl ?_
  refine P.iconst X1 hx 6 0 (hb hby d20_5) rfl rfl ?_
  refine P.istore X1 hx 8 #[.val (.ref b), .val (.int 0), .val (.int 1), .val (.ref a2), .val (.int 0)] (hb hby d20_6) rfl rfl ?_
  refine P.iload X1 hx 10 (hb hby d20_8) rfl rfl ?_
  refine P.iloadN X1 hx 11 (hb hby d20_10) rfl rfl ?_
  refine P.icmpNo X1 hx 14 (hb hby d20_11) (by decide) rfl ?_
  refine P.aloadN X1 hx 15 (hb hby d20_14) rfl rfl rfl ?_
  refine P.iload X1 hx 17 (hb hby d20_15) rfl rfl ?_
  refine P.aloadN X1 hx 18 (hb hby d20_17) rfl rfl rfl ?_
  refine P.iloadN X1 hx 19 (hb hby d20_18) rfl rfl ?_
  have F8 : Arv Z h1 b kb .char (1 : Int32) [(.int c0)] (.int 0) := (P0.keep J1 nin0)
  refine WS.cld X1 hx F8 (j := (0 : Int32)) (x := c0) (by decide) rfl (hb hby d20_19) ?_
  refine X1.callS hx (w97 cx) (w98 cx) (w73 cx) (w99 cx) (by decide) (Ct.pay (W := 0) (ct_putc10 cx a2 k3 c0 h1 _ _ G4 (List.mem_of_getElem? (i := 0) rfl)) (w99 cx) (w73 cx) (nle rfl) (nle rfl)) (by rw [hml]; rfl) (argsL := [.ref a2, .int 0, .int c0]) (rest := []) (lenOf pd3 rfl) rfl rfl (Nat.le_of_eq rfl) (hb hby d20_20) (nle rfl) (nle rfl) ?_
  rintro T9 h9 _ _ _ X9 ⟨rfl, rfl, rfl, J9, G10⟩
  have K11 : Keep h h9 [] := K7.trans J9 (allS (Or.inr ge6) all0)
  refine P.iinc X9 hx 26 #[.val (.ref b), .val (.int 1), .val (.int 1), .val (.ref a2), .val (.int 0)] (hb hby d20_23) rfl rfl rfl ?_
  refine P.iinc X9 hx 29 #[.val (.ref b), .val (.int 1), .val (.int 1), .val (.ref a2), .val (.int 1)] (hb hby d20_26) rfl rfl rfl ?_
  refine P.goto X9 hx 8 (hb hby d20_29) (by decide) (by decide) ?_
  refine P.iload X9 hx 10 (hb hby d20_8) rfl rfl ?_
  refine P.iloadN X9 hx 11 (hb hby d20_10) rfl rfl ?_
  refine P.icmpYes X9 hx 32 (hb hby d20_11) (by decide) (by decide) (by decide) ?_
  refine P.aloadN X9 hx 33 (hb hby d20_32) rfl rfl rfl ?_
  exact WS.retA X9 (WL' := [a2]) (FL' := []) hx hret rfl rfl hlk (hb hby d20_33) (nle rfl) (nle rfl) ⟨a2, k3, rfl, rfl, rfl, K11, ge6, G10⟩
def Q_codU1 (Z : State) (gC : Int32) (gF : Value) (u : Addr) (ku : ClassId) (vs : List Value) (h : Heap) (v : Option Value) (h' : Heap) (WL' FL' : List Addr) : Prop := v = some (.int 1) ∧ WL' = [] ∧ FL' = [] ∧ h' = h
theorem ct_codU1 {l : Launch} {Z : State} {a0 : Array Value} {gC : Int32} {gF : Value} (cx : Cx a0 Z gC gF) {n0 : Nat} (u : Addr) (ku : ClassId) (vs : List Value) (h : Heap) (WL FL : List Addr) (P0 : Arv Z h u ku .byte (2 : Int32) vs (.int 0)) :
    Ct l Z EL1 n0 (⟨"java/lang/StringUTF16", "coderFromArrayLen", "([BI)B"⟩ : MethodName) jdk_52_method_15_code 2 (Option.some Jvm.ClassFile.FieldType.byte) ({ frames := 0, cells := 0, slots := 0, locals := 0 } : Room) #[(.ref u), (.int 1)] h WL FL (Q_codU1 Z gC gF u ku vs h) := by
  refine Ct.of (plainFor_of_name pn1) ?_
  intro p e s m below meth c s1 hx hby hml hnm hret hlk X0
  refine Wo.cast (f' := (mkF m 0 #[.val (.ref u), .val (.int 1)] [])) (by rfl) ?_
  show Wo _ _ _ _ _ _ _ _ _ _ _ s1 (mkF m 0 #[.val (.ref u), .val (.int 1)] [])
  refine P.iloadN X0 hx 1 (hb hby d17_0) rfl rfl ?_
  refine P.aloadN X0 hx 2 (hb hby d17_1) rfl rfl rfl ?_
  refine WS.alen X0 hx P0 (hb hby d17_2) ?_
  refine P.isub X0 hx 4 (z := (-1 : Int32)) (hb hby d17_3) rfl rfl ?_
  refine P.bipush X0 hx 6 31 (hb hby d17_4) rfl rfl ?_
  refine P.iushr X0 hx 7 (z := (1 : Int32)) (hb hby d17_6) rfl rfl ?_
  refine P.i2b X0 hx 8 (z := (1 : Int32)) (hb hby d17_7) rfl rfl ?_
  exact WS.retN X0 (WL' := []) (FL' := []) hx (t := .byte) hret (by simp) hlk (hb hby d17_8) (nle rfl) (nle rfl) ⟨rfl, rfl, rfl, rfl⟩
def Q_cmi10 (Z : State) (gC : Int32) (gF : Value) (b : Addr) (kb : ClassId) (d : Addr) (kd : ClassId) (c0 : Int32) (h : Heap) (v : Option Value) (h' : Heap) (WL' FL' : List Addr) : Prop := v = some (.int 0) ∧ WL' = [] ∧ FL' = [] ∧ Keep h h' [d]
theorem ct_cmi10 {l : Launch} {Z : State} {a0 : Array Value} {gC : Int32} {gF : Value} (cx : Cx a0 Z gC gF) {n0 : Nat} (b : Addr) (kb : ClassId) (d : Addr) (kd : ClassId) (c0 : Int32) (h : Heap) (WL FL : List Addr) (P0 : Arv Z h b kb .char (1 : Int32) [(.int c0)] (.int 0)) (P1 : Arv Z h d kd .byte (1 : Int32) [(.int 0)] (.int 0)) (P2 : d ∈ WL) (hbd : b ≠ d) (hm0 : (255 : Int32) < c0) :
    Ct l Z EL1 n0 (⟨"java/lang/StringUTF16", "compress", "([CI[BII)I"⟩ : MethodName) jdk_52_method_21_code 7 (Option.some Jvm.ClassFile.FieldType.int) ({ frames := 0, cells := 0, slots := 0, locals := 0 } : Room) #[(.ref b), (.int 0), (.ref d), (.int 0), (.int 1)] h WL FL (Q_cmi10 Z gC gF b kb d kd c0 h) := by
  refine Ct.of (plainFor_of_name pn1) ?_
  intro p e s m below meth c s1 hx hby hml hnm hret hlk X0
  refine Wo.cast (f' := (mkF m 0 #[.val (.ref b), .val (.int 0), .val (.ref d), .val (.int 0), .val (.int 1), .unset, .unset] [])) (by rfl) ?_
  have K0 : Keep h h [d] := Keep.refl _ _
  show Wo _ _ _ _ _ _ _ _ _ _ _ s1 (mkF m 0 #[.val (.ref b), .val (.int 0), .val (.ref d), .val (.int 0), .val (.int 1), .unset, .unset] [])
  refine P.iconst X0 hx 1 0 (hb hby d16_0) rfl rfl ?_
  refine P.istore X0 hx 3 #[.val (.ref b), .val (.int 0), .val (.ref d), .val (.int 0), .val (.int 1), .val (.int 0), .unset] (hb hby d16_1) rfl rfl ?_
  refine P.iload X0 hx 5 (hb hby d16_3) rfl rfl ?_
  refine P.iload X0 hx 7 (hb hby d16_5) rfl rfl ?_
  refine P.icmpNo X0 hx 10 (hb hby d16_7) (by decide) rfl ?_
  refine P.aloadN X0 hx 11 (hb hby d16_10) rfl rfl rfl ?_
  refine P.iloadN X0 hx 12 (hb hby d16_11) rfl rfl ?_
  refine WS.cld X0 hx P0 (j := (0 : Int32)) (x := c0) (by decide) rfl (hb hby d16_12) ?_
  refine P.istore X0 hx 15 #[.val (.ref b), .val (.int 0), .val (.ref d), .val (.int 0), .val (.int 1), .val (.int 0), .val (.int c0)] (hb hby d16_13) rfl rfl ?_
  refine P.iload X0 hx 17 (hb hby d16_15) rfl rfl ?_
  refine P.sipush X0 hx 20 255 (hb hby d16_17) rfl rfl ?_
  refine P.icmpNo X0 hx 23 (hb hby d16_20) (tlt hm0).2.2.2 rfl ?_
  refine P.iload X0 hx 25 (hb hby d16_23) rfl rfl ?_
  exact WS.retI X0 (WL' := []) (FL' := []) hx hret hlk (hb hby d16_25) (nle rfl) (nle rfl) ⟨rfl, rfl, rfl, K0⟩
def Q_cm310 (Z : State) (gC : Int32) (gF : Value) (b : Addr) (kb : ClassId) (c0 : Int32) (h : Heap) (v : Option Value) (h' : Heap) (WL' FL' : List Addr) : Prop := ∃ u : Addr, ∃ ku : ClassId, v = some (.ref u) ∧ WL' = [u] ∧ FL' = [] ∧ Keep h h' [] ∧ h.size ≤ u ∧ Arv Z h' u ku .byte (2 : Int32) [(.int (c0.toInt8.toInt32)), (.int ((c0 >>> ((8 : Int32) &&& 31)).toInt8.toInt32))] (.int 0)
theorem ct_cm310 {l : Launch} {Z : State} {a0 : Array Value} {gC : Int32} {gF : Value} (cx : Cx a0 Z gC gF) {n0 : Nat} (b : Addr) (kb : ClassId) (c0 : Int32) (h : Heap) (WL FL : List Addr) (P0 : Arv Z h b kb .char (1 : Int32) [(.int c0)] (.int 0)) (P1 : b ∈ FL) (hr_c0 : ¬ c0 < 0 ∧ ¬ (65535 : Int32) < c0) (hm0 : (255 : Int32) < c0) :
    Ct l Z EL1 n0 (⟨"java/lang/StringUTF16", "compress", "([CII)[B"⟩ : MethodName) jdk_52_method_16_code 6 (Option.some (Jvm.ClassFile.FieldType.array Jvm.ClassFile.FieldType.byte)) ({ frames := 3, cells := 2, slots := 3, locals := 40 } : Room) #[(.ref b), (.int 0), (.int 1)] h WL FL (Q_cm310 Z gC gF b kb c0 h) := by
  refine Ct.of (plainFor_of_name pn1) ?_
  intro p e s m below meth c s1 hx hby hml hnm hret hlk X0
  refine Wo.cast (f' := (mkF m 0 #[.val (.ref b), .val (.int 0), .val (.int 1), .unset, .unset, .unset] [])) (by rfl) ?_
  have K0 : Keep h h [] := Keep.refl _ _
  show Wo _ _ _ _ _ _ _ _ _ _ _ s1 (mkF m 0 #[.val (.ref b), .val (.int 0), .val (.int 1), .unset, .unset, .unset] [])
  refine P.iloadN X0 hx 1 (hb hby d15_0) rfl rfl ?_
  refine X0.newP (aty := .byte) hx (w20 cx) (hb hby d15_1) (by decide) (cap := 1) (nle rfl) (nle rfl) (nle rfl) (nle rfl) ?_
  intro T1 h1 a1 k1 X1 E1 g1 A1
  have ge2 : h.size ≤ a1 := Nat.le_trans K0.1 g1
  have K3 : Keep h h1 [] := K0.ext E1
  have V4 : Arv Z h1 a1 k1 .byte (1 : Int32) [(.int 0)] (.int 0) := Arv.pad A1 (pad_rep [] _ 1)
  refine P.astoreN X1 hx 4 #[.val (.ref b), .val (.int 0), .val (.int 1), .val (.ref a1), .unset, .unset] (hb hby d15_3) rfl rfl rfl ?_
  refine P.aloadN X1 hx 5 (hb hby d15_4) rfl rfl rfl ?_
  refine P.iloadN X1 hx 6 (hb hby d15_5) rfl rfl ?_
  refine P.aloadN X1 hx 7 (hb hby d15_6) rfl rfl rfl ?_
  refine P.iconst X1 hx 8 0 (hb hby d15_7) rfl rfl ?_
  refine P.iloadN X1 hx 9 (hb hby d15_8) rfl rfl ?_
  have F5 : Arv Z h1 b kb .char (1 : Int32) [(.int c0)] (.int 0) := (P0.ext E1)
  refine X1.callS hx (w75 cx) (w76 cx) (w73 cx) (w77 cx) (by decide) (Ct.pay (W := 0) (ct_cmi10 cx b kb a1 k1 c0 h1 _ _ F5 V4 (List.mem_of_getElem? (i := 0) rfl) (X1.neF P1 (List.mem_of_getElem? (i := 0) rfl)) hm0) (w77 cx) (w73 cx) (nle rfl) (nle rfl)) (by rw [hml]; rfl) (argsL := [.ref b, .int 0, .ref a1, .int 0, .int 1]) (rest := []) (lenOf pd4 rfl) rfl rfl (Nat.le_of_eq rfl) (hb hby d15_9) (nle rfl) (nle rfl) ?_
  rintro T6 h6 _ _ _ X6 ⟨rfl, rfl, rfl, J6⟩
  have K7 : Keep h h6 [] := K3.trans J6 (allS (Or.inr ge2) all0)
  refine P.istore X6 hx 14 #[.val (.ref b), .val (.int 0), .val (.int 1), .val (.ref a1), .val (.int 0), .unset] (hb hby d15_12) rfl rfl ?_
  refine P.iload X6 hx 16 (hb hby d15_14) rfl rfl ?_
  refine P.iloadN X6 hx 17 (hb hby d15_16) rfl rfl ?_
  refine P.icmpNo X6 hx 20 (hb hby d15_17) (by decide) rfl ?_
  refine P.aloadN X6 hx 21 (hb hby d15_20) rfl rfl rfl ?_
  refine P.iloadN X6 hx 22 (hb hby d15_21) rfl rfl ?_
  refine P.iloadN X6 hx 23 (hb hby d15_22) rfl rfl ?_
  have F8 : Arv Z h6 b kb .char (1 : Int32) [(.int c0)] (.int 0) := (F5.keep J6 (ninS (X6.neF P1 (List.mem_of_getElem? (i := 0) rfl)) nin0))
  refine X6.callS hx (w87 cx) (w88 cx) (w73 cx) (w89 cx) (by decide) (Ct.pay (W := 0) (ct_tob1 cx b kb c0 h6 _ _ F8 P1) (w89 cx) (w73 cx) (nle rfl) (nle rfl)) (by rw [hml]; rfl) (argsL := [.ref b, .int 0, .int 1]) (rest := []) (lenOf pd5 rfl) rfl rfl (Nat.le_of_eq rfl) (hb hby d15_23) (nle rfl) (nle rfl) ?_
  rintro T9 h9 _ _ _ X9 ⟨a10, k11, rfl, rfl, rfl, J9, g13, G12⟩
  have ge14 : h.size ≤ a10 := Nat.le_trans K7.1 g13
  have K15 : Keep h h9 [] := K7.trans J9 all0
  refine P.astore X9 hx 28 #[.val (.ref b), .val (.int 0), .val (.int 1), .val (.ref a1), .val (.int 0), .val (.ref a10)] (hb hby d15_26) rfl rfl rfl ?_
  refine P.aload X9 hx 30 (hb hby d15_28) rfl rfl rfl ?_
  refine P.iload X9 hx 32 (hb hby d15_30) rfl rfl ?_
  refine X9.callS hx (w103 cx) (w104 cx) (w73 cx) (w105 cx) (by decide) (Ct.pay (W := 0) (ct_getc10 cx a10 k11 c0 h9 _ _ G12 hr_c0) (w105 cx) (w73 cx) (nle rfl) (nle rfl)) (by rw [hml]; rfl) (argsL := [.ref a10, .int 0]) (rest := []) (lenOf pd6 rfl) rfl rfl (Nat.le_of_eq rfl) (hb hby d15_32) (nle rfl) (nle rfl) ?_
  rintro T16 h16 _ _ _ X16 ⟨rfl, rfl, rfl, J16⟩
  rw [J16] at X16
  refine P.sipush X16 hx 38 255 (hb hby d15_35) rfl rfl ?_
  refine P.icmpYes X16 hx 54 (hb hby d15_38) (tlt hm0).2.2.1 (by decide) (by decide) ?_
  refine P.aload X16 hx 56 (hb hby d15_54) rfl rfl rfl ?_
  have X17 := WS.drop (A := [a10]) (B := WL) X16
  have X18 := WS.fl (FL2 := FL) X17 (fun y hy => (List.mem_append_right [a1] hy))
  exact WS.retA X18 (WL' := [a10]) (FL' := []) hx hret rfl rfl hlk (hb hby d15_56) (nle rfl) (nle rfl) ⟨a10, k11, rfl, rfl, rfl, K15, ge14, G12⟩
def Q_s4U10 (Z : State) (gC : Int32) (gF : Value) (x : Addr) (b : Addr) (kb : ClassId) (c0 : Int32) (h : Heap) (v : Option Value) (h' : Heap) (WL' FL' : List Addr) : Prop := ∃ u : Addr, ∃ ku : ClassId, v = none ∧ WL' = [] ∧ FL' = [u] ∧ Keep h h' [x] ∧ Fld Z h' x "java/lang/String" "value" "[B" (.ref u) ∧ Fld Z h' x "java/lang/String" "coder" "B" (.int 1) ∧ Arv Z h' u ku .byte (2 : Int32) [(.int (c0.toInt8.toInt32)), (.int ((c0 >>> ((8 : Int32) &&& 31)).toInt8.toInt32))] (.int 0)
theorem ct_s4U10 {l : Launch} {Z : State} {a0 : Array Value} {gC : Int32} {gF : Value} (cx : Cx a0 Z gC gF) {n0 : Nat} (x : Addr) (b : Addr) (kb : ClassId) (c0 : Int32) (h : Heap) (WL FL : List Addr) (P0 : Exa Z h x "java/lang/String") (P1 : Fld Z h x "java/lang/String" "value" "[B" .null) (P2 : Fld Z h x "java/lang/String" "coder" "B" (.int 0)) (P3 : x ∈ WL) (P4 : Arv Z h b kb .char (1 : Int32) [(.int c0)] (.int 0)) (P5 : b ∈ FL) (hr_c0 : ¬ c0 < 0 ∧ ¬ (65535 : Int32) < c0) (hm0 : (255 : Int32) < c0) :
    Ct l Z EL1 n0 (⟨"java/lang/String", "<init>", "([CIILjava/lang/Void;)V"⟩ : MethodName) jdk_42_method_149_code 6 (Option.none : Option Jvm.ClassFile.FieldType) ({ frames := 4, cells := 2, slots := 3, locals := 57 } : Room) #[(.ref x), (.ref b), (.int 0), (.int 1), .null] h WL FL (Q_s4U10 Z gC gF x b kb c0 h) := by
  refine Ct.of (plainFor_of_name pn0) ?_
  intro p e s m below meth c s1 hx hby hml hnm hret hlk X0
  refine Wo.cast (f' := (mkF m 0 #[.val (.ref x), .val (.ref b), .val (.int 0), .val (.int 1), .val .null, .unset] [])) (by rfl) ?_
  have K0 : Keep h h [x] := Keep.refl _ _
  show Wo _ _ _ _ _ _ _ _ _ _ _ s1 (mkF m 0 #[.val (.ref x), .val (.ref b), .val (.int 0), .val (.int 1), .val .null, .unset] [])
  refine P.aloadN X0 hx 1 (hb hby d3_0) rfl rfl rfl ?_
  refine X0.initO hx (w16 cx) (w17 cx) (w18 cx) (by rw [hml]; rfl) (hb hby d3_1) (nle rfl) (W := 0) (Nat.le_of_eq rfl) (nle rfl) ?_
  intro T1 X1
  refine P.iloadN X1 hx 5 (hb hby d3_4) rfl rfl ?_
  refine P.ifYes X1 hx 27 (hb hby d3_5) (by decide) (by decide) (by decide) ?_
  refine X1.getS hx (w46 cx) Via.refl (S_C cx) (hb hby d3_27) ?_
  intro T2 X2
  refine P.ifNo X2 hx 33 (hb hby d3_30) ((if0 _ _).trans (feq (N_C cx)).1) rfl ?_
  refine P.aloadN X2 hx 34 (hb hby d3_33) rfl rfl rfl ?_
  refine P.iloadN X2 hx 35 (hb hby d3_34) rfl rfl ?_
  refine P.iloadN X2 hx 36 (hb hby d3_35) rfl rfl ?_
  refine X2.callS hx (w71 cx) (w72 cx) (w73 cx) (w74 cx) (by decide) (Ct.pay (W := 0) (ct_cm310 cx b kb c0 h _ _ P4 P5 hr_c0 hm0) (w74 cx) (w73 cx) (nle rfl) (nle rfl)) (by rw [hml]; rfl) (argsL := [.ref b, .int 0, .int 1]) (rest := []) (lenOf pd5 rfl) rfl rfl (Nat.le_of_eq rfl) (hb hby d3_36) (nle rfl) (nle rfl) ?_
  rintro T3 h3 _ _ _ X3 ⟨a4, k5, rfl, rfl, rfl, J3, g7, G6⟩
  have ge8 : h.size ≤ a4 := Nat.le_trans K0.1 g7
  have K9 : Keep h h3 [x] := K0.trans J3 all0
  refine P.astore X3 hx 41 #[.val (.ref x), .val (.ref b), .val (.int 0), .val (.int 1), .val .null, .val (.ref a4)] (hb hby d3_39) rfl rfl rfl ?_
  refine P.aloadN X3 hx 42 (hb hby d3_41) rfl rfl rfl ?_
  refine P.aload X3 hx 44 (hb hby d3_42) rfl rfl rfl ?_
  refine P.iloadN X3 hx 45 (hb hby d3_44) rfl rfl ?_
  refine X3.callS hx (w78 cx) (w79 cx) (w73 cx) (w80 cx) (by decide) (Ct.pay (W := 1) (ct_codU1 cx a4 k5 _ h3 _ _ G6) (w80 cx) (w73 cx) (nle rfl) (nle rfl)) (by rw [hml]; rfl) (argsL := [.ref a4, .int 1]) (rest := [.ref x]) (lenOf pd7 rfl) rfl rfl (Nat.le_of_eq rfl) (hb hby d3_45) (nle rfl) (nle rfl) ?_
  rintro T10 h10 _ _ _ X10 ⟨rfl, rfl, rfl, J10⟩
  rw [J10] at X10
  have F11 : Fld Z h3 x "java/lang/String" "coder" "B" (.int 0) := (P2.keep J3 nin0)
  have F12 : Exa Z h3 x "java/lang/String" := (P0.keep J3)
  refine X10.putF hx (host := "") (Or.inl (w26 cx)) Via.refl F11 F12 (Or.inr ⟨(w22 cx), rfl, hnm⟩) (w6 cx) (ty := .byte) (by decide) rfl rfl (List.mem_cons_of_mem _ P3) (hb hby d3_48) ?_
  intro T13 h13 X13 W13 G13
  have K14 : Keep h h13 [x] := K9.wr W13 (Or.inl (List.mem_of_getElem? (i := 0) rfl))
  refine P.aloadN X13 hx 52 (hb hby d3_51) rfl rfl rfl ?_
  refine P.aload X13 hx 54 (hb hby d3_52) rfl rfl rfl ?_
  have F15 : Fld Z h13 x "java/lang/String" "value" "[B" .null := ((P1.keep J3 nin0).other W13 (Or.inr (slot_ne (Or.inr (w21 cx)) (Or.inr (w22 cx)) (by decide) (t := (.array .byte)) (t' := .byte) (by decide) (by decide))))
  have F16 : Exa Z h13 x "java/lang/String" := (F12.wr W13)
  refine X13.putF hx (host := "") (Or.inl (w25 cx)) Via.refl F15 F16 (Or.inr ⟨(w21 cx), rfl, hnm⟩) (w6 cx) (ty := (.array .byte)) (by decide) rfl rfl (List.mem_cons_of_mem _ P3) (hb hby d3_54) ?_
  intro T17 h17 X17 W17 G17
  have K18 : Keep h h17 [x] := K14.wr W17 (Or.inl (List.mem_of_getElem? (i := 0) rfl))
  have F19 : Arv Z h17 a4 k5 .byte (2 : Int32) [(.int (c0.toInt8.toInt32)), (.int ((c0 >>> ((8 : Int32) &&& 31)).toInt8.toInt32))] (.int 0) := ((G6.other W13 (X17.neT (A := [a4]) (B := WL) (List.mem_of_getElem? (i := 0) rfl) P3)).other W17 (X17.neT (A := [a4]) (B := WL) (List.mem_of_getElem? (i := 0) rfl) P3))
  have F20 : Fld Z h17 x "java/lang/String" "coder" "B" (.int 1) := (G13.other W17 (Or.inr (slot_ne (Or.inr (w22 cx)) (Or.inr (w21 cx)) (by decide) (t := .byte) (t' := (.array .byte)) (by decide) (by decide))))
  have X21 := WS.drop (A := []) (B := WL) X17
  exact WS.retV X21 (WL' := []) (FL' := [a4]) hx hret hlk (hb hby d3_57) (nle rfl) (nle rfl) ⟨a4, k5, rfl, rfl, rfl, K18, G17, F20, F19⟩
def Q_s1U1 (Z : State) (gC : Int32) (gF : Value) (x : Addr) (b : Addr) (kb : ClassId) (c0 : Int32) (h : Heap) (v : Option Value) (h' : Heap) (WL' FL' : List Addr) : Prop := ∃ u : Addr, ∃ ku : ClassId, v = none ∧ WL' = [] ∧ FL' = [u] ∧ Keep h h' [x] ∧ Fld Z h' x "java/lang/String" "value" "[B" (.ref u) ∧ Fld Z h' x "java/lang/String" "coder" "B" (.int 1) ∧ Arv Z h' u ku .byte (2 : Int32) [(.int (c0.toInt8.toInt32)), (.int ((c0 >>> ((8 : Int32) &&& 31)).toInt8.toInt32))] (.int 0)
theorem ct_s1U1_0 {l : Launch} {Z : State} {a0 : Array Value} {gC : Int32} {gF : Value} (cx : Cx a0 Z gC gF) {n0 : Nat} (x : Addr) (b : Addr) (kb : ClassId) (c0 : Int32) (h : Heap) (WL FL : List Addr) (P0 : Exa Z h x "java/lang/String") (P1 : Fld Z h x "java/lang/String" "value" "[B" .null) (P2 : Fld Z h x "java/lang/String" "coder" "B" (.int 0)) (P3 : x ∈ WL) (P4 : Arv Z h b kb .char (1 : Int32) [(.int c0)] (.int 0)) (P5 : b ∈ FL) (hr_c0 : ¬ c0 < 0 ∧ ¬ (65535 : Int32) < c0) (hU : (255 : Int32) < c0) (hm0 : (255 : Int32) < c0) :
    Ct l Z EL1 n0 (⟨"java/lang/String", "<init>", "([C)V"⟩ : MethodName) jdk_42_method_3_code 2 (Option.none : Option Jvm.ClassFile.FieldType) ({ frames := 5, cells := 2, slots := 3, locals := 74 } : Room) #[(.ref x), (.ref b)] h WL FL (Q_s1U1 Z gC gF x b kb c0 h) := by
  refine Ct.of (plainFor_of_name pn0) ?_
  intro p e s m below meth c s1 hx hby hml hnm hret hlk X0
  refine Wo.cast (f' := (mkF m 0 #[.val (.ref x), .val (.ref b)] [])) (by rfl) ?_
  have K0 : Keep h h [x] := Keep.refl _ _
  show Wo _ _ _ _ _ _ _ _ _ _ _ s1 (mkF m 0 #[.val (.ref x), .val (.ref b)] [])
  refine P.aloadN X0 hx 1 (hb hby d2_0) rfl rfl rfl ?_
  refine P.aloadN X0 hx 2 (hb hby d2_1) rfl rfl rfl ?_
  refine P.iconst X0 hx 3 0 (hb hby d2_2) rfl rfl ?_
  refine P.aloadN X0 hx 4 (hb hby d2_3) rfl rfl rfl ?_
  refine WS.alen X0 hx P4 (hb hby d2_4) ?_
  refine P.aconstNull X0 hx 6 (hb hby d2_5) rfl ?_
  refine X0.callC hx rfl (w12 cx) (w13 cx) (w15 cx) (by decide) (Ct.pay (W := 0) (ct_s4U10 cx x b kb c0 h _ _ P0 P1 P2 P3 P4 P5 hr_c0 hU) (w15 cx) (w7 cx) (nle rfl) (nle rfl)) (by rw [hml]; rfl) (argsL := [.ref b, .int 0, .int 1, .null]) (rest := []) (lenOf pd0 rfl) rfl rfl (Nat.le_of_eq rfl) (hb hby d2_6) (nle rfl) (nle rfl) ?_
  rintro T1 h1 _ _ _ X1 ⟨a2, k3, rfl, rfl, rfl, J1, G4, G5, G6⟩
  have K7 : Keep h h1 [x] := K0.trans J1 (allS (Or.inl (List.mem_of_getElem? (i := 0) rfl)) all0)
  exact WS.retV X1 (WL' := []) (FL' := [a2]) hx hret hlk (hb hby d2_9) (nle rfl) (nle rfl) ⟨a2, k3, rfl, rfl, rfl, K7, G4, G5, G6⟩
theorem ct_s1U1 {l : Launch} {Z : State} {a0 : Array Value} {gC : Int32} {gF : Value} (cx : Cx a0 Z gC gF) {n0 : Nat} (x : Addr) (b : Addr) (kb : ClassId) (c0 : Int32) (h : Heap) (WL FL : List Addr) (P0 : Exa Z h x "java/lang/String") (P1 : Fld Z h x "java/lang/String" "value" "[B" .null) (P2 : Fld Z h x "java/lang/String" "coder" "B" (.int 0)) (P3 : x ∈ WL) (P4 : Arv Z h b kb .char (1 : Int32) [(.int c0)] (.int 0)) (P5 : b ∈ FL) (hr_c0 : ¬ c0 < 0 ∧ ¬ (65535 : Int32) < c0) (hU : (255 : Int32) < c0) :
    Ct l Z EL1 n0 (⟨"java/lang/String", "<init>", "([C)V"⟩ : MethodName) jdk_42_method_3_code 2 (Option.none : Option Jvm.ClassFile.FieldType) ({ frames := 5, cells := 2, slots := 3, locals := 74 } : Room) #[(.ref x), (.ref b)] h WL FL (Q_s1U1 Z gC gF x b kb c0 h) := by
  have hm0 : (255 : Int32) < c0 := by exact hU
  exact ct_s1U1_0 cx x b kb c0 h WL FL P0 P1 P2 P3 P4 P5 hr_c0 hU hm0
def Q_nbl_2 (Z : State) (gC : Int32) (gF : Value) (h : Heap) (v : Option Value) (h' : Heap) (WL' FL' : List Addr) : Prop := v = some (.int 4) ∧ WL' = [] ∧ FL' = [] ∧ h' = h
theorem ct_nbl_2 {l : Launch} {Z : State} {a0 : Array Value} {gC : Int32} {gF : Value} (cx : Cx a0 Z gC gF) {n0 : Nat} (h : Heap) (WL FL : List Addr)  :
    Ct l Z EL1 n0 (⟨"java/lang/StringUTF16", "newBytesLength", "(I)I"⟩ : MethodName) jdk_52_method_3_code 1 (Option.some Jvm.ClassFile.FieldType.int) ({ frames := 0, cells := 0, slots := 0, locals := 0 } : Room) #[(.int 2)] h WL FL (Q_nbl_2 Z gC gF h) := by
  refine Ct.of (plainFor_of_name pn1) ?_
  intro p e s m below meth c s1 hx hby hml hnm hret hlk X0
  refine Wo.cast (f' := (mkF m 0 #[.val (.int 2)] [])) (by rfl) ?_
  show Wo _ _ _ _ _ _ _ _ _ _ _ s1 (mkF m 0 #[.val (.int 2)] [])
  refine P.iloadN X0 hx 1 (hb hby d22_0) rfl rfl ?_
  refine P.ifYes X0 hx 12 (hb hby d22_1) (by decide) (by decide) (by decide) ?_
  refine P.iloadN X0 hx 13 (hb hby d22_12) rfl rfl ?_
  refine WS.ldcI X0 hx (w96 cx) (hb hby d22_13) ?_
  refine P.icmpYes X0 hx 55 (hb hby d22_15) (by decide) (by decide) (by decide) ?_
  refine P.iloadN X0 hx 56 (hb hby d22_55) rfl rfl ?_
  refine P.iconst X0 hx 57 1 (hb hby d22_56) rfl rfl ?_
  refine P.ishl X0 hx 58 (z := (4 : Int32)) (hb hby d22_57) rfl rfl ?_
  exact WS.retI X0 (WL' := []) (FL' := []) hx hret hlk (hb hby d22_58) (nle rfl) (nle rfl) ⟨rfl, rfl, rfl, rfl⟩
def Q_nbf2 (Z : State) (gC : Int32) (gF : Value) (h : Heap) (v : Option Value) (h' : Heap) (WL' FL' : List Addr) : Prop := ∃ u : Addr, ∃ ku : ClassId, v = some (.ref u) ∧ WL' = [u] ∧ FL' = [] ∧ Keep h h' [] ∧ h.size ≤ u ∧ Arv Z h' u ku .byte (4 : Int32) [(.int 0), (.int 0), (.int 0), (.int 0)] (.int 0)
theorem ct_nbf2 {l : Launch} {Z : State} {a0 : Array Value} {gC : Int32} {gF : Value} (cx : Cx a0 Z gC gF) {n0 : Nat} (h : Heap) (WL FL : List Addr)  :
    Ct l Z EL1 n0 (⟨"java/lang/StringUTF16", "newBytesFor", "(I)[B"⟩ : MethodName) jdk_52_method_2_code 1 (Option.some (Jvm.ClassFile.FieldType.array Jvm.ClassFile.FieldType.byte)) ({ frames := 1, cells := 1, slots := 4, locals := 12 } : Room) #[(.int 2)] h WL FL (Q_nbf2 Z gC gF h) := by
  refine Ct.of (plainFor_of_name pn1) ?_
  intro p e s m below meth c s1 hx hby hml hnm hret hlk X0
  refine Wo.cast (f' := (mkF m 0 #[.val (.int 2)] [])) (by rfl) ?_
  have K0 : Keep h h [] := Keep.refl _ _
  show Wo _ _ _ _ _ _ _ _ _ _ _ s1 (mkF m 0 #[.val (.int 2)] [])
  refine P.iloadN X0 hx 1 (hb hby d21_0) rfl rfl ?_
  refine X0.callS hx (w93 cx) (w94 cx) (w73 cx) (w95 cx) (by decide) (Ct.pay (W := 0) (ct_nbl_2 cx  h _ _ ) (w95 cx) (w73 cx) (nle rfl) (nle rfl)) (by rw [hml]; rfl) (argsL := [.int 2]) (rest := []) (lenOf pd1 rfl) rfl rfl (Nat.le_of_eq rfl) (hb hby d21_1) (nle rfl) (nle rfl) ?_
  rintro T1 h1 _ _ _ X1 ⟨rfl, rfl, rfl, J1⟩
  rw [J1] at X1
  refine X1.newP (aty := .byte) hx (w20 cx) (hb hby d21_4) (by decide) (cap := 4) (nle rfl) (nle rfl) (nle rfl) (nle rfl) ?_
  intro T2 h2 a2 k2 X2 E2 g2 A2
  have ge3 : h.size ≤ a2 := Nat.le_trans K0.1 g2
  have K4 : Keep h h2 [] := K0.ext E2
  have V5 : Arv Z h2 a2 k2 .byte (4 : Int32) [(.int 0), (.int 0), (.int 0), (.int 0)] (.int 0) := Arv.pad A2 (pad_rep [] _ 4)
  exact WS.retA X2 (WL' := [a2]) (FL' := []) hx hret rfl rfl hlk (hb hby d21_6) (nle rfl) (nle rfl) ⟨a2, k2, rfl, rfl, rfl, K4, ge3, V5⟩
def Q_putc20 (Z : State) (gC : Int32) (gF : Value) (u : Addr) (ku : ClassId) (c0 : Int32) (h : Heap) (v : Option Value) (h' : Heap) (WL' FL' : List Addr) : Prop := v = none ∧ WL' = [] ∧ FL' = [] ∧ Keep h h' [u] ∧ Arv Z h' u ku .byte (4 : Int32) [(.int (c0.toInt8.toInt32)), (.int ((c0 >>> ((8 : Int32) &&& 31)).toInt8.toInt32)), (.int 0), (.int 0)] (.int 0)
theorem ct_putc20 {l : Launch} {Z : State} {a0 : Array Value} {gC : Int32} {gF : Value} (cx : Cx a0 Z gC gF) {n0 : Nat} (u : Addr) (ku : ClassId) (c0 : Int32) (h : Heap) (WL FL : List Addr) (P0 : Arv Z h u ku .byte (4 : Int32) [(.int 0), (.int 0), (.int 0), (.int 0)] (.int 0)) (P1 : u ∈ WL) :
    Ct l Z EL1 n0 (⟨"java/lang/StringUTF16", "putChar", "([BII)V"⟩ : MethodName) jdk_52_method_4_code 3 (Option.none : Option Jvm.ClassFile.FieldType) ({ frames := 0, cells := 0, slots := 0, locals := 0 } : Room) #[(.ref u), (.int 0), (.int c0)] h WL FL (Q_putc20 Z gC gF u ku c0 h) := by
  refine Ct.of (plainFor_of_name pn1) ?_
  intro p e s m below meth c s1 hx hby hml hnm hret hlk X0
  refine Wo.cast (f' := (mkF m 0 #[.val (.ref u), .val (.int 0), .val (.int c0)] [])) (by rfl) ?_
  have K0 : Keep h h [u] := Keep.refl _ _
  show Wo _ _ _ _ _ _ _ _ _ _ _ s1 (mkF m 0 #[.val (.ref u), .val (.int 0), .val (.int c0)] [])
  refine X0.getS hx (w100 cx) Via.refl (S_AD cx) (hb hby d23_0) ?_
  intro T1 X1
  refine P.ifYes X1 hx 28 (hb hby d23_3) (by decide) (by decide) (by decide) ?_
  refine P.iloadN X1 hx 29 (hb hby d23_28) rfl rfl ?_
  refine P.iconst X1 hx 30 1 (hb hby d23_29) rfl rfl ?_
  refine P.ishl X1 hx 31 (z := (0 : Int32)) (hb hby d23_30) rfl rfl ?_
  refine P.istoreN X1 hx 32 #[.val (.ref u), .val (.int 0), .val (.int c0)] (hb hby d23_31) rfl rfl ?_
  refine P.aloadN X1 hx 33 (hb hby d23_32) rfl rfl rfl ?_
  refine P.iloadN X1 hx 34 (hb hby d23_33) rfl rfl ?_
  refine P.iinc X1 hx 37 #[.val (.ref u), .val (.int 1), .val (.int c0)] (hb hby d23_34) rfl rfl rfl ?_
  refine P.iloadN X1 hx 38 (hb hby d23_37) rfl rfl ?_
  refine X1.getS hx (w101 cx) Via.refl (S_HI cx) (hb hby d23_38) ?_
  intro T2 X2
  refine P.ishr X2 hx 42 (z := c0) (hb hby d23_41) (by rw [shr00]) rfl ?_
  refine P.i2b X2 hx 43 (z := (c0.toInt8.toInt32)) (hb hby d23_42) rfl rfl ?_
  refine X2.stB hx P0 (j := (0 : Int32)) (x := (c0.toInt8.toInt32)) (i := 0) (by decide) rfl (nlt rfl) P1 (hb hby d23_43) ?_
  intro T3 h3 X3 W3 G3
  have K4 : Keep h h3 [u] := K0.wr W3 (Or.inl (List.mem_of_getElem? (i := 0) rfl))
  have V5 : Arv Z h3 u ku .byte (4 : Int32) [(.int (c0.toInt8.toInt32)), (.int 0), (.int 0), (.int 0)] (.int 0) := by have q := G3; rw [narB] at q; exact q
  refine P.aloadN X3 hx 45 (hb hby d23_44) rfl rfl rfl ?_
  refine P.iloadN X3 hx 46 (hb hby d23_45) rfl rfl ?_
  refine P.iloadN X3 hx 47 (hb hby d23_46) rfl rfl ?_
  refine X3.getS hx (w102 cx) Via.refl (S_LO cx) (hb hby d23_47) ?_
  intro T6 X6
  refine P.ishr X6 hx 51 (z := (c0 >>> ((8 : Int32) &&& 31))) (hb hby d23_50) rfl rfl ?_
  refine P.i2b X6 hx 52 (z := ((c0 >>> ((8 : Int32) &&& 31)).toInt8.toInt32)) (hb hby d23_51) rfl rfl ?_
  refine X6.stB hx V5 (j := (1 : Int32)) (x := ((c0 >>> ((8 : Int32) &&& 31)).toInt8.toInt32)) (i := 1) (by decide) rfl (nlt rfl) P1 (hb hby d23_52) ?_
  intro T7 h7 X7 W7 G7
  have K8 : Keep h h7 [u] := K4.wr W7 (Or.inl (List.mem_of_getElem? (i := 0) rfl))
  have V9 : Arv Z h7 u ku .byte (4 : Int32) [(.int (c0.toInt8.toInt32)), (.int ((c0 >>> ((8 : Int32) &&& 31)).toInt8.toInt32)), (.int 0), (.int 0)] (.int 0) := by have q := G7; rw [narB] at q; exact q
  exact WS.retV X7 (WL' := []) (FL' := []) hx hret hlk (hb hby d23_53) (nle rfl) (nle rfl) ⟨rfl, rfl, rfl, K8, V9⟩
def Q_getc20 (Z : State) (gC : Int32) (gF : Value) (u : Addr) (ku : ClassId) (c0 : Int32) (c1 : Int32) (h : Heap) (v : Option Value) (h' : Heap) (WL' FL' : List Addr) : Prop := v = some (.int c0) ∧ WL' = [] ∧ FL' = [] ∧ h' = h
theorem ct_getc20 {l : Launch} {Z : State} {a0 : Array Value} {gC : Int32} {gF : Value} (cx : Cx a0 Z gC gF) {n0 : Nat} (u : Addr) (ku : ClassId) (c0 : Int32) (c1 : Int32) (h : Heap) (WL FL : List Addr) (P0 : Arv Z h u ku .byte (4 : Int32) [(.int (c0.toInt8.toInt32)), (.int ((c0 >>> ((8 : Int32) &&& 31)).toInt8.toInt32)), (.int (c1.toInt8.toInt32)), (.int ((c1 >>> ((8 : Int32) &&& 31)).toInt8.toInt32))] (.int 0)) (hr_c0 : ¬ c0 < 0 ∧ ¬ (65535 : Int32) < c0) :
    Ct l Z EL1 n0 (⟨"java/lang/StringUTF16", "getChar", "([BI)C"⟩ : MethodName) jdk_52_method_5_code 2 (Option.some Jvm.ClassFile.FieldType.char) ({ frames := 0, cells := 0, slots := 0, locals := 0 } : Room) #[(.ref u), (.int 0)] h WL FL (Q_getc20 Z gC gF u ku c0 c1 h) := by
  refine Ct.of (plainFor_of_name pn1) ?_
  intro p e s m below meth c s1 hx hby hml hnm hret hlk X0
  refine Wo.cast (f' := (mkF m 0 #[.val (.ref u), .val (.int 0)] [])) (by rfl) ?_
  show Wo _ _ _ _ _ _ _ _ _ _ _ s1 (mkF m 0 #[.val (.ref u), .val (.int 0)] [])
  refine X0.getS hx (w100 cx) Via.refl (S_AD cx) (hb hby d24_0) ?_
  intro T1 X1
  refine P.ifYes X1 hx 28 (hb hby d24_3) (by decide) (by decide) (by decide) ?_
  refine P.iloadN X1 hx 29 (hb hby d24_28) rfl rfl ?_
  refine P.iconst X1 hx 30 1 (hb hby d24_29) rfl rfl ?_
  refine P.ishl X1 hx 31 (z := (0 : Int32)) (hb hby d24_30) rfl rfl ?_
  refine P.istoreN X1 hx 32 #[.val (.ref u), .val (.int 0)] (hb hby d24_31) rfl rfl ?_
  refine P.aloadN X1 hx 33 (hb hby d24_32) rfl rfl rfl ?_
  refine P.iloadN X1 hx 34 (hb hby d24_33) rfl rfl ?_
  refine P.iinc X1 hx 37 #[.val (.ref u), .val (.int 1)] (hb hby d24_34) rfl rfl rfl ?_
  refine WS.bld X1 hx P0 (j := (0 : Int32)) (x := (c0.toInt8.toInt32)) (by decide) rfl (hb hby d24_37) ?_
  refine P.sipush X1 hx 41 255 (hb hby d24_38) rfl rfl ?_
  refine P.iand X1 hx 42 (z := ((c0.toInt8.toInt32) &&& (255 : Int32))) (hb hby d24_41) rfl rfl ?_
  refine X1.getS hx (w101 cx) Via.refl (S_HI cx) (hb hby d24_42) ?_
  intro T2 X2
  refine P.ishl X2 hx 46 (z := (((c0.toInt8.toInt32) &&& (255 : Int32)) <<< ((0 : Int32) &&& 31))) (hb hby d24_45) rfl rfl ?_
  refine P.aloadN X2 hx 47 (hb hby d24_46) rfl rfl rfl ?_
  refine P.iloadN X2 hx 48 (hb hby d24_47) rfl rfl ?_
  refine WS.bld X2 hx P0 (j := (1 : Int32)) (x := ((c0 >>> ((8 : Int32) &&& 31)).toInt8.toInt32)) (by decide) rfl (hb hby d24_48) ?_
  refine P.sipush X2 hx 52 255 (hb hby d24_49) rfl rfl ?_
  refine P.iand X2 hx 53 (z := (((c0 >>> ((8 : Int32) &&& 31)).toInt8.toInt32) &&& (255 : Int32))) (hb hby d24_52) rfl rfl ?_
  refine X2.getS hx (w102 cx) Via.refl (S_LO cx) (hb hby d24_53) ?_
  intro T3 X3
  refine P.ishl X3 hx 57 (z := ((((c0 >>> ((8 : Int32) &&& 31)).toInt8.toInt32) &&& (255 : Int32)) <<< ((8 : Int32) &&& 31))) (hb hby d24_56) rfl rfl ?_
  refine P.ior X3 hx 58 (z := ((((c0.toInt8.toInt32) &&& (255 : Int32)) <<< ((0 : Int32) &&& 31)) ||| ((((c0 >>> ((8 : Int32) &&& 31)).toInt8.toInt32) &&& (255 : Int32)) <<< ((8 : Int32) &&& 31)))) (hb hby d24_57) rfl rfl ?_
  refine P.i2c X3 hx 59 (z := c0) (hb hby d24_58) (by rw [uU hr_c0]) rfl ?_
  exact WS.retN X3 (WL' := []) (FL' := []) hx (t := .char) hret (by simp) hlk (hb hby d24_59) (nle rfl) (nle rfl) ⟨(by rw [narU hr_c0]), rfl, rfl, rfl⟩
def Q_putc21 (Z : State) (gC : Int32) (gF : Value) (u : Addr) (ku : ClassId) (c0 : Int32) (c1 : Int32) (h : Heap) (v : Option Value) (h' : Heap) (WL' FL' : List Addr) : Prop := v = none ∧ WL' = [] ∧ FL' = [] ∧ Keep h h' [u] ∧ Arv Z h' u ku .byte (4 : Int32) [(.int (c0.toInt8.toInt32)), (.int ((c0 >>> ((8 : Int32) &&& 31)).toInt8.toInt32)), (.int (c1.toInt8.toInt32)), (.int ((c1 >>> ((8 : Int32) &&& 31)).toInt8.toInt32))] (.int 0)
theorem ct_putc21 {l : Launch} {Z : State} {a0 : Array Value} {gC : Int32} {gF : Value} (cx : Cx a0 Z gC gF) {n0 : Nat} (u : Addr) (ku : ClassId) (c0 : Int32) (c1 : Int32) (h : Heap) (WL FL : List Addr) (P0 : Arv Z h u ku .byte (4 : Int32) [(.int (c0.toInt8.toInt32)), (.int ((c0 >>> ((8 : Int32) &&& 31)).toInt8.toInt32)), (.int 0), (.int 0)] (.int 0)) (P1 : u ∈ WL) :
    Ct l Z EL1 n0 (⟨"java/lang/StringUTF16", "putChar", "([BII)V"⟩ : MethodName) jdk_52_method_4_code 3 (Option.none : Option Jvm.ClassFile.FieldType) ({ frames := 0, cells := 0, slots := 0, locals := 0 } : Room) #[(.ref u), (.int 1), (.int c1)] h WL FL (Q_putc21 Z gC gF u ku c0 c1 h) := by
  refine Ct.of (plainFor_of_name pn1) ?_
  intro p e s m below meth c s1 hx hby hml hnm hret hlk X0
  refine Wo.cast (f' := (mkF m 0 #[.val (.ref u), .val (.int 1), .val (.int c1)] [])) (by rfl) ?_
  have K0 : Keep h h [u] := Keep.refl _ _
  show Wo _ _ _ _ _ _ _ _ _ _ _ s1 (mkF m 0 #[.val (.ref u), .val (.int 1), .val (.int c1)] [])
  refine X0.getS hx (w100 cx) Via.refl (S_AD cx) (hb hby d23_0) ?_
  intro T1 X1
  refine P.ifYes X1 hx 28 (hb hby d23_3) (by decide) (by decide) (by decide) ?_
  refine P.iloadN X1 hx 29 (hb hby d23_28) rfl rfl ?_
  refine P.iconst X1 hx 30 1 (hb hby d23_29) rfl rfl ?_
  refine P.ishl X1 hx 31 (z := (2 : Int32)) (hb hby d23_30) rfl rfl ?_
  refine P.istoreN X1 hx 32 #[.val (.ref u), .val (.int 2), .val (.int c1)] (hb hby d23_31) rfl rfl ?_
  refine P.aloadN X1 hx 33 (hb hby d23_32) rfl rfl rfl ?_
  refine P.iloadN X1 hx 34 (hb hby d23_33) rfl rfl ?_
  refine P.iinc X1 hx 37 #[.val (.ref u), .val (.int 3), .val (.int c1)] (hb hby d23_34) rfl rfl rfl ?_
  refine P.iloadN X1 hx 38 (hb hby d23_37) rfl rfl ?_
  refine X1.getS hx (w101 cx) Via.refl (S_HI cx) (hb hby d23_38) ?_
  intro T2 X2
  refine P.ishr X2 hx 42 (z := c1) (hb hby d23_41) (by rw [shr00]) rfl ?_
  refine P.i2b X2 hx 43 (z := (c1.toInt8.toInt32)) (hb hby d23_42) rfl rfl ?_
  refine X2.stB hx P0 (j := (2 : Int32)) (x := (c1.toInt8.toInt32)) (i := 2) (by decide) rfl (nlt rfl) P1 (hb hby d23_43) ?_
  intro T3 h3 X3 W3 G3
  have K4 : Keep h h3 [u] := K0.wr W3 (Or.inl (List.mem_of_getElem? (i := 0) rfl))
  have V5 : Arv Z h3 u ku .byte (4 : Int32) [(.int (c0.toInt8.toInt32)), (.int ((c0 >>> ((8 : Int32) &&& 31)).toInt8.toInt32)), (.int (c1.toInt8.toInt32)), (.int 0)] (.int 0) := by have q := G3; rw [narB] at q; exact q
  refine P.aloadN X3 hx 45 (hb hby d23_44) rfl rfl rfl ?_
  refine P.iloadN X3 hx 46 (hb hby d23_45) rfl rfl ?_
  refine P.iloadN X3 hx 47 (hb hby d23_46) rfl rfl ?_
  refine X3.getS hx (w102 cx) Via.refl (S_LO cx) (hb hby d23_47) ?_
  intro T6 X6
  refine P.ishr X6 hx 51 (z := (c1 >>> ((8 : Int32) &&& 31))) (hb hby d23_50) rfl rfl ?_
  refine P.i2b X6 hx 52 (z := ((c1 >>> ((8 : Int32) &&& 31)).toInt8.toInt32)) (hb hby d23_51) rfl rfl ?_
  refine X6.stB hx V5 (j := (3 : Int32)) (x := ((c1 >>> ((8 : Int32) &&& 31)).toInt8.toInt32)) (i := 3) (by decide) rfl (nlt rfl) P1 (hb hby d23_52) ?_
  intro T7 h7 X7 W7 G7
  have K8 : Keep h h7 [u] := K4.wr W7 (Or.inl (List.mem_of_getElem? (i := 0) rfl))
  have V9 : Arv Z h7 u ku .byte (4 : Int32) [(.int (c0.toInt8.toInt32)), (.int ((c0 >>> ((8 : Int32) &&& 31)).toInt8.toInt32)), (.int (c1.toInt8.toInt32)), (.int ((c1 >>> ((8 : Int32) &&& 31)).toInt8.toInt32))] (.int 0) := by have q := G7; rw [narB] at q; exact q
  exact WS.retV X7 (WL' := []) (FL' := []) hx hret hlk (hb hby d23_53) (nle rfl) (nle rfl) ⟨rfl, rfl, rfl, K8, V9⟩
def Q_getc21 (Z : State) (gC : Int32) (gF : Value) (u : Addr) (ku : ClassId) (c0 : Int32) (c1 : Int32) (h : Heap) (v : Option Value) (h' : Heap) (WL' FL' : List Addr) : Prop := v = some (.int c1) ∧ WL' = [] ∧ FL' = [] ∧ h' = h
theorem ct_getc21 {l : Launch} {Z : State} {a0 : Array Value} {gC : Int32} {gF : Value} (cx : Cx a0 Z gC gF) {n0 : Nat} (u : Addr) (ku : ClassId) (c0 : Int32) (c1 : Int32) (h : Heap) (WL FL : List Addr) (P0 : Arv Z h u ku .byte (4 : Int32) [(.int (c0.toInt8.toInt32)), (.int ((c0 >>> ((8 : Int32) &&& 31)).toInt8.toInt32)), (.int (c1.toInt8.toInt32)), (.int ((c1 >>> ((8 : Int32) &&& 31)).toInt8.toInt32))] (.int 0)) (hr_c1 : ¬ c1 < 0 ∧ ¬ (65535 : Int32) < c1) :
    Ct l Z EL1 n0 (⟨"java/lang/StringUTF16", "getChar", "([BI)C"⟩ : MethodName) jdk_52_method_5_code 2 (Option.some Jvm.ClassFile.FieldType.char) ({ frames := 0, cells := 0, slots := 0, locals := 0 } : Room) #[(.ref u), (.int 1)] h WL FL (Q_getc21 Z gC gF u ku c0 c1 h) := by
  refine Ct.of (plainFor_of_name pn1) ?_
  intro p e s m below meth c s1 hx hby hml hnm hret hlk X0
  refine Wo.cast (f' := (mkF m 0 #[.val (.ref u), .val (.int 1)] [])) (by rfl) ?_
  show Wo _ _ _ _ _ _ _ _ _ _ _ s1 (mkF m 0 #[.val (.ref u), .val (.int 1)] [])
  refine X0.getS hx (w100 cx) Via.refl (S_AD cx) (hb hby d24_0) ?_
  intro T1 X1
  refine P.ifYes X1 hx 28 (hb hby d24_3) (by decide) (by decide) (by decide) ?_
  refine P.iloadN X1 hx 29 (hb hby d24_28) rfl rfl ?_
  refine P.iconst X1 hx 30 1 (hb hby d24_29) rfl rfl ?_
  refine P.ishl X1 hx 31 (z := (2 : Int32)) (hb hby d24_30) rfl rfl ?_
  refine P.istoreN X1 hx 32 #[.val (.ref u), .val (.int 2)] (hb hby d24_31) rfl rfl ?_
  refine P.aloadN X1 hx 33 (hb hby d24_32) rfl rfl rfl ?_
  refine P.iloadN X1 hx 34 (hb hby d24_33) rfl rfl ?_
  refine P.iinc X1 hx 37 #[.val (.ref u), .val (.int 3)] (hb hby d24_34) rfl rfl rfl ?_
  refine WS.bld X1 hx P0 (j := (2 : Int32)) (x := (c1.toInt8.toInt32)) (by decide) rfl (hb hby d24_37) ?_
  refine P.sipush X1 hx 41 255 (hb hby d24_38) rfl rfl ?_
  refine P.iand X1 hx 42 (z := ((c1.toInt8.toInt32) &&& (255 : Int32))) (hb hby d24_41) rfl rfl ?_
  refine X1.getS hx (w101 cx) Via.refl (S_HI cx) (hb hby d24_42) ?_
  intro T2 X2
  refine P.ishl X2 hx 46 (z := (((c1.toInt8.toInt32) &&& (255 : Int32)) <<< ((0 : Int32) &&& 31))) (hb hby d24_45) rfl rfl ?_
  refine P.aloadN X2 hx 47 (hb hby d24_46) rfl rfl rfl ?_
  refine P.iloadN X2 hx 48 (hb hby d24_47) rfl rfl ?_
  refine WS.bld X2 hx P0 (j := (3 : Int32)) (x := ((c1 >>> ((8 : Int32) &&& 31)).toInt8.toInt32)) (by decide) rfl (hb hby d24_48) ?_
  refine P.sipush X2 hx 52 255 (hb hby d24_49) rfl rfl ?_
  refine P.iand X2 hx 53 (z := (((c1 >>> ((8 : Int32) &&& 31)).toInt8.toInt32) &&& (255 : Int32))) (hb hby d24_52) rfl rfl ?_
  refine X2.getS hx (w102 cx) Via.refl (S_LO cx) (hb hby d24_53) ?_
  intro T3 X3
  refine P.ishl X3 hx 57 (z := ((((c1 >>> ((8 : Int32) &&& 31)).toInt8.toInt32) &&& (255 : Int32)) <<< ((8 : Int32) &&& 31))) (hb hby d24_56) rfl rfl ?_
  refine P.ior X3 hx 58 (z := ((((c1.toInt8.toInt32) &&& (255 : Int32)) <<< ((0 : Int32) &&& 31)) ||| ((((c1 >>> ((8 : Int32) &&& 31)).toInt8.toInt32) &&& (255 : Int32)) <<< ((8 : Int32) &&& 31)))) (hb hby d24_57) rfl rfl ?_
  refine P.i2c X3 hx 59 (z := c1) (hb hby d24_58) (by rw [uU hr_c1]) rfl ?_
  exact WS.retN X3 (WL' := []) (FL' := []) hx (t := .char) hret (by simp) hlk (hb hby d24_59) (nle rfl) (nle rfl) ⟨(by rw [narU hr_c1]), rfl, rfl, rfl⟩
def Q_tob2 (Z : State) (gC : Int32) (gF : Value) (b : Addr) (kb : ClassId) (c0 : Int32) (c1 : Int32) (h : Heap) (v : Option Value) (h' : Heap) (WL' FL' : List Addr) : Prop := ∃ u : Addr, ∃ ku : ClassId, v = some (.ref u) ∧ WL' = [u] ∧ FL' = [] ∧ Keep h h' [] ∧ h.size ≤ u ∧ Arv Z h' u ku .byte (4 : Int32) [(.int (c0.toInt8.toInt32)), (.int ((c0 >>> ((8 : Int32) &&& 31)).toInt8.toInt32)), (.int (c1.toInt8.toInt32)), (.int ((c1 >>> ((8 : Int32) &&& 31)).toInt8.toInt32))] (.int 0)
theorem ct_tob2 {l : Launch} {Z : State} {a0 : Array Value} {gC : Int32} {gF : Value} (cx : Cx a0 Z gC gF) {n0 : Nat} (b : Addr) (kb : ClassId) (c0 : Int32) (c1 : Int32) (h : Heap) (WL FL : List Addr) (P0 : Arv Z h b kb .char (2 : Int32) [(.int c0), (.int c1)] (.int 0)) (P1 : b ∈ FL) :
    Ct l Z EL1 n0 (⟨"java/lang/StringUTF16", "toBytes", "([CII)[B"⟩ : MethodName) jdk_52_method_14_code 5 (Option.some (Jvm.ClassFile.FieldType.array Jvm.ClassFile.FieldType.byte)) ({ frames := 2, cells := 1, slots := 4, locals := 24 } : Room) #[(.ref b), (.int 0), (.int 2)] h WL FL (Q_tob2 Z gC gF b kb c0 c1 h) := by
  refine Ct.of (plainFor_of_name pn1) ?_
  intro p e s m below meth c s1 hx hby hml hnm hret hlk X0
  refine Wo.cast (f' := (mkF m 0 #[.val (.ref b), .val (.int 0), .val (.int 2), .unset, .unset] [])) (by rfl) ?_
  have K0 : Keep h h [] := Keep.refl _ _
  show Wo _ _ _ _ _ _ _ _ _ _ _ s1 (mkF m 0 #[.val (.ref b), .val (.int 0), .val (.int 2), .unset, .unset] [])
  refine P.iloadN X0 hx 1 (hb hby d20_0) rfl rfl ?_
  refine X0.callS hx (w90 cx) (w91 cx) (w73 cx) (w92 cx) (by decide) (Ct.pay (W := 0) (ct_nbf2 cx  h _ _ ) (w92 cx) (w73 cx) (nle rfl) (nle rfl)) (by rw [hml]; rfl) (argsL := [.int 2]) (rest := []) (lenOf pd2 rfl) rfl rfl (Nat.le_of_eq rfl) (hb hby d20_1) (nle rfl) (nle rfl) ?_
  rintro T1 h1 _ _ _ X1 ⟨a2, k3, rfl, rfl, rfl, J1, g5, G4⟩
  have ge6 : h.size ≤ a2 := Nat.le_trans K0.1 g5
  have K7 : Keep h h1 [] := K0.trans J1 all0
  refine P.astoreN X1 hx 5 #[.val (.ref b), .val (.int 0), .val (.int 2), .val (.ref a2), .unset] (hb hby d20_4) rfl rfl rfl ?_
  refine P.iconst X1 hx 6 0 (hb hby d20_5) rfl rfl ?_
  refine P.istore X1 hx 8 #[.val (.ref b), .val (.int 0), .val (.int 2), .val (.ref a2), .val (.int 0)] (hb hby d20_6) rfl rfl ?_
  refine P.iload X1 hx 10 (hb hby d20_8) rfl rfl ?_
  refine P.iloadN X1 hx 11 (hb hby d20_10) rfl rfl ?_
  refine P.icmpNo X1 hx 14 (hb hby d20_11) (by decide) rfl ?_
  refine P.aloadN X1 hx 15 (hb hby d20_14) rfl rfl rfl ?_
  refine P.iload X1 hx 17 (hb hby d20_15) rfl rfl ?_
  refine P.aloadN X1 hx 18 (hb hby d20_17) rfl rfl rfl ?_
  refine P.iloadN X1 hx 19 (hb hby d20_18) rfl rfl ?_
  have F8 : Arv Z h1 b kb .char (2 : Int32) [(.int c0), (.int c1)] (.int 0) := (P0.keep J1 nin0)
  refine WS.cld X1 hx F8 (j := (0 : Int32)) (x := c0) (by decide) rfl (hb hby d20_19) ?_
  refine X1.callS hx (w97 cx) (w98 cx) (w73 cx) (w99 cx) (by decide) (Ct.pay (W := 0) (ct_putc20 cx a2 k3 c0 h1 _ _ G4 (List.mem_of_getElem? (i := 0) rfl)) (w99 cx) (w73 cx) (nle rfl) (nle rfl)) (by rw [hml]; rfl) (argsL := [.ref a2, .int 0, .int c0]) (rest := []) (lenOf pd3 rfl) rfl rfl (Nat.le_of_eq rfl) (hb hby d20_20) (nle rfl) (nle rfl) ?_
  rintro T9 h9 _ _ _ X9 ⟨rfl, rfl, rfl, J9, G10⟩
  have K11 : Keep h h9 [] := K7.trans J9 (allS (Or.inr ge6) all0)
  refine P.iinc X9 hx 26 #[.val (.ref b), .val (.int 1), .val (.int 2), .val (.ref a2), .val (.int 0)] (hb hby d20_23) rfl rfl rfl ?_
  refine P.iinc X9 hx 29 #[.val (.ref b), .val (.int 1), .val (.int 2), .val (.ref a2), .val (.int 1)] (hb hby d20_26) rfl rfl rfl ?_
  refine P.goto X9 hx 8 (hb hby d20_29) (by decide) (by decide) ?_
  refine P.iload X9 hx 10 (hb hby d20_8) rfl rfl ?_
  refine P.iloadN X9 hx 11 (hb hby d20_10) rfl rfl ?_
  refine P.icmpNo X9 hx 14 (hb hby d20_11) (by decide) rfl ?_
  refine P.aloadN X9 hx 15 (hb hby d20_14) rfl rfl rfl ?_
  refine P.iload X9 hx 17 (hb hby d20_15) rfl rfl ?_
  refine P.aloadN X9 hx 18 (hb hby d20_17) rfl rfl rfl ?_
  refine P.iloadN X9 hx 19 (hb hby d20_18) rfl rfl ?_
  have F12 : Arv Z h9 b kb .char (2 : Int32) [(.int c0), (.int c1)] (.int 0) := (F8.keep J9 (ninS (X9.neF P1 (List.mem_of_getElem? (i := 0) rfl)) nin0))
  refine WS.cld X9 hx F12 (j := (1 : Int32)) (x := c1) (by decide) rfl (hb hby d20_19) ?_
  refine X9.callS hx (w97 cx) (w98 cx) (w73 cx) (w99 cx) (by decide) (Ct.pay (W := 0) (ct_putc21 cx a2 k3 c0 c1 h9 _ _ G10 (List.mem_of_getElem? (i := 0) rfl)) (w99 cx) (w73 cx) (nle rfl) (nle rfl)) (by rw [hml]; rfl) (argsL := [.ref a2, .int 1, .int c1]) (rest := []) (lenOf pd3 rfl) rfl rfl (Nat.le_of_eq rfl) (hb hby d20_20) (nle rfl) (nle rfl) ?_
  rintro T13 h13 _ _ _ X13 ⟨rfl, rfl, rfl, J13, G14⟩
  have K15 : Keep h h13 [] := K11.trans J13 (allS (Or.inr ge6) all0)
  refine P.iinc X13 hx 26 #[.val (.ref b), .val (.int 2), .val (.int 2), .val (.ref a2), .val (.int 1)] (hb hby d20_23) rfl rfl rfl ?_
  refine P.iinc X13 hx 29 #[.val (.ref b), .val (.int 2), .val (.int 2), .val (.ref a2), .val (.int 2)] (hb hby d20_26) rfl rfl rfl ?_
  refine P.goto X13 hx 8 (hb hby d20_29) (by decide) (by decide) ?_
  refine P.iload X13 hx 10 (hb hby d20_8) rfl rfl ?_
  refine P.iloadN X13 hx 11 (hb hby d20_10) rfl rfl ?_
  refine P.icmpYes X13 hx 32 (hb hby d20_11) (by decide) (by decide) (by decide) ?_
  refine P.aloadN X13 hx 33 (hb hby d20_32) rfl rfl rfl ?_
  exact WS.retA X13 (WL' := [a2]) (FL' := []) hx hret rfl rfl hlk (hb hby d20_33) (nle rfl) (nle rfl) ⟨a2, k3, rfl, rfl, rfl, K15, ge6, G14⟩
def Q_codU2 (Z : State) (gC : Int32) (gF : Value) (u : Addr) (ku : ClassId) (vs : List Value) (h : Heap) (v : Option Value) (h' : Heap) (WL' FL' : List Addr) : Prop := v = some (.int 1) ∧ WL' = [] ∧ FL' = [] ∧ h' = h
theorem ct_codU2 {l : Launch} {Z : State} {a0 : Array Value} {gC : Int32} {gF : Value} (cx : Cx a0 Z gC gF) {n0 : Nat} (u : Addr) (ku : ClassId) (vs : List Value) (h : Heap) (WL FL : List Addr) (P0 : Arv Z h u ku .byte (4 : Int32) vs (.int 0)) :
    Ct l Z EL1 n0 (⟨"java/lang/StringUTF16", "coderFromArrayLen", "([BI)B"⟩ : MethodName) jdk_52_method_15_code 2 (Option.some Jvm.ClassFile.FieldType.byte) ({ frames := 0, cells := 0, slots := 0, locals := 0 } : Room) #[(.ref u), (.int 2)] h WL FL (Q_codU2 Z gC gF u ku vs h) := by
  refine Ct.of (plainFor_of_name pn1) ?_
  intro p e s m below meth c s1 hx hby hml hnm hret hlk X0
  refine Wo.cast (f' := (mkF m 0 #[.val (.ref u), .val (.int 2)] [])) (by rfl) ?_
  show Wo _ _ _ _ _ _ _ _ _ _ _ s1 (mkF m 0 #[.val (.ref u), .val (.int 2)] [])
  refine P.iloadN X0 hx 1 (hb hby d17_0) rfl rfl ?_
  refine P.aloadN X0 hx 2 (hb hby d17_1) rfl rfl rfl ?_
  refine WS.alen X0 hx P0 (hb hby d17_2) ?_
  refine P.isub X0 hx 4 (z := (-2 : Int32)) (hb hby d17_3) rfl rfl ?_
  refine P.bipush X0 hx 6 31 (hb hby d17_4) rfl rfl ?_
  refine P.iushr X0 hx 7 (z := (1 : Int32)) (hb hby d17_6) rfl rfl ?_
  refine P.i2b X0 hx 8 (z := (1 : Int32)) (hb hby d17_7) rfl rfl ?_
  exact WS.retN X0 (WL' := []) (FL' := []) hx (t := .byte) hret (by simp) hlk (hb hby d17_8) (nle rfl) (nle rfl) ⟨rfl, rfl, rfl, rfl⟩
def Q_cmi20 (Z : State) (gC : Int32) (gF : Value) (b : Addr) (kb : ClassId) (d : Addr) (kd : ClassId) (c0 : Int32) (c1 : Int32) (h : Heap) (v : Option Value) (h' : Heap) (WL' FL' : List Addr) : Prop := v = some (.int 0) ∧ WL' = [] ∧ FL' = [] ∧ Keep h h' [d]
theorem ct_cmi20 {l : Launch} {Z : State} {a0 : Array Value} {gC : Int32} {gF : Value} (cx : Cx a0 Z gC gF) {n0 : Nat} (b : Addr) (kb : ClassId) (d : Addr) (kd : ClassId) (c0 : Int32) (c1 : Int32) (h : Heap) (WL FL : List Addr) (P0 : Arv Z h b kb .char (2 : Int32) [(.int c0), (.int c1)] (.int 0)) (P1 : Arv Z h d kd .byte (2 : Int32) [(.int 0), (.int 0)] (.int 0)) (P2 : d ∈ WL) (hbd : b ≠ d) (hm0 : (255 : Int32) < c0) :
    Ct l Z EL1 n0 (⟨"java/lang/StringUTF16", "compress", "([CI[BII)I"⟩ : MethodName) jdk_52_method_21_code 7 (Option.some Jvm.ClassFile.FieldType.int) ({ frames := 0, cells := 0, slots := 0, locals := 0 } : Room) #[(.ref b), (.int 0), (.ref d), (.int 0), (.int 2)] h WL FL (Q_cmi20 Z gC gF b kb d kd c0 c1 h) := by
  refine Ct.of (plainFor_of_name pn1) ?_
  intro p e s m below meth c s1 hx hby hml hnm hret hlk X0
  refine Wo.cast (f' := (mkF m 0 #[.val (.ref b), .val (.int 0), .val (.ref d), .val (.int 0), .val (.int 2), .unset, .unset] [])) (by rfl) ?_
  have K0 : Keep h h [d] := Keep.refl _ _
  show Wo _ _ _ _ _ _ _ _ _ _ _ s1 (mkF m 0 #[.val (.ref b), .val (.int 0), .val (.ref d), .val (.int 0), .val (.int 2), .unset, .unset] [])
  refine P.iconst X0 hx 1 0 (hb hby d16_0) rfl rfl ?_
  refine P.istore X0 hx 3 #[.val (.ref b), .val (.int 0), .val (.ref d), .val (.int 0), .val (.int 2), .val (.int 0), .unset] (hb hby d16_1) rfl rfl ?_
  refine P.iload X0 hx 5 (hb hby d16_3) rfl rfl ?_
  refine P.iload X0 hx 7 (hb hby d16_5) rfl rfl ?_
  refine P.icmpNo X0 hx 10 (hb hby d16_7) (by decide) rfl ?_
  refine P.aloadN X0 hx 11 (hb hby d16_10) rfl rfl rfl ?_
  refine P.iloadN X0 hx 12 (hb hby d16_11) rfl rfl ?_
  refine WS.cld X0 hx P0 (j := (0 : Int32)) (x := c0) (by decide) rfl (hb hby d16_12) ?_
  refine P.istore X0 hx 15 #[.val (.ref b), .val (.int 0), .val (.ref d), .val (.int 0), .val (.int 2), .val (.int 0), .val (.int c0)] (hb hby d16_13) rfl rfl ?_
  refine P.iload X0 hx 17 (hb hby d16_15) rfl rfl ?_
  refine P.sipush X0 hx 20 255 (hb hby d16_17) rfl rfl ?_
  refine P.icmpNo X0 hx 23 (hb hby d16_20) (tlt hm0).2.2.2 rfl ?_
  refine P.iload X0 hx 25 (hb hby d16_23) rfl rfl ?_
  exact WS.retI X0 (WL' := []) (FL' := []) hx hret hlk (hb hby d16_25) (nle rfl) (nle rfl) ⟨rfl, rfl, rfl, K0⟩
def Q_cm320 (Z : State) (gC : Int32) (gF : Value) (b : Addr) (kb : ClassId) (c0 : Int32) (c1 : Int32) (h : Heap) (v : Option Value) (h' : Heap) (WL' FL' : List Addr) : Prop := ∃ u : Addr, ∃ ku : ClassId, v = some (.ref u) ∧ WL' = [u] ∧ FL' = [] ∧ Keep h h' [] ∧ h.size ≤ u ∧ Arv Z h' u ku .byte (4 : Int32) [(.int (c0.toInt8.toInt32)), (.int ((c0 >>> ((8 : Int32) &&& 31)).toInt8.toInt32)), (.int (c1.toInt8.toInt32)), (.int ((c1 >>> ((8 : Int32) &&& 31)).toInt8.toInt32))] (.int 0)
theorem ct_cm320 {l : Launch} {Z : State} {a0 : Array Value} {gC : Int32} {gF : Value} (cx : Cx a0 Z gC gF) {n0 : Nat} (b : Addr) (kb : ClassId) (c0 : Int32) (c1 : Int32) (h : Heap) (WL FL : List Addr) (P0 : Arv Z h b kb .char (2 : Int32) [(.int c0), (.int c1)] (.int 0)) (P1 : b ∈ FL) (hr_c0 : ¬ c0 < 0 ∧ ¬ (65535 : Int32) < c0) (hr_c1 : ¬ c1 < 0 ∧ ¬ (65535 : Int32) < c1) (hm0 : (255 : Int32) < c0) :
    Ct l Z EL1 n0 (⟨"java/lang/StringUTF16", "compress", "([CII)[B"⟩ : MethodName) jdk_52_method_16_code 6 (Option.some (Jvm.ClassFile.FieldType.array Jvm.ClassFile.FieldType.byte)) ({ frames := 3, cells := 2, slots := 6, locals := 40 } : Room) #[(.ref b), (.int 0), (.int 2)] h WL FL (Q_cm320 Z gC gF b kb c0 c1 h) := by
  refine Ct.of (plainFor_of_name pn1) ?_
  intro p e s m below meth c s1 hx hby hml hnm hret hlk X0
  refine Wo.cast (f' := (mkF m 0 #[.val (.ref b), .val (.int 0), .val (.int 2), .unset, .unset, .unset] [])) (by rfl) ?_
  have K0 : Keep h h [] := Keep.refl _ _
  show Wo _ _ _ _ _ _ _ _ _ _ _ s1 (mkF m 0 #[.val (.ref b), .val (.int 0), .val (.int 2), .unset, .unset, .unset] [])
  refine P.iloadN X0 hx 1 (hb hby d15_0) rfl rfl ?_
  refine X0.newP (aty := .byte) hx (w20 cx) (hb hby d15_1) (by decide) (cap := 2) (nle rfl) (nle rfl) (nle rfl) (nle rfl) ?_
  intro T1 h1 a1 k1 X1 E1 g1 A1
  have ge2 : h.size ≤ a1 := Nat.le_trans K0.1 g1
  have K3 : Keep h h1 [] := K0.ext E1
  have V4 : Arv Z h1 a1 k1 .byte (2 : Int32) [(.int 0), (.int 0)] (.int 0) := Arv.pad A1 (pad_rep [] _ 2)
  refine P.astoreN X1 hx 4 #[.val (.ref b), .val (.int 0), .val (.int 2), .val (.ref a1), .unset, .unset] (hb hby d15_3) rfl rfl rfl ?_
  refine P.aloadN X1 hx 5 (hb hby d15_4) rfl rfl rfl ?_
  refine P.iloadN X1 hx 6 (hb hby d15_5) rfl rfl ?_
  refine P.aloadN X1 hx 7 (hb hby d15_6) rfl rfl rfl ?_
  refine P.iconst X1 hx 8 0 (hb hby d15_7) rfl rfl ?_
  refine P.iloadN X1 hx 9 (hb hby d15_8) rfl rfl ?_
  have F5 : Arv Z h1 b kb .char (2 : Int32) [(.int c0), (.int c1)] (.int 0) := (P0.ext E1)
  refine X1.callS hx (w75 cx) (w76 cx) (w73 cx) (w77 cx) (by decide) (Ct.pay (W := 0) (ct_cmi20 cx b kb a1 k1 c0 c1 h1 _ _ F5 V4 (List.mem_of_getElem? (i := 0) rfl) (X1.neF P1 (List.mem_of_getElem? (i := 0) rfl)) hm0) (w77 cx) (w73 cx) (nle rfl) (nle rfl)) (by rw [hml]; rfl) (argsL := [.ref b, .int 0, .ref a1, .int 0, .int 2]) (rest := []) (lenOf pd4 rfl) rfl rfl (Nat.le_of_eq rfl) (hb hby d15_9) (nle rfl) (nle rfl) ?_
  rintro T6 h6 _ _ _ X6 ⟨rfl, rfl, rfl, J6⟩
  have K7 : Keep h h6 [] := K3.trans J6 (allS (Or.inr ge2) all0)
  refine P.istore X6 hx 14 #[.val (.ref b), .val (.int 0), .val (.int 2), .val (.ref a1), .val (.int 0), .unset] (hb hby d15_12) rfl rfl ?_
  refine P.iload X6 hx 16 (hb hby d15_14) rfl rfl ?_
  refine P.iloadN X6 hx 17 (hb hby d15_16) rfl rfl ?_
  refine P.icmpNo X6 hx 20 (hb hby d15_17) (by decide) rfl ?_
  refine P.aloadN X6 hx 21 (hb hby d15_20) rfl rfl rfl ?_
  refine P.iloadN X6 hx 22 (hb hby d15_21) rfl rfl ?_
  refine P.iloadN X6 hx 23 (hb hby d15_22) rfl rfl ?_
  have F8 : Arv Z h6 b kb .char (2 : Int32) [(.int c0), (.int c1)] (.int 0) := (F5.keep J6 (ninS (X6.neF P1 (List.mem_of_getElem? (i := 0) rfl)) nin0))
  refine X6.callS hx (w87 cx) (w88 cx) (w73 cx) (w89 cx) (by decide) (Ct.pay (W := 0) (ct_tob2 cx b kb c0 c1 h6 _ _ F8 P1) (w89 cx) (w73 cx) (nle rfl) (nle rfl)) (by rw [hml]; rfl) (argsL := [.ref b, .int 0, .int 2]) (rest := []) (lenOf pd5 rfl) rfl rfl (Nat.le_of_eq rfl) (hb hby d15_23) (nle rfl) (nle rfl) ?_
  rintro T9 h9 _ _ _ X9 ⟨a10, k11, rfl, rfl, rfl, J9, g13, G12⟩
  have ge14 : h.size ≤ a10 := Nat.le_trans K7.1 g13
  have K15 : Keep h h9 [] := K7.trans J9 all0
  refine P.astore X9 hx 28 #[.val (.ref b), .val (.int 0), .val (.int 2), .val (.ref a1), .val (.int 0), .val (.ref a10)] (hb hby d15_26) rfl rfl rfl ?_
  refine P.aload X9 hx 30 (hb hby d15_28) rfl rfl rfl ?_
  refine P.iload X9 hx 32 (hb hby d15_30) rfl rfl ?_
  refine X9.callS hx (w103 cx) (w104 cx) (w73 cx) (w105 cx) (by decide) (Ct.pay (W := 0) (ct_getc20 cx a10 k11 c0 c1 h9 _ _ G12 hr_c0) (w105 cx) (w73 cx) (nle rfl) (nle rfl)) (by rw [hml]; rfl) (argsL := [.ref a10, .int 0]) (rest := []) (lenOf pd6 rfl) rfl rfl (Nat.le_of_eq rfl) (hb hby d15_32) (nle rfl) (nle rfl) ?_
  rintro T16 h16 _ _ _ X16 ⟨rfl, rfl, rfl, J16⟩
  rw [J16] at X16
  refine P.sipush X16 hx 38 255 (hb hby d15_35) rfl rfl ?_
  refine P.icmpYes X16 hx 54 (hb hby d15_38) (tlt hm0).2.2.1 (by decide) (by decide) ?_
  refine P.aload X16 hx 56 (hb hby d15_54) rfl rfl rfl ?_
  have X17 := WS.drop (A := [a10]) (B := WL) X16
  have X18 := WS.fl (FL2 := FL) X17 (fun y hy => (List.mem_append_right [a1] hy))
  exact WS.retA X18 (WL' := [a10]) (FL' := []) hx hret rfl rfl hlk (hb hby d15_56) (nle rfl) (nle rfl) ⟨a10, k11, rfl, rfl, rfl, K15, ge14, G12⟩
def Q_s4U20 (Z : State) (gC : Int32) (gF : Value) (x : Addr) (b : Addr) (kb : ClassId) (c0 : Int32) (c1 : Int32) (h : Heap) (v : Option Value) (h' : Heap) (WL' FL' : List Addr) : Prop := ∃ u : Addr, ∃ ku : ClassId, v = none ∧ WL' = [] ∧ FL' = [u] ∧ Keep h h' [x] ∧ Fld Z h' x "java/lang/String" "value" "[B" (.ref u) ∧ Fld Z h' x "java/lang/String" "coder" "B" (.int 1) ∧ Arv Z h' u ku .byte (4 : Int32) [(.int (c0.toInt8.toInt32)), (.int ((c0 >>> ((8 : Int32) &&& 31)).toInt8.toInt32)), (.int (c1.toInt8.toInt32)), (.int ((c1 >>> ((8 : Int32) &&& 31)).toInt8.toInt32))] (.int 0)
theorem ct_s4U20 {l : Launch} {Z : State} {a0 : Array Value} {gC : Int32} {gF : Value} (cx : Cx a0 Z gC gF) {n0 : Nat} (x : Addr) (b : Addr) (kb : ClassId) (c0 : Int32) (c1 : Int32) (h : Heap) (WL FL : List Addr) (P0 : Exa Z h x "java/lang/String") (P1 : Fld Z h x "java/lang/String" "value" "[B" .null) (P2 : Fld Z h x "java/lang/String" "coder" "B" (.int 0)) (P3 : x ∈ WL) (P4 : Arv Z h b kb .char (2 : Int32) [(.int c0), (.int c1)] (.int 0)) (P5 : b ∈ FL) (hr_c0 : ¬ c0 < 0 ∧ ¬ (65535 : Int32) < c0) (hr_c1 : ¬ c1 < 0 ∧ ¬ (65535 : Int32) < c1) (hm0 : (255 : Int32) < c0) :
    Ct l Z EL1 n0 (⟨"java/lang/String", "<init>", "([CIILjava/lang/Void;)V"⟩ : MethodName) jdk_42_method_149_code 6 (Option.none : Option Jvm.ClassFile.FieldType) ({ frames := 4, cells := 2, slots := 6, locals := 57 } : Room) #[(.ref x), (.ref b), (.int 0), (.int 2), .null] h WL FL (Q_s4U20 Z gC gF x b kb c0 c1 h) := by
  refine Ct.of (plainFor_of_name pn0) ?_
  intro p e s m below meth c s1 hx hby hml hnm hret hlk X0
  refine Wo.cast (f' := (mkF m 0 #[.val (.ref x), .val (.ref b), .val (.int 0), .val (.int 2), .val .null, .unset] [])) (by rfl) ?_
  have K0 : Keep h h [x] := Keep.refl _ _
  show Wo _ _ _ _ _ _ _ _ _ _ _ s1 (mkF m 0 #[.val (.ref x), .val (.ref b), .val (.int 0), .val (.int 2), .val .null, .unset] [])
  refine P.aloadN X0 hx 1 (hb hby d3_0) rfl rfl rfl ?_
  refine X0.initO hx (w16 cx) (w17 cx) (w18 cx) (by rw [hml]; rfl) (hb hby d3_1) (nle rfl) (W := 0) (Nat.le_of_eq rfl) (nle rfl) ?_
  intro T1 X1
  refine P.iloadN X1 hx 5 (hb hby d3_4) rfl rfl ?_
  refine P.ifYes X1 hx 27 (hb hby d3_5) (by decide) (by decide) (by decide) ?_
  refine X1.getS hx (w46 cx) Via.refl (S_C cx) (hb hby d3_27) ?_
  intro T2 X2
  refine P.ifNo X2 hx 33 (hb hby d3_30) ((if0 _ _).trans (feq (N_C cx)).1) rfl ?_
  refine P.aloadN X2 hx 34 (hb hby d3_33) rfl rfl rfl ?_
  refine P.iloadN X2 hx 35 (hb hby d3_34) rfl rfl ?_
  refine P.iloadN X2 hx 36 (hb hby d3_35) rfl rfl ?_
  refine X2.callS hx (w71 cx) (w72 cx) (w73 cx) (w74 cx) (by decide) (Ct.pay (W := 0) (ct_cm320 cx b kb c0 c1 h _ _ P4 P5 hr_c0 hr_c1 hm0) (w74 cx) (w73 cx) (nle rfl) (nle rfl)) (by rw [hml]; rfl) (argsL := [.ref b, .int 0, .int 2]) (rest := []) (lenOf pd5 rfl) rfl rfl (Nat.le_of_eq rfl) (hb hby d3_36) (nle rfl) (nle rfl) ?_
  rintro T3 h3 _ _ _ X3 ⟨a4, k5, rfl, rfl, rfl, J3, g7, G6⟩
  have ge8 : h.size ≤ a4 := Nat.le_trans K0.1 g7
  have K9 : Keep h h3 [x] := K0.trans J3 all0
  refine P.astore X3 hx 41 #[.val (.ref x), .val (.ref b), .val (.int 0), .val (.int 2), .val .null, .val (.ref a4)] (hb hby d3_39) rfl rfl rfl ?_
  refine P.aloadN X3 hx 42 (hb hby d3_41) rfl rfl rfl ?_
  refine P.aload X3 hx 44 (hb hby d3_42) rfl rfl rfl ?_
  refine P.iloadN X3 hx 45 (hb hby d3_44) rfl rfl ?_
  refine X3.callS hx (w78 cx) (w79 cx) (w73 cx) (w80 cx) (by decide) (Ct.pay (W := 1) (ct_codU2 cx a4 k5 _ h3 _ _ G6) (w80 cx) (w73 cx) (nle rfl) (nle rfl)) (by rw [hml]; rfl) (argsL := [.ref a4, .int 2]) (rest := [.ref x]) (lenOf pd7 rfl) rfl rfl (Nat.le_of_eq rfl) (hb hby d3_45) (nle rfl) (nle rfl) ?_
  rintro T10 h10 _ _ _ X10 ⟨rfl, rfl, rfl, J10⟩
  rw [J10] at X10
  have F11 : Fld Z h3 x "java/lang/String" "coder" "B" (.int 0) := (P2.keep J3 nin0)
  have F12 : Exa Z h3 x "java/lang/String" := (P0.keep J3)
  refine X10.putF hx (host := "") (Or.inl (w26 cx)) Via.refl F11 F12 (Or.inr ⟨(w22 cx), rfl, hnm⟩) (w6 cx) (ty := .byte) (by decide) rfl rfl (List.mem_cons_of_mem _ P3) (hb hby d3_48) ?_
  intro T13 h13 X13 W13 G13
  have K14 : Keep h h13 [x] := K9.wr W13 (Or.inl (List.mem_of_getElem? (i := 0) rfl))
  refine P.aloadN X13 hx 52 (hb hby d3_51) rfl rfl rfl ?_
  refine P.aload X13 hx 54 (hb hby d3_52) rfl rfl rfl ?_
  have F15 : Fld Z h13 x "java/lang/String" "value" "[B" .null := ((P1.keep J3 nin0).other W13 (Or.inr (slot_ne (Or.inr (w21 cx)) (Or.inr (w22 cx)) (by decide) (t := (.array .byte)) (t' := .byte) (by decide) (by decide))))
  have F16 : Exa Z h13 x "java/lang/String" := (F12.wr W13)
  refine X13.putF hx (host := "") (Or.inl (w25 cx)) Via.refl F15 F16 (Or.inr ⟨(w21 cx), rfl, hnm⟩) (w6 cx) (ty := (.array .byte)) (by decide) rfl rfl (List.mem_cons_of_mem _ P3) (hb hby d3_54) ?_
  intro T17 h17 X17 W17 G17
  have K18 : Keep h h17 [x] := K14.wr W17 (Or.inl (List.mem_of_getElem? (i := 0) rfl))
  have F19 : Arv Z h17 a4 k5 .byte (4 : Int32) [(.int (c0.toInt8.toInt32)), (.int ((c0 >>> ((8 : Int32) &&& 31)).toInt8.toInt32)), (.int (c1.toInt8.toInt32)), (.int ((c1 >>> ((8 : Int32) &&& 31)).toInt8.toInt32))] (.int 0) := ((G6.other W13 (X17.neT (A := [a4]) (B := WL) (List.mem_of_getElem? (i := 0) rfl) P3)).other W17 (X17.neT (A := [a4]) (B := WL) (List.mem_of_getElem? (i := 0) rfl) P3))
  have F20 : Fld Z h17 x "java/lang/String" "coder" "B" (.int 1) := (G13.other W17 (Or.inr (slot_ne (Or.inr (w22 cx)) (Or.inr (w21 cx)) (by decide) (t := .byte) (t' := (.array .byte)) (by decide) (by decide))))
  have X21 := WS.drop (A := []) (B := WL) X17
  exact WS.retV X21 (WL' := []) (FL' := [a4]) hx hret hlk (hb hby d3_57) (nle rfl) (nle rfl) ⟨a4, k5, rfl, rfl, rfl, K18, G17, F20, F19⟩
def Q_cmi21 (Z : State) (gC : Int32) (gF : Value) (b : Addr) (kb : ClassId) (d : Addr) (kd : ClassId) (c0 : Int32) (c1 : Int32) (h : Heap) (v : Option Value) (h' : Heap) (WL' FL' : List Addr) : Prop := v = some (.int 1) ∧ WL' = [] ∧ FL' = [] ∧ Keep h h' [d]
theorem ct_cmi21 {l : Launch} {Z : State} {a0 : Array Value} {gC : Int32} {gF : Value} (cx : Cx a0 Z gC gF) {n0 : Nat} (b : Addr) (kb : ClassId) (d : Addr) (kd : ClassId) (c0 : Int32) (c1 : Int32) (h : Heap) (WL FL : List Addr) (P0 : Arv Z h b kb .char (2 : Int32) [(.int c0), (.int c1)] (.int 0)) (P1 : Arv Z h d kd .byte (2 : Int32) [(.int 0), (.int 0)] (.int 0)) (P2 : d ∈ WL) (hbd : b ≠ d) (hm0 : ¬ ((255 : Int32) < c0)) (hm1 : (255 : Int32) < c1) :
    Ct l Z EL1 n0 (⟨"java/lang/StringUTF16", "compress", "([CI[BII)I"⟩ : MethodName) jdk_52_method_21_code 7 (Option.some Jvm.ClassFile.FieldType.int) ({ frames := 0, cells := 0, slots := 0, locals := 0 } : Room) #[(.ref b), (.int 0), (.ref d), (.int 0), (.int 2)] h WL FL (Q_cmi21 Z gC gF b kb d kd c0 c1 h) := by
  refine Ct.of (plainFor_of_name pn1) ?_
  intro p e s m below meth c s1 hx hby hml hnm hret hlk X0
  refine Wo.cast (f' := (mkF m 0 #[.val (.ref b), .val (.int 0), .val (.ref d), .val (.int 0), .val (.int 2), .unset, .unset] [])) (by rfl) ?_
  have K0 : Keep h h [d] := Keep.refl _ _
  show Wo _ _ _ _ _ _ _ _ _ _ _ s1 (mkF m 0 #[.val (.ref b), .val (.int 0), .val (.ref d), .val (.int 0), .val (.int 2), .unset, .unset] [])
  refine P.iconst X0 hx 1 0 (hb hby d16_0) rfl rfl ?_
  refine P.istore X0 hx 3 #[.val (.ref b), .val (.int 0), .val (.ref d), .val (.int 0), .val (.int 2), .val (.int 0), .unset] (hb hby d16_1) rfl rfl ?_
  refine P.iload X0 hx 5 (hb hby d16_3) rfl rfl ?_
  refine P.iload X0 hx 7 (hb hby d16_5) rfl rfl ?_
  refine P.icmpNo X0 hx 10 (hb hby d16_7) (by decide) rfl ?_
  refine P.aloadN X0 hx 11 (hb hby d16_10) rfl rfl rfl ?_
  refine P.iloadN X0 hx 12 (hb hby d16_11) rfl rfl ?_
  refine WS.cld X0 hx P0 (j := (0 : Int32)) (x := c0) (by decide) rfl (hb hby d16_12) ?_
  refine P.istore X0 hx 15 #[.val (.ref b), .val (.int 0), .val (.ref d), .val (.int 0), .val (.int 2), .val (.int 0), .val (.int c0)] (hb hby d16_13) rfl rfl ?_
  refine P.iload X0 hx 17 (hb hby d16_15) rfl rfl ?_
  refine P.sipush X0 hx 20 255 (hb hby d16_17) rfl rfl ?_
  refine P.icmpYes X0 hx 26 (hb hby d16_20) (flt hm0).2.2.2 (by decide) (by decide) ?_
  refine P.aloadN X0 hx 27 (hb hby d16_26) rfl rfl rfl ?_
  refine P.iloadN X0 hx 28 (hb hby d16_27) rfl rfl ?_
  refine P.iload X0 hx 30 (hb hby d16_28) rfl rfl ?_
  refine P.i2b X0 hx 31 (z := (c0.toInt8.toInt32)) (hb hby d16_30) rfl rfl ?_
  refine X0.stB hx P1 (j := (0 : Int32)) (x := (c0.toInt8.toInt32)) (i := 0) (by decide) rfl (nlt rfl) P2 (hb hby d16_31) ?_
  intro T1 h1 X1 W1 G1
  have K2 : Keep h h1 [d] := K0.wr W1 (Or.inl (List.mem_of_getElem? (i := 0) rfl))
  have V3 : Arv Z h1 d kd .byte (2 : Int32) [(.int (c0.toInt8.toInt32)), (.int 0)] (.int 0) := by have q := G1; rw [narB] at q; exact q
  refine P.iinc X1 hx 35 #[.val (.ref b), .val (.int 1), .val (.ref d), .val (.int 0), .val (.int 2), .val (.int 0), .val (.int c0)] (hb hby d16_32) rfl rfl rfl ?_
  refine P.iinc X1 hx 38 #[.val (.ref b), .val (.int 1), .val (.ref d), .val (.int 1), .val (.int 2), .val (.int 0), .val (.int c0)] (hb hby d16_35) rfl rfl rfl ?_
  refine P.iinc X1 hx 41 #[.val (.ref b), .val (.int 1), .val (.ref d), .val (.int 1), .val (.int 2), .val (.int 1), .val (.int c0)] (hb hby d16_38) rfl rfl rfl ?_
  refine P.goto X1 hx 3 (hb hby d16_41) (by decide) (by decide) ?_
  refine P.iload X1 hx 5 (hb hby d16_3) rfl rfl ?_
  refine P.iload X1 hx 7 (hb hby d16_5) rfl rfl ?_
  refine P.icmpNo X1 hx 10 (hb hby d16_7) (by decide) rfl ?_
  refine P.aloadN X1 hx 11 (hb hby d16_10) rfl rfl rfl ?_
  refine P.iloadN X1 hx 12 (hb hby d16_11) rfl rfl ?_
  have F4 : Arv Z h1 b kb .char (2 : Int32) [(.int c0), (.int c1)] (.int 0) := (P0.other W1 hbd)
  refine WS.cld X1 hx F4 (j := (1 : Int32)) (x := c1) (by decide) rfl (hb hby d16_12) ?_
  refine P.istore X1 hx 15 #[.val (.ref b), .val (.int 1), .val (.ref d), .val (.int 1), .val (.int 2), .val (.int 1), .val (.int c1)] (hb hby d16_13) rfl rfl ?_
  refine P.iload X1 hx 17 (hb hby d16_15) rfl rfl ?_
  refine P.sipush X1 hx 20 255 (hb hby d16_17) rfl rfl ?_
  refine P.icmpNo X1 hx 23 (hb hby d16_20) (tlt hm1).2.2.2 rfl ?_
  refine P.iload X1 hx 25 (hb hby d16_23) rfl rfl ?_
  exact WS.retI X1 (WL' := []) (FL' := []) hx hret hlk (hb hby d16_25) (nle rfl) (nle rfl) ⟨rfl, rfl, rfl, K2⟩
def Q_cm321 (Z : State) (gC : Int32) (gF : Value) (b : Addr) (kb : ClassId) (c0 : Int32) (c1 : Int32) (h : Heap) (v : Option Value) (h' : Heap) (WL' FL' : List Addr) : Prop := ∃ u : Addr, ∃ ku : ClassId, v = some (.ref u) ∧ WL' = [u] ∧ FL' = [] ∧ Keep h h' [] ∧ h.size ≤ u ∧ Arv Z h' u ku .byte (4 : Int32) [(.int (c0.toInt8.toInt32)), (.int ((c0 >>> ((8 : Int32) &&& 31)).toInt8.toInt32)), (.int (c1.toInt8.toInt32)), (.int ((c1 >>> ((8 : Int32) &&& 31)).toInt8.toInt32))] (.int 0)
theorem ct_cm321 {l : Launch} {Z : State} {a0 : Array Value} {gC : Int32} {gF : Value} (cx : Cx a0 Z gC gF) {n0 : Nat} (b : Addr) (kb : ClassId) (c0 : Int32) (c1 : Int32) (h : Heap) (WL FL : List Addr) (P0 : Arv Z h b kb .char (2 : Int32) [(.int c0), (.int c1)] (.int 0)) (P1 : b ∈ FL) (hr_c0 : ¬ c0 < 0 ∧ ¬ (65535 : Int32) < c0) (hr_c1 : ¬ c1 < 0 ∧ ¬ (65535 : Int32) < c1) (hm0 : ¬ ((255 : Int32) < c0)) (hm1 : (255 : Int32) < c1) :
    Ct l Z EL1 n0 (⟨"java/lang/StringUTF16", "compress", "([CII)[B"⟩ : MethodName) jdk_52_method_16_code 6 (Option.some (Jvm.ClassFile.FieldType.array Jvm.ClassFile.FieldType.byte)) ({ frames := 3, cells := 2, slots := 6, locals := 40 } : Room) #[(.ref b), (.int 0), (.int 2)] h WL FL (Q_cm321 Z gC gF b kb c0 c1 h) := by
  refine Ct.of (plainFor_of_name pn1) ?_
  intro p e s m below meth c s1 hx hby hml hnm hret hlk X0
  refine Wo.cast (f' := (mkF m 0 #[.val (.ref b), .val (.int 0), .val (.int 2), .unset, .unset, .unset] [])) (by rfl) ?_
  have K0 : Keep h h [] := Keep.refl _ _
  show Wo _ _ _ _ _ _ _ _ _ _ _ s1 (mkF m 0 #[.val (.ref b), .val (.int 0), .val (.int 2), .unset, .unset, .unset] [])
  refine P.iloadN X0 hx 1 (hb hby d15_0) rfl rfl ?_
  refine X0.newP (aty := .byte) hx (w20 cx) (hb hby d15_1) (by decide) (cap := 2) (nle rfl) (nle rfl) (nle rfl) (nle rfl) ?_
  intro T1 h1 a1 k1 X1 E1 g1 A1
  have ge2 : h.size ≤ a1 := Nat.le_trans K0.1 g1
  have K3 : Keep h h1 [] := K0.ext E1
  have V4 : Arv Z h1 a1 k1 .byte (2 : Int32) [(.int 0), (.int 0)] (.int 0) := Arv.pad A1 (pad_rep [] _ 2)
  refine P.astoreN X1 hx 4 #[.val (.ref b), .val (.int 0), .val (.int 2), .val (.ref a1), .unset, .unset] (hb hby d15_3) rfl rfl rfl ?_
  refine P.aloadN X1 hx 5 (hb hby d15_4) rfl rfl rfl ?_
  refine P.iloadN X1 hx 6 (hb hby d15_5) rfl rfl ?_
  refine P.aloadN X1 hx 7 (hb hby d15_6) rfl rfl rfl ?_
  refine P.iconst X1 hx 8 0 (hb hby d15_7) rfl rfl ?_
  refine P.iloadN X1 hx 9 (hb hby d15_8) rfl rfl ?_
  have F5 : Arv Z h1 b kb .char (2 : Int32) [(.int c0), (.int c1)] (.int 0) := (P0.ext E1)
  refine X1.callS hx (w75 cx) (w76 cx) (w73 cx) (w77 cx) (by decide) (Ct.pay (W := 0) (ct_cmi21 cx b kb a1 k1 c0 c1 h1 _ _ F5 V4 (List.mem_of_getElem? (i := 0) rfl) (X1.neF P1 (List.mem_of_getElem? (i := 0) rfl)) hm0 hm1) (w77 cx) (w73 cx) (nle rfl) (nle rfl)) (by rw [hml]; rfl) (argsL := [.ref b, .int 0, .ref a1, .int 0, .int 2]) (rest := []) (lenOf pd4 rfl) rfl rfl (Nat.le_of_eq rfl) (hb hby d15_9) (nle rfl) (nle rfl) ?_
  rintro T6 h6 _ _ _ X6 ⟨rfl, rfl, rfl, J6⟩
  have K7 : Keep h h6 [] := K3.trans J6 (allS (Or.inr ge2) all0)
  refine P.istore X6 hx 14 #[.val (.ref b), .val (.int 0), .val (.int 2), .val (.ref a1), .val (.int 1), .unset] (hb hby d15_12) rfl rfl ?_
  refine P.iload X6 hx 16 (hb hby d15_14) rfl rfl ?_
  refine P.iloadN X6 hx 17 (hb hby d15_16) rfl rfl ?_
  refine P.icmpNo X6 hx 20 (hb hby d15_17) (by decide) rfl ?_
  refine P.aloadN X6 hx 21 (hb hby d15_20) rfl rfl rfl ?_
  refine P.iloadN X6 hx 22 (hb hby d15_21) rfl rfl ?_
  refine P.iloadN X6 hx 23 (hb hby d15_22) rfl rfl ?_
  have F8 : Arv Z h6 b kb .char (2 : Int32) [(.int c0), (.int c1)] (.int 0) := (F5.keep J6 (ninS (X6.neF P1 (List.mem_of_getElem? (i := 0) rfl)) nin0))
  refine X6.callS hx (w87 cx) (w88 cx) (w73 cx) (w89 cx) (by decide) (Ct.pay (W := 0) (ct_tob2 cx b kb c0 c1 h6 _ _ F8 P1) (w89 cx) (w73 cx) (nle rfl) (nle rfl)) (by rw [hml]; rfl) (argsL := [.ref b, .int 0, .int 2]) (rest := []) (lenOf pd5 rfl) rfl rfl (Nat.le_of_eq rfl) (hb hby d15_23) (nle rfl) (nle rfl) ?_
  rintro T9 h9 _ _ _ X9 ⟨a10, k11, rfl, rfl, rfl, J9, g13, G12⟩
  have ge14 : h.size ≤ a10 := Nat.le_trans K7.1 g13
  have K15 : Keep h h9 [] := K7.trans J9 all0
  refine P.astore X9 hx 28 #[.val (.ref b), .val (.int 0), .val (.int 2), .val (.ref a1), .val (.int 1), .val (.ref a10)] (hb hby d15_26) rfl rfl rfl ?_
  refine P.aload X9 hx 30 (hb hby d15_28) rfl rfl rfl ?_
  refine P.iload X9 hx 32 (hb hby d15_30) rfl rfl ?_
  refine X9.callS hx (w103 cx) (w104 cx) (w73 cx) (w105 cx) (by decide) (Ct.pay (W := 0) (ct_getc21 cx a10 k11 c0 c1 h9 _ _ G12 hr_c1) (w105 cx) (w73 cx) (nle rfl) (nle rfl)) (by rw [hml]; rfl) (argsL := [.ref a10, .int 1]) (rest := []) (lenOf pd6 rfl) rfl rfl (Nat.le_of_eq rfl) (hb hby d15_32) (nle rfl) (nle rfl) ?_
  rintro T16 h16 _ _ _ X16 ⟨rfl, rfl, rfl, J16⟩
  rw [J16] at X16
  refine P.sipush X16 hx 38 255 (hb hby d15_35) rfl rfl ?_
  refine P.icmpYes X16 hx 54 (hb hby d15_38) (tlt hm1).2.2.1 (by decide) (by decide) ?_
  refine P.aload X16 hx 56 (hb hby d15_54) rfl rfl rfl ?_
  have X17 := WS.drop (A := [a10]) (B := WL) X16
  have X18 := WS.fl (FL2 := FL) X17 (fun y hy => (List.mem_append_right [a1] hy))
  exact WS.retA X18 (WL' := [a10]) (FL' := []) hx hret rfl rfl hlk (hb hby d15_56) (nle rfl) (nle rfl) ⟨a10, k11, rfl, rfl, rfl, K15, ge14, G12⟩
def Q_s4U21 (Z : State) (gC : Int32) (gF : Value) (x : Addr) (b : Addr) (kb : ClassId) (c0 : Int32) (c1 : Int32) (h : Heap) (v : Option Value) (h' : Heap) (WL' FL' : List Addr) : Prop := ∃ u : Addr, ∃ ku : ClassId, v = none ∧ WL' = [] ∧ FL' = [u] ∧ Keep h h' [x] ∧ Fld Z h' x "java/lang/String" "value" "[B" (.ref u) ∧ Fld Z h' x "java/lang/String" "coder" "B" (.int 1) ∧ Arv Z h' u ku .byte (4 : Int32) [(.int (c0.toInt8.toInt32)), (.int ((c0 >>> ((8 : Int32) &&& 31)).toInt8.toInt32)), (.int (c1.toInt8.toInt32)), (.int ((c1 >>> ((8 : Int32) &&& 31)).toInt8.toInt32))] (.int 0)
theorem ct_s4U21 {l : Launch} {Z : State} {a0 : Array Value} {gC : Int32} {gF : Value} (cx : Cx a0 Z gC gF) {n0 : Nat} (x : Addr) (b : Addr) (kb : ClassId) (c0 : Int32) (c1 : Int32) (h : Heap) (WL FL : List Addr) (P0 : Exa Z h x "java/lang/String") (P1 : Fld Z h x "java/lang/String" "value" "[B" .null) (P2 : Fld Z h x "java/lang/String" "coder" "B" (.int 0)) (P3 : x ∈ WL) (P4 : Arv Z h b kb .char (2 : Int32) [(.int c0), (.int c1)] (.int 0)) (P5 : b ∈ FL) (hr_c0 : ¬ c0 < 0 ∧ ¬ (65535 : Int32) < c0) (hr_c1 : ¬ c1 < 0 ∧ ¬ (65535 : Int32) < c1) (hm0 : ¬ ((255 : Int32) < c0)) (hm1 : (255 : Int32) < c1) :
    Ct l Z EL1 n0 (⟨"java/lang/String", "<init>", "([CIILjava/lang/Void;)V"⟩ : MethodName) jdk_42_method_149_code 6 (Option.none : Option Jvm.ClassFile.FieldType) ({ frames := 4, cells := 2, slots := 6, locals := 57 } : Room) #[(.ref x), (.ref b), (.int 0), (.int 2), .null] h WL FL (Q_s4U21 Z gC gF x b kb c0 c1 h) := by
  refine Ct.of (plainFor_of_name pn0) ?_
  intro p e s m below meth c s1 hx hby hml hnm hret hlk X0
  refine Wo.cast (f' := (mkF m 0 #[.val (.ref x), .val (.ref b), .val (.int 0), .val (.int 2), .val .null, .unset] [])) (by rfl) ?_
  have K0 : Keep h h [x] := Keep.refl _ _
  show Wo _ _ _ _ _ _ _ _ _ _ _ s1 (mkF m 0 #[.val (.ref x), .val (.ref b), .val (.int 0), .val (.int 2), .val .null, .unset] [])
  refine P.aloadN X0 hx 1 (hb hby d3_0) rfl rfl rfl ?_
  refine X0.initO hx (w16 cx) (w17 cx) (w18 cx) (by rw [hml]; rfl) (hb hby d3_1) (nle rfl) (W := 0) (Nat.le_of_eq rfl) (nle rfl) ?_
  intro T1 X1
  refine P.iloadN X1 hx 5 (hb hby d3_4) rfl rfl ?_
  refine P.ifYes X1 hx 27 (hb hby d3_5) (by decide) (by decide) (by decide) ?_
  refine X1.getS hx (w46 cx) Via.refl (S_C cx) (hb hby d3_27) ?_
  intro T2 X2
  refine P.ifNo X2 hx 33 (hb hby d3_30) ((if0 _ _).trans (feq (N_C cx)).1) rfl ?_
  refine P.aloadN X2 hx 34 (hb hby d3_33) rfl rfl rfl ?_
  refine P.iloadN X2 hx 35 (hb hby d3_34) rfl rfl ?_
  refine P.iloadN X2 hx 36 (hb hby d3_35) rfl rfl ?_
  refine X2.callS hx (w71 cx) (w72 cx) (w73 cx) (w74 cx) (by decide) (Ct.pay (W := 0) (ct_cm321 cx b kb c0 c1 h _ _ P4 P5 hr_c0 hr_c1 hm0 hm1) (w74 cx) (w73 cx) (nle rfl) (nle rfl)) (by rw [hml]; rfl) (argsL := [.ref b, .int 0, .int 2]) (rest := []) (lenOf pd5 rfl) rfl rfl (Nat.le_of_eq rfl) (hb hby d3_36) (nle rfl) (nle rfl) ?_
  rintro T3 h3 _ _ _ X3 ⟨a4, k5, rfl, rfl, rfl, J3, g7, G6⟩
  have ge8 : h.size ≤ a4 := Nat.le_trans K0.1 g7
  have K9 : Keep h h3 [x] := K0.trans J3 all0
  refine P.astore X3 hx 41 #[.val (.ref x), .val (.ref b), .val (.int 0), .val (.int 2), .val .null, .val (.ref a4)] (hb hby d3_39) rfl rfl rfl ?_
  refine P.aloadN X3 hx 42 (hb hby d3_41) rfl rfl rfl ?_
  refine P.aload X3 hx 44 (hb hby d3_42) rfl rfl rfl ?_
  refine P.iloadN X3 hx 45 (hb hby d3_44) rfl rfl ?_
  refine X3.callS hx (w78 cx) (w79 cx) (w73 cx) (w80 cx) (by decide) (Ct.pay (W := 1) (ct_codU2 cx a4 k5 _ h3 _ _ G6) (w80 cx) (w73 cx) (nle rfl) (nle rfl)) (by rw [hml]; rfl) (argsL := [.ref a4, .int 2]) (rest := [.ref x]) (lenOf pd7 rfl) rfl rfl (Nat.le_of_eq rfl) (hb hby d3_45) (nle rfl) (nle rfl) ?_
  rintro T10 h10 _ _ _ X10 ⟨rfl, rfl, rfl, J10⟩
  rw [J10] at X10
  have F11 : Fld Z h3 x "java/lang/String" "coder" "B" (.int 0) := (P2.keep J3 nin0)
  have F12 : Exa Z h3 x "java/lang/String" := (P0.keep J3)
  refine X10.putF hx (host := "") (Or.inl (w26 cx)) Via.refl F11 F12 (Or.inr ⟨(w22 cx), rfl, hnm⟩) (w6 cx) (ty := .byte) (by decide) rfl rfl (List.mem_cons_of_mem _ P3) (hb hby d3_48) ?_
  intro T13 h13 X13 W13 G13
  have K14 : Keep h h13 [x] := K9.wr W13 (Or.inl (List.mem_of_getElem? (i := 0) rfl))
  refine P.aloadN X13 hx 52 (hb hby d3_51) rfl rfl rfl ?_
  refine P.aload X13 hx 54 (hb hby d3_52) rfl rfl rfl ?_
  have F15 : Fld Z h13 x "java/lang/String" "value" "[B" .null := ((P1.keep J3 nin0).other W13 (Or.inr (slot_ne (Or.inr (w21 cx)) (Or.inr (w22 cx)) (by decide) (t := (.array .byte)) (t' := .byte) (by decide) (by decide))))
  have F16 : Exa Z h13 x "java/lang/String" := (F12.wr W13)
  refine X13.putF hx (host := "") (Or.inl (w25 cx)) Via.refl F15 F16 (Or.inr ⟨(w21 cx), rfl, hnm⟩) (w6 cx) (ty := (.array .byte)) (by decide) rfl rfl (List.mem_cons_of_mem _ P3) (hb hby d3_54) ?_
  intro T17 h17 X17 W17 G17
  have K18 : Keep h h17 [x] := K14.wr W17 (Or.inl (List.mem_of_getElem? (i := 0) rfl))
  have F19 : Arv Z h17 a4 k5 .byte (4 : Int32) [(.int (c0.toInt8.toInt32)), (.int ((c0 >>> ((8 : Int32) &&& 31)).toInt8.toInt32)), (.int (c1.toInt8.toInt32)), (.int ((c1 >>> ((8 : Int32) &&& 31)).toInt8.toInt32))] (.int 0) := ((G6.other W13 (X17.neT (A := [a4]) (B := WL) (List.mem_of_getElem? (i := 0) rfl) P3)).other W17 (X17.neT (A := [a4]) (B := WL) (List.mem_of_getElem? (i := 0) rfl) P3))
  have F20 : Fld Z h17 x "java/lang/String" "coder" "B" (.int 1) := (G13.other W17 (Or.inr (slot_ne (Or.inr (w22 cx)) (Or.inr (w21 cx)) (by decide) (t := .byte) (t' := (.array .byte)) (by decide) (by decide))))
  have X21 := WS.drop (A := []) (B := WL) X17
  exact WS.retV X21 (WL' := []) (FL' := [a4]) hx hret hlk (hb hby d3_57) (nle rfl) (nle rfl) ⟨a4, k5, rfl, rfl, rfl, K18, G17, F20, F19⟩
def Q_s1U2 (Z : State) (gC : Int32) (gF : Value) (x : Addr) (b : Addr) (kb : ClassId) (c0 : Int32) (c1 : Int32) (h : Heap) (v : Option Value) (h' : Heap) (WL' FL' : List Addr) : Prop := ∃ u : Addr, ∃ ku : ClassId, v = none ∧ WL' = [] ∧ FL' = [u] ∧ Keep h h' [x] ∧ Fld Z h' x "java/lang/String" "value" "[B" (.ref u) ∧ Fld Z h' x "java/lang/String" "coder" "B" (.int 1) ∧ Arv Z h' u ku .byte (4 : Int32) [(.int (c0.toInt8.toInt32)), (.int ((c0 >>> ((8 : Int32) &&& 31)).toInt8.toInt32)), (.int (c1.toInt8.toInt32)), (.int ((c1 >>> ((8 : Int32) &&& 31)).toInt8.toInt32))] (.int 0)
theorem ct_s1U2_0 {l : Launch} {Z : State} {a0 : Array Value} {gC : Int32} {gF : Value} (cx : Cx a0 Z gC gF) {n0 : Nat} (x : Addr) (b : Addr) (kb : ClassId) (c0 : Int32) (c1 : Int32) (h : Heap) (WL FL : List Addr) (P0 : Exa Z h x "java/lang/String") (P1 : Fld Z h x "java/lang/String" "value" "[B" .null) (P2 : Fld Z h x "java/lang/String" "coder" "B" (.int 0)) (P3 : x ∈ WL) (P4 : Arv Z h b kb .char (2 : Int32) [(.int c0), (.int c1)] (.int 0)) (P5 : b ∈ FL) (hr_c0 : ¬ c0 < 0 ∧ ¬ (65535 : Int32) < c0) (hr_c1 : ¬ c1 < 0 ∧ ¬ (65535 : Int32) < c1) (hU : (255 : Int32) < c0 ∨ (255 : Int32) < c1) (hm0 : (255 : Int32) < c0) :
    Ct l Z EL1 n0 (⟨"java/lang/String", "<init>", "([C)V"⟩ : MethodName) jdk_42_method_3_code 2 (Option.none : Option Jvm.ClassFile.FieldType) ({ frames := 5, cells := 2, slots := 6, locals := 74 } : Room) #[(.ref x), (.ref b)] h WL FL (Q_s1U2 Z gC gF x b kb c0 c1 h) := by
  refine Ct.of (plainFor_of_name pn0) ?_
  intro p e s m below meth c s1 hx hby hml hnm hret hlk X0
  refine Wo.cast (f' := (mkF m 0 #[.val (.ref x), .val (.ref b)] [])) (by rfl) ?_
  have K0 : Keep h h [x] := Keep.refl _ _
  show Wo _ _ _ _ _ _ _ _ _ _ _ s1 (mkF m 0 #[.val (.ref x), .val (.ref b)] [])
  refine P.aloadN X0 hx 1 (hb hby d2_0) rfl rfl rfl ?_
  refine P.aloadN X0 hx 2 (hb hby d2_1) rfl rfl rfl ?_
  refine P.iconst X0 hx 3 0 (hb hby d2_2) rfl rfl ?_
  refine P.aloadN X0 hx 4 (hb hby d2_3) rfl rfl rfl ?_
  refine WS.alen X0 hx P4 (hb hby d2_4) ?_
  refine P.aconstNull X0 hx 6 (hb hby d2_5) rfl ?_
  refine X0.callC hx rfl (w12 cx) (w13 cx) (w15 cx) (by decide) (Ct.pay (W := 0) (ct_s4U20 cx x b kb c0 c1 h _ _ P0 P1 P2 P3 P4 P5 hr_c0 hr_c1 hm0) (w15 cx) (w7 cx) (nle rfl) (nle rfl)) (by rw [hml]; rfl) (argsL := [.ref b, .int 0, .int 2, .null]) (rest := []) (lenOf pd0 rfl) rfl rfl (Nat.le_of_eq rfl) (hb hby d2_6) (nle rfl) (nle rfl) ?_
  rintro T1 h1 _ _ _ X1 ⟨a2, k3, rfl, rfl, rfl, J1, G4, G5, G6⟩
  have K7 : Keep h h1 [x] := K0.trans J1 (allS (Or.inl (List.mem_of_getElem? (i := 0) rfl)) all0)
  exact WS.retV X1 (WL' := []) (FL' := [a2]) hx hret hlk (hb hby d2_9) (nle rfl) (nle rfl) ⟨a2, k3, rfl, rfl, rfl, K7, G4, G5, G6⟩
theorem ct_s1U2_1 {l : Launch} {Z : State} {a0 : Array Value} {gC : Int32} {gF : Value} (cx : Cx a0 Z gC gF) {n0 : Nat} (x : Addr) (b : Addr) (kb : ClassId) (c0 : Int32) (c1 : Int32) (h : Heap) (WL FL : List Addr) (P0 : Exa Z h x "java/lang/String") (P1 : Fld Z h x "java/lang/String" "value" "[B" .null) (P2 : Fld Z h x "java/lang/String" "coder" "B" (.int 0)) (P3 : x ∈ WL) (P4 : Arv Z h b kb .char (2 : Int32) [(.int c0), (.int c1)] (.int 0)) (P5 : b ∈ FL) (hr_c0 : ¬ c0 < 0 ∧ ¬ (65535 : Int32) < c0) (hr_c1 : ¬ c1 < 0 ∧ ¬ (65535 : Int32) < c1) (hU : (255 : Int32) < c0 ∨ (255 : Int32) < c1) (hm0 : ¬ (255 : Int32) < c0) (hm1 : (255 : Int32) < c1) :
    Ct l Z EL1 n0 (⟨"java/lang/String", "<init>", "([C)V"⟩ : MethodName) jdk_42_method_3_code 2 (Option.none : Option Jvm.ClassFile.FieldType) ({ frames := 5, cells := 2, slots := 6, locals := 74 } : Room) #[(.ref x), (.ref b)] h WL FL (Q_s1U2 Z gC gF x b kb c0 c1 h) := by
  refine Ct.of (plainFor_of_name pn0) ?_
  intro p e s m below meth c s1 hx hby hml hnm hret hlk X0
  refine Wo.cast (f' := (mkF m 0 #[.val (.ref x), .val (.ref b)] [])) (by rfl) ?_
  have K0 : Keep h h [x] := Keep.refl _ _
  show Wo _ _ _ _ _ _ _ _ _ _ _ s1 (mkF m 0 #[.val (.ref x), .val (.ref b)] [])
  refine P.aloadN X0 hx 1 (hb hby d2_0) rfl rfl rfl ?_
  refine P.aloadN X0 hx 2 (hb hby d2_1) rfl rfl rfl ?_
  refine P.iconst X0 hx 3 0 (hb hby d2_2) rfl rfl ?_
  refine P.aloadN X0 hx 4 (hb hby d2_3) rfl rfl rfl ?_
  refine WS.alen X0 hx P4 (hb hby d2_4) ?_
  refine P.aconstNull X0 hx 6 (hb hby d2_5) rfl ?_
  refine X0.callC hx rfl (w12 cx) (w13 cx) (w15 cx) (by decide) (Ct.pay (W := 0) (ct_s4U21 cx x b kb c0 c1 h _ _ P0 P1 P2 P3 P4 P5 hr_c0 hr_c1 hm0 hm1) (w15 cx) (w7 cx) (nle rfl) (nle rfl)) (by rw [hml]; rfl) (argsL := [.ref b, .int 0, .int 2, .null]) (rest := []) (lenOf pd0 rfl) rfl rfl (Nat.le_of_eq rfl) (hb hby d2_6) (nle rfl) (nle rfl) ?_
  rintro T1 h1 _ _ _ X1 ⟨a2, k3, rfl, rfl, rfl, J1, G4, G5, G6⟩
  have K7 : Keep h h1 [x] := K0.trans J1 (allS (Or.inl (List.mem_of_getElem? (i := 0) rfl)) all0)
  exact WS.retV X1 (WL' := []) (FL' := [a2]) hx hret hlk (hb hby d2_9) (nle rfl) (nle rfl) ⟨a2, k3, rfl, rfl, rfl, K7, G4, G5, G6⟩
theorem ct_s1U2 {l : Launch} {Z : State} {a0 : Array Value} {gC : Int32} {gF : Value} (cx : Cx a0 Z gC gF) {n0 : Nat} (x : Addr) (b : Addr) (kb : ClassId) (c0 : Int32) (c1 : Int32) (h : Heap) (WL FL : List Addr) (P0 : Exa Z h x "java/lang/String") (P1 : Fld Z h x "java/lang/String" "value" "[B" .null) (P2 : Fld Z h x "java/lang/String" "coder" "B" (.int 0)) (P3 : x ∈ WL) (P4 : Arv Z h b kb .char (2 : Int32) [(.int c0), (.int c1)] (.int 0)) (P5 : b ∈ FL) (hr_c0 : ¬ c0 < 0 ∧ ¬ (65535 : Int32) < c0) (hr_c1 : ¬ c1 < 0 ∧ ¬ (65535 : Int32) < c1) (hU : (255 : Int32) < c0 ∨ (255 : Int32) < c1) :
    Ct l Z EL1 n0 (⟨"java/lang/String", "<init>", "([C)V"⟩ : MethodName) jdk_42_method_3_code 2 (Option.none : Option Jvm.ClassFile.FieldType) ({ frames := 5, cells := 2, slots := 6, locals := 74 } : Room) #[(.ref x), (.ref b)] h WL FL (Q_s1U2 Z gC gF x b kb c0 c1 h) := by
  by_cases hm0 : (255 : Int32) < c0
  · exact ct_s1U2_0 cx x b kb c0 c1 h WL FL P0 P1 P2 P3 P4 P5 hr_c0 hr_c1 hU hm0
  have hm1 : (255 : Int32) < c1 := by simp only [hm0, false_or] at hU; exact hU
  exact ct_s1U2_1 cx x b kb c0 c1 h WL FL P0 P1 P2 P3 P4 P5 hr_c0 hr_c1 hU hm0 hm1
def Q_nbl_3 (Z : State) (gC : Int32) (gF : Value) (h : Heap) (v : Option Value) (h' : Heap) (WL' FL' : List Addr) : Prop := v = some (.int 6) ∧ WL' = [] ∧ FL' = [] ∧ h' = h
theorem ct_nbl_3 {l : Launch} {Z : State} {a0 : Array Value} {gC : Int32} {gF : Value} (cx : Cx a0 Z gC gF) {n0 : Nat} (h : Heap) (WL FL : List Addr)  :
    Ct l Z EL1 n0 (⟨"java/lang/StringUTF16", "newBytesLength", "(I)I"⟩ : MethodName) jdk_52_method_3_code 1 (Option.some Jvm.ClassFile.FieldType.int) ({ frames := 0, cells := 0, slots := 0, locals := 0 } : Room) #[(.int 3)] h WL FL (Q_nbl_3 Z gC gF h) := by
  refine Ct.of (plainFor_of_name pn1) ?_
  intro p e s m below meth c s1 hx hby hml hnm hret hlk X0
  refine Wo.cast (f' := (mkF m 0 #[.val (.int 3)] [])) (by rfl) ?_
  show Wo _ _ _ _ _ _ _ _ _ _ _ s1 (mkF m 0 #[.val (.int 3)] [])
  refine P.iloadN X0 hx 1 (hb hby d22_0) rfl rfl ?_
  refine P.ifYes X0 hx 12 (hb hby d22_1) (by decide) (by decide) (by decide) ?_
  refine P.iloadN X0 hx 13 (hb hby d22_12) rfl rfl ?_
  refine WS.ldcI X0 hx (w96 cx) (hb hby d22_13) ?_
  refine P.icmpYes X0 hx 55 (hb hby d22_15) (by decide) (by decide) (by decide) ?_
  refine P.iloadN X0 hx 56 (hb hby d22_55) rfl rfl ?_
  refine P.iconst X0 hx 57 1 (hb hby d22_56) rfl rfl ?_
  refine P.ishl X0 hx 58 (z := (6 : Int32)) (hb hby d22_57) rfl rfl ?_
  exact WS.retI X0 (WL' := []) (FL' := []) hx hret hlk (hb hby d22_58) (nle rfl) (nle rfl) ⟨rfl, rfl, rfl, rfl⟩
def Q_nbf3 (Z : State) (gC : Int32) (gF : Value) (h : Heap) (v : Option Value) (h' : Heap) (WL' FL' : List Addr) : Prop := ∃ u : Addr, ∃ ku : ClassId, v = some (.ref u) ∧ WL' = [u] ∧ FL' = [] ∧ Keep h h' [] ∧ h.size ≤ u ∧ Arv Z h' u ku .byte (6 : Int32) [(.int 0), (.int 0), (.int 0), (.int 0), (.int 0), (.int 0)] (.int 0)
theorem ct_nbf3 {l : Launch} {Z : State} {a0 : Array Value} {gC : Int32} {gF : Value} (cx : Cx a0 Z gC gF) {n0 : Nat} (h : Heap) (WL FL : List Addr)  :
    Ct l Z EL1 n0 (⟨"java/lang/StringUTF16", "newBytesFor", "(I)[B"⟩ : MethodName) jdk_52_method_2_code 1 (Option.some (Jvm.ClassFile.FieldType.array Jvm.ClassFile.FieldType.byte)) ({ frames := 1, cells := 1, slots := 6, locals := 12 } : Room) #[(.int 3)] h WL FL (Q_nbf3 Z gC gF h) := by
  refine Ct.of (plainFor_of_name pn1) ?_
  intro p e s m below meth c s1 hx hby hml hnm hret hlk X0
  refine Wo.cast (f' := (mkF m 0 #[.val (.int 3)] [])) (by rfl) ?_
  have K0 : Keep h h [] := Keep.refl _ _
  show Wo _ _ _ _ _ _ _ _ _ _ _ s1 (mkF m 0 #[.val (.int 3)] [])
  refine P.iloadN X0 hx 1 (hb hby d21_0) rfl rfl ?_
  refine X0.callS hx (w93 cx) (w94 cx) (w73 cx) (w95 cx) (by decide) (Ct.pay (W := 0) (ct_nbl_3 cx  h _ _ ) (w95 cx) (w73 cx) (nle rfl) (nle rfl)) (by rw [hml]; rfl) (argsL := [.int 3]) (rest := []) (lenOf pd1 rfl) rfl rfl (Nat.le_of_eq rfl) (hb hby d21_1) (nle rfl) (nle rfl) ?_
  rintro T1 h1 _ _ _ X1 ⟨rfl, rfl, rfl, J1⟩
  rw [J1] at X1
  refine X1.newP (aty := .byte) hx (w20 cx) (hb hby d21_4) (by decide) (cap := 6) (nle rfl) (nle rfl) (nle rfl) (nle rfl) ?_
  intro T2 h2 a2 k2 X2 E2 g2 A2
  have ge3 : h.size ≤ a2 := Nat.le_trans K0.1 g2
  have K4 : Keep h h2 [] := K0.ext E2
  have V5 : Arv Z h2 a2 k2 .byte (6 : Int32) [(.int 0), (.int 0), (.int 0), (.int 0), (.int 0), (.int 0)] (.int 0) := Arv.pad A2 (pad_rep [] _ 6)
  exact WS.retA X2 (WL' := [a2]) (FL' := []) hx hret rfl rfl hlk (hb hby d21_6) (nle rfl) (nle rfl) ⟨a2, k2, rfl, rfl, rfl, K4, ge3, V5⟩
def Q_putc30 (Z : State) (gC : Int32) (gF : Value) (u : Addr) (ku : ClassId) (c0 : Int32) (h : Heap) (v : Option Value) (h' : Heap) (WL' FL' : List Addr) : Prop := v = none ∧ WL' = [] ∧ FL' = [] ∧ Keep h h' [u] ∧ Arv Z h' u ku .byte (6 : Int32) [(.int (c0.toInt8.toInt32)), (.int ((c0 >>> ((8 : Int32) &&& 31)).toInt8.toInt32)), (.int 0), (.int 0), (.int 0), (.int 0)] (.int 0)
theorem ct_putc30 {l : Launch} {Z : State} {a0 : Array Value} {gC : Int32} {gF : Value} (cx : Cx a0 Z gC gF) {n0 : Nat} (u : Addr) (ku : ClassId) (c0 : Int32) (h : Heap) (WL FL : List Addr) (P0 : Arv Z h u ku .byte (6 : Int32) [(.int 0), (.int 0), (.int 0), (.int 0), (.int 0), (.int 0)] (.int 0)) (P1 : u ∈ WL) :
    Ct l Z EL1 n0 (⟨"java/lang/StringUTF16", "putChar", "([BII)V"⟩ : MethodName) jdk_52_method_4_code 3 (Option.none : Option Jvm.ClassFile.FieldType) ({ frames := 0, cells := 0, slots := 0, locals := 0 } : Room) #[(.ref u), (.int 0), (.int c0)] h WL FL (Q_putc30 Z gC gF u ku c0 h) := by
  refine Ct.of (plainFor_of_name pn1) ?_
  intro p e s m below meth c s1 hx hby hml hnm hret hlk X0
  refine Wo.cast (f' := (mkF m 0 #[.val (.ref u), .val (.int 0), .val (.int c0)] [])) (by rfl) ?_
  have K0 : Keep h h [u] := Keep.refl _ _
  show Wo _ _ _ _ _ _ _ _ _ _ _ s1 (mkF m 0 #[.val (.ref u), .val (.int 0), .val (.int c0)] [])
  refine X0.getS hx (w100 cx) Via.refl (S_AD cx) (hb hby d23_0) ?_
  intro T1 X1
  refine P.ifYes X1 hx 28 (hb hby d23_3) (by decide) (by decide) (by decide) ?_
  refine P.iloadN X1 hx 29 (hb hby d23_28) rfl rfl ?_
  refine P.iconst X1 hx 30 1 (hb hby d23_29) rfl rfl ?_
  refine P.ishl X1 hx 31 (z := (0 : Int32)) (hb hby d23_30) rfl rfl ?_
  refine P.istoreN X1 hx 32 #[.val (.ref u), .val (.int 0), .val (.int c0)] (hb hby d23_31) rfl rfl ?_
  refine P.aloadN X1 hx 33 (hb hby d23_32) rfl rfl rfl ?_
  refine P.iloadN X1 hx 34 (hb hby d23_33) rfl rfl ?_
  refine P.iinc X1 hx 37 #[.val (.ref u), .val (.int 1), .val (.int c0)] (hb hby d23_34) rfl rfl rfl ?_
  refine P.iloadN X1 hx 38 (hb hby d23_37) rfl rfl ?_
  refine X1.getS hx (w101 cx) Via.refl (S_HI cx) (hb hby d23_38) ?_
  intro T2 X2
  refine P.ishr X2 hx 42 (z := c0) (hb hby d23_41) (by rw [shr00]) rfl ?_
  refine P.i2b X2 hx 43 (z := (c0.toInt8.toInt32)) (hb hby d23_42) rfl rfl ?_
  refine X2.stB hx P0 (j := (0 : Int32)) (x := (c0.toInt8.toInt32)) (i := 0) (by decide) rfl (nlt rfl) P1 (hb hby d23_43) ?_
  intro T3 h3 X3 W3 G3
  have K4 : Keep h h3 [u] := K0.wr W3 (Or.inl (List.mem_of_getElem? (i := 0) rfl))
  have V5 : Arv Z h3 u ku .byte (6 : Int32) [(.int (c0.toInt8.toInt32)), (.int 0), (.int 0), (.int 0), (.int 0), (.int 0)] (.int 0) := by have q := G3; rw [narB] at q; exact q
  refine P.aloadN X3 hx 45 (hb hby d23_44) rfl rfl rfl ?_
  refine P.iloadN X3 hx 46 (hb hby d23_45) rfl rfl ?_
  refine P.iloadN X3 hx 47 (hb hby d23_46) rfl rfl ?_
  refine X3.getS hx (w102 cx) Via.refl (S_LO cx) (hb hby d23_47) ?_
  intro T6 X6
  refine P.ishr X6 hx 51 (z := (c0 >>> ((8 : Int32) &&& 31))) (hb hby d23_50) rfl rfl ?_
  refine P.i2b X6 hx 52 (z := ((c0 >>> ((8 : Int32) &&& 31)).toInt8.toInt32)) (hb hby d23_51) rfl rfl ?_
  refine X6.stB hx V5 (j := (1 : Int32)) (x := ((c0 >>> ((8 : Int32) &&& 31)).toInt8.toInt32)) (i := 1) (by decide) rfl (nlt rfl) P1 (hb hby d23_52) ?_
  intro T7 h7 X7 W7 G7
  have K8 : Keep h h7 [u] := K4.wr W7 (Or.inl (List.mem_of_getElem? (i := 0) rfl))
  have V9 : Arv Z h7 u ku .byte (6 : Int32) [(.int (c0.toInt8.toInt32)), (.int ((c0 >>> ((8 : Int32) &&& 31)).toInt8.toInt32)), (.int 0), (.int 0), (.int 0), (.int 0)] (.int 0) := by have q := G7; rw [narB] at q; exact q
  exact WS.retV X7 (WL' := []) (FL' := []) hx hret hlk (hb hby d23_53) (nle rfl) (nle rfl) ⟨rfl, rfl, rfl, K8, V9⟩
def Q_getc30 (Z : State) (gC : Int32) (gF : Value) (u : Addr) (ku : ClassId) (c0 : Int32) (c1 : Int32) (c2 : Int32) (h : Heap) (v : Option Value) (h' : Heap) (WL' FL' : List Addr) : Prop := v = some (.int c0) ∧ WL' = [] ∧ FL' = [] ∧ h' = h
theorem ct_getc30 {l : Launch} {Z : State} {a0 : Array Value} {gC : Int32} {gF : Value} (cx : Cx a0 Z gC gF) {n0 : Nat} (u : Addr) (ku : ClassId) (c0 : Int32) (c1 : Int32) (c2 : Int32) (h : Heap) (WL FL : List Addr) (P0 : Arv Z h u ku .byte (6 : Int32) [(.int (c0.toInt8.toInt32)), (.int ((c0 >>> ((8 : Int32) &&& 31)).toInt8.toInt32)), (.int (c1.toInt8.toInt32)), (.int ((c1 >>> ((8 : Int32) &&& 31)).toInt8.toInt32)), (.int (c2.toInt8.toInt32)), (.int ((c2 >>> ((8 : Int32) &&& 31)).toInt8.toInt32))] (.int 0)) (hr_c0 : ¬ c0 < 0 ∧ ¬ (65535 : Int32) < c0) :
    Ct l Z EL1 n0 (⟨"java/lang/StringUTF16", "getChar", "([BI)C"⟩ : MethodName) jdk_52_method_5_code 2 (Option.some Jvm.ClassFile.FieldType.char) ({ frames := 0, cells := 0, slots := 0, locals := 0 } : Room) #[(.ref u), (.int 0)] h WL FL (Q_getc30 Z gC gF u ku c0 c1 c2 h) := by
  refine Ct.of (plainFor_of_name pn1) ?_
  intro p e s m below meth c s1 hx hby hml hnm hret hlk X0
  refine Wo.cast (f' := (mkF m 0 #[.val (.ref u), .val (.int 0)] [])) (by rfl) ?_
  show Wo _ _ _ _ _ _ _ _ _ _ _ s1 (mkF m 0 #[.val (.ref u), .val (.int 0)] [])
  refine X0.getS hx (w100 cx) Via.refl (S_AD cx) (hb hby d24_0) ?_
  intro T1 X1
  refine P.ifYes X1 hx 28 (hb hby d24_3) (by decide) (by decide) (by decide) ?_
  refine P.iloadN X1 hx 29 (hb hby d24_28) rfl rfl ?_
  refine P.iconst X1 hx 30 1 (hb hby d24_29) rfl rfl ?_
  refine P.ishl X1 hx 31 (z := (0 : Int32)) (hb hby d24_30) rfl rfl ?_
  refine P.istoreN X1 hx 32 #[.val (.ref u), .val (.int 0)] (hb hby d24_31) rfl rfl ?_
  refine P.aloadN X1 hx 33 (hb hby d24_32) rfl rfl rfl ?_
  refine P.iloadN X1 hx 34 (hb hby d24_33) rfl rfl ?_
  refine P.iinc X1 hx 37 #[.val (.ref u), .val (.int 1)] (hb hby d24_34) rfl rfl rfl ?_
  refine WS.bld X1 hx P0 (j := (0 : Int32)) (x := (c0.toInt8.toInt32)) (by decide) rfl (hb hby d24_37) ?_
  refine P.sipush X1 hx 41 255 (hb hby d24_38) rfl rfl ?_
  refine P.iand X1 hx 42 (z := ((c0.toInt8.toInt32) &&& (255 : Int32))) (hb hby d24_41) rfl rfl ?_
  refine X1.getS hx (w101 cx) Via.refl (S_HI cx) (hb hby d24_42) ?_
  intro T2 X2
  refine P.ishl X2 hx 46 (z := (((c0.toInt8.toInt32) &&& (255 : Int32)) <<< ((0 : Int32) &&& 31))) (hb hby d24_45) rfl rfl ?_
  refine P.aloadN X2 hx 47 (hb hby d24_46) rfl rfl rfl ?_
  refine P.iloadN X2 hx 48 (hb hby d24_47) rfl rfl ?_
  refine WS.bld X2 hx P0 (j := (1 : Int32)) (x := ((c0 >>> ((8 : Int32) &&& 31)).toInt8.toInt32)) (by decide) rfl (hb hby d24_48) ?_
  refine P.sipush X2 hx 52 255 (hb hby d24_49) rfl rfl ?_
  refine P.iand X2 hx 53 (z := (((c0 >>> ((8 : Int32) &&& 31)).toInt8.toInt32) &&& (255 : Int32))) (hb hby d24_52) rfl rfl ?_
  refine X2.getS hx (w102 cx) Via.refl (S_LO cx) (hb hby d24_53) ?_
  intro T3 X3
  refine P.ishl X3 hx 57 (z := ((((c0 >>> ((8 : Int32) &&& 31)).toInt8.toInt32) &&& (255 : Int32)) <<< ((8 : Int32) &&& 31))) (hb hby d24_56) rfl rfl ?_
  refine P.ior X3 hx 58 (z := ((((c0.toInt8.toInt32) &&& (255 : Int32)) <<< ((0 : Int32) &&& 31)) ||| ((((c0 >>> ((8 : Int32) &&& 31)).toInt8.toInt32) &&& (255 : Int32)) <<< ((8 : Int32) &&& 31)))) (hb hby d24_57) rfl rfl ?_
  refine P.i2c X3 hx 59 (z := c0) (hb hby d24_58) (by rw [uU hr_c0]) rfl ?_
  exact WS.retN X3 (WL' := []) (FL' := []) hx (t := .char) hret (by simp) hlk (hb hby d24_59) (nle rfl) (nle rfl) ⟨(by rw [narU hr_c0]), rfl, rfl, rfl⟩
def Q_putc31 (Z : State) (gC : Int32) (gF : Value) (u : Addr) (ku : ClassId) (c0 : Int32) (c1 : Int32) (h : Heap) (v : Option Value) (h' : Heap) (WL' FL' : List Addr) : Prop := v = none ∧ WL' = [] ∧ FL' = [] ∧ Keep h h' [u] ∧ Arv Z h' u ku .byte (6 : Int32) [(.int (c0.toInt8.toInt32)), (.int ((c0 >>> ((8 : Int32) &&& 31)).toInt8.toInt32)), (.int (c1.toInt8.toInt32)), (.int ((c1 >>> ((8 : Int32) &&& 31)).toInt8.toInt32)), (.int 0), (.int 0)] (.int 0)
theorem ct_putc31 {l : Launch} {Z : State} {a0 : Array Value} {gC : Int32} {gF : Value} (cx : Cx a0 Z gC gF) {n0 : Nat} (u : Addr) (ku : ClassId) (c0 : Int32) (c1 : Int32) (h : Heap) (WL FL : List Addr) (P0 : Arv Z h u ku .byte (6 : Int32) [(.int (c0.toInt8.toInt32)), (.int ((c0 >>> ((8 : Int32) &&& 31)).toInt8.toInt32)), (.int 0), (.int 0), (.int 0), (.int 0)] (.int 0)) (P1 : u ∈ WL) :
    Ct l Z EL1 n0 (⟨"java/lang/StringUTF16", "putChar", "([BII)V"⟩ : MethodName) jdk_52_method_4_code 3 (Option.none : Option Jvm.ClassFile.FieldType) ({ frames := 0, cells := 0, slots := 0, locals := 0 } : Room) #[(.ref u), (.int 1), (.int c1)] h WL FL (Q_putc31 Z gC gF u ku c0 c1 h) := by
  refine Ct.of (plainFor_of_name pn1) ?_
  intro p e s m below meth c s1 hx hby hml hnm hret hlk X0
  refine Wo.cast (f' := (mkF m 0 #[.val (.ref u), .val (.int 1), .val (.int c1)] [])) (by rfl) ?_
  have K0 : Keep h h [u] := Keep.refl _ _
  show Wo _ _ _ _ _ _ _ _ _ _ _ s1 (mkF m 0 #[.val (.ref u), .val (.int 1), .val (.int c1)] [])
  refine X0.getS hx (w100 cx) Via.refl (S_AD cx) (hb hby d23_0) ?_
  intro T1 X1
  refine P.ifYes X1 hx 28 (hb hby d23_3) (by decide) (by decide) (by decide) ?_
  refine P.iloadN X1 hx 29 (hb hby d23_28) rfl rfl ?_
  refine P.iconst X1 hx 30 1 (hb hby d23_29) rfl rfl ?_
  refine P.ishl X1 hx 31 (z := (2 : Int32)) (hb hby d23_30) rfl rfl ?_
  refine P.istoreN X1 hx 32 #[.val (.ref u), .val (.int 2), .val (.int c1)] (hb hby d23_31) rfl rfl ?_
  refine P.aloadN X1 hx 33 (hb hby d23_32) rfl rfl rfl ?_
  refine P.iloadN X1 hx 34 (hb hby d23_33) rfl rfl ?_
  refine P.iinc X1 hx 37 #[.val (.ref u), .val (.int 3), .val (.int c1)] (hb hby d23_34) rfl rfl rfl ?_
  refine P.iloadN X1 hx 38 (hb hby d23_37) rfl rfl ?_
  refine X1.getS hx (w101 cx) Via.refl (S_HI cx) (hb hby d23_38) ?_
  intro T2 X2
  refine P.ishr X2 hx 42 (z := c1) (hb hby d23_41) (by rw [shr00]) rfl ?_
  refine P.i2b X2 hx 43 (z := (c1.toInt8.toInt32)) (hb hby d23_42) rfl rfl ?_
  refine X2.stB hx P0 (j := (2 : Int32)) (x := (c1.toInt8.toInt32)) (i := 2) (by decide) rfl (nlt rfl) P1 (hb hby d23_43) ?_
  intro T3 h3 X3 W3 G3
  have K4 : Keep h h3 [u] := K0.wr W3 (Or.inl (List.mem_of_getElem? (i := 0) rfl))
  have V5 : Arv Z h3 u ku .byte (6 : Int32) [(.int (c0.toInt8.toInt32)), (.int ((c0 >>> ((8 : Int32) &&& 31)).toInt8.toInt32)), (.int (c1.toInt8.toInt32)), (.int 0), (.int 0), (.int 0)] (.int 0) := by have q := G3; rw [narB] at q; exact q
  refine P.aloadN X3 hx 45 (hb hby d23_44) rfl rfl rfl ?_
  refine P.iloadN X3 hx 46 (hb hby d23_45) rfl rfl ?_
  refine P.iloadN X3 hx 47 (hb hby d23_46) rfl rfl ?_
  refine X3.getS hx (w102 cx) Via.refl (S_LO cx) (hb hby d23_47) ?_
  intro T6 X6
  refine P.ishr X6 hx 51 (z := (c1 >>> ((8 : Int32) &&& 31))) (hb hby d23_50) rfl rfl ?_
  refine P.i2b X6 hx 52 (z := ((c1 >>> ((8 : Int32) &&& 31)).toInt8.toInt32)) (hb hby d23_51) rfl rfl ?_
  refine X6.stB hx V5 (j := (3 : Int32)) (x := ((c1 >>> ((8 : Int32) &&& 31)).toInt8.toInt32)) (i := 3) (by decide) rfl (nlt rfl) P1 (hb hby d23_52) ?_
  intro T7 h7 X7 W7 G7
  have K8 : Keep h h7 [u] := K4.wr W7 (Or.inl (List.mem_of_getElem? (i := 0) rfl))
  have V9 : Arv Z h7 u ku .byte (6 : Int32) [(.int (c0.toInt8.toInt32)), (.int ((c0 >>> ((8 : Int32) &&& 31)).toInt8.toInt32)), (.int (c1.toInt8.toInt32)), (.int ((c1 >>> ((8 : Int32) &&& 31)).toInt8.toInt32)), (.int 0), (.int 0)] (.int 0) := by have q := G7; rw [narB] at q; exact q
  exact WS.retV X7 (WL' := []) (FL' := []) hx hret hlk (hb hby d23_53) (nle rfl) (nle rfl) ⟨rfl, rfl, rfl, K8, V9⟩
def Q_getc31 (Z : State) (gC : Int32) (gF : Value) (u : Addr) (ku : ClassId) (c0 : Int32) (c1 : Int32) (c2 : Int32) (h : Heap) (v : Option Value) (h' : Heap) (WL' FL' : List Addr) : Prop := v = some (.int c1) ∧ WL' = [] ∧ FL' = [] ∧ h' = h
theorem ct_getc31 {l : Launch} {Z : State} {a0 : Array Value} {gC : Int32} {gF : Value} (cx : Cx a0 Z gC gF) {n0 : Nat} (u : Addr) (ku : ClassId) (c0 : Int32) (c1 : Int32) (c2 : Int32) (h : Heap) (WL FL : List Addr) (P0 : Arv Z h u ku .byte (6 : Int32) [(.int (c0.toInt8.toInt32)), (.int ((c0 >>> ((8 : Int32) &&& 31)).toInt8.toInt32)), (.int (c1.toInt8.toInt32)), (.int ((c1 >>> ((8 : Int32) &&& 31)).toInt8.toInt32)), (.int (c2.toInt8.toInt32)), (.int ((c2 >>> ((8 : Int32) &&& 31)).toInt8.toInt32))] (.int 0)) (hr_c1 : ¬ c1 < 0 ∧ ¬ (65535 : Int32) < c1) :
    Ct l Z EL1 n0 (⟨"java/lang/StringUTF16", "getChar", "([BI)C"⟩ : MethodName) jdk_52_method_5_code 2 (Option.some Jvm.ClassFile.FieldType.char) ({ frames := 0, cells := 0, slots := 0, locals := 0 } : Room) #[(.ref u), (.int 1)] h WL FL (Q_getc31 Z gC gF u ku c0 c1 c2 h) := by
  refine Ct.of (plainFor_of_name pn1) ?_
  intro p e s m below meth c s1 hx hby hml hnm hret hlk X0
  refine Wo.cast (f' := (mkF m 0 #[.val (.ref u), .val (.int 1)] [])) (by rfl) ?_
  show Wo _ _ _ _ _ _ _ _ _ _ _ s1 (mkF m 0 #[.val (.ref u), .val (.int 1)] [])
  refine X0.getS hx (w100 cx) Via.refl (S_AD cx) (hb hby d24_0) ?_
  intro T1 X1
  refine P.ifYes X1 hx 28 (hb hby d24_3) (by decide) (by decide) (by decide) ?_
  refine P.iloadN X1 hx 29 (hb hby d24_28) rfl rfl ?_
  refine P.iconst X1 hx 30 1 (hb hby d24_29) rfl rfl ?_
  refine P.ishl X1 hx 31 (z := (2 : Int32)) (hb hby d24_30) rfl rfl ?_
  refine P.istoreN X1 hx 32 #[.val (.ref u), .val (.int 2)] (hb hby d24_31) rfl rfl ?_
  refine P.aloadN X1 hx 33 (hb hby d24_32) rfl rfl rfl ?_
  refine P.iloadN X1 hx 34 (hb hby d24_33) rfl rfl ?_
  refine P.iinc X1 hx 37 #[.val (.ref u), .val (.int 3)] (hb hby d24_34) rfl rfl rfl ?_
  refine WS.bld X1 hx P0 (j := (2 : Int32)) (x := (c1.toInt8.toInt32)) (by decide) rfl (hb hby d24_37) ?_
  refine P.sipush X1 hx 41 255 (hb hby d24_38) rfl rfl ?_
  refine P.iand X1 hx 42 (z := ((c1.toInt8.toInt32) &&& (255 : Int32))) (hb hby d24_41) rfl rfl ?_
  refine X1.getS hx (w101 cx) Via.refl (S_HI cx) (hb hby d24_42) ?_
  intro T2 X2
  refine P.ishl X2 hx 46 (z := (((c1.toInt8.toInt32) &&& (255 : Int32)) <<< ((0 : Int32) &&& 31))) (hb hby d24_45) rfl rfl ?_
  refine P.aloadN X2 hx 47 (hb hby d24_46) rfl rfl rfl ?_
  refine P.iloadN X2 hx 48 (hb hby d24_47) rfl rfl ?_
  refine WS.bld X2 hx P0 (j := (3 : Int32)) (x := ((c1 >>> ((8 : Int32) &&& 31)).toInt8.toInt32)) (by decide) rfl (hb hby d24_48) ?_
  refine P.sipush X2 hx 52 255 (hb hby d24_49) rfl rfl ?_
  refine P.iand X2 hx 53 (z := (((c1 >>> ((8 : Int32) &&& 31)).toInt8.toInt32) &&& (255 : Int32))) (hb hby d24_52) rfl rfl ?_
  refine X2.getS hx (w102 cx) Via.refl (S_LO cx) (hb hby d24_53) ?_
  intro T3 X3
  refine P.ishl X3 hx 57 (z := ((((c1 >>> ((8 : Int32) &&& 31)).toInt8.toInt32) &&& (255 : Int32)) <<< ((8 : Int32) &&& 31))) (hb hby d24_56) rfl rfl ?_
  refine P.ior X3 hx 58 (z := ((((c1.toInt8.toInt32) &&& (255 : Int32)) <<< ((0 : Int32) &&& 31)) ||| ((((c1 >>> ((8 : Int32) &&& 31)).toInt8.toInt32) &&& (255 : Int32)) <<< ((8 : Int32) &&& 31)))) (hb hby d24_57) rfl rfl ?_
  refine P.i2c X3 hx 59 (z := c1) (hb hby d24_58) (by rw [uU hr_c1]) rfl ?_
  exact WS.retN X3 (WL' := []) (FL' := []) hx (t := .char) hret (by simp) hlk (hb hby d24_59) (nle rfl) (nle rfl) ⟨(by rw [narU hr_c1]), rfl, rfl, rfl⟩
def Q_putc32 (Z : State) (gC : Int32) (gF : Value) (u : Addr) (ku : ClassId) (c0 : Int32) (c1 : Int32) (c2 : Int32) (h : Heap) (v : Option Value) (h' : Heap) (WL' FL' : List Addr) : Prop := v = none ∧ WL' = [] ∧ FL' = [] ∧ Keep h h' [u] ∧ Arv Z h' u ku .byte (6 : Int32) [(.int (c0.toInt8.toInt32)), (.int ((c0 >>> ((8 : Int32) &&& 31)).toInt8.toInt32)), (.int (c1.toInt8.toInt32)), (.int ((c1 >>> ((8 : Int32) &&& 31)).toInt8.toInt32)), (.int (c2.toInt8.toInt32)), (.int ((c2 >>> ((8 : Int32) &&& 31)).toInt8.toInt32))] (.int 0)
theorem ct_putc32 {l : Launch} {Z : State} {a0 : Array Value} {gC : Int32} {gF : Value} (cx : Cx a0 Z gC gF) {n0 : Nat} (u : Addr) (ku : ClassId) (c0 : Int32) (c1 : Int32) (c2 : Int32) (h : Heap) (WL FL : List Addr) (P0 : Arv Z h u ku .byte (6 : Int32) [(.int (c0.toInt8.toInt32)), (.int ((c0 >>> ((8 : Int32) &&& 31)).toInt8.toInt32)), (.int (c1.toInt8.toInt32)), (.int ((c1 >>> ((8 : Int32) &&& 31)).toInt8.toInt32)), (.int 0), (.int 0)] (.int 0)) (P1 : u ∈ WL) :
    Ct l Z EL1 n0 (⟨"java/lang/StringUTF16", "putChar", "([BII)V"⟩ : MethodName) jdk_52_method_4_code 3 (Option.none : Option Jvm.ClassFile.FieldType) ({ frames := 0, cells := 0, slots := 0, locals := 0 } : Room) #[(.ref u), (.int 2), (.int c2)] h WL FL (Q_putc32 Z gC gF u ku c0 c1 c2 h) := by
  refine Ct.of (plainFor_of_name pn1) ?_
  intro p e s m below meth c s1 hx hby hml hnm hret hlk X0
  refine Wo.cast (f' := (mkF m 0 #[.val (.ref u), .val (.int 2), .val (.int c2)] [])) (by rfl) ?_
  have K0 : Keep h h [u] := Keep.refl _ _
  show Wo _ _ _ _ _ _ _ _ _ _ _ s1 (mkF m 0 #[.val (.ref u), .val (.int 2), .val (.int c2)] [])
  refine X0.getS hx (w100 cx) Via.refl (S_AD cx) (hb hby d23_0) ?_
  intro T1 X1
  refine P.ifYes X1 hx 28 (hb hby d23_3) (by decide) (by decide) (by decide) ?_
  refine P.iloadN X1 hx 29 (hb hby d23_28) rfl rfl ?_
  refine P.iconst X1 hx 30 1 (hb hby d23_29) rfl rfl ?_
  refine P.ishl X1 hx 31 (z := (4 : Int32)) (hb hby d23_30) rfl rfl ?_
  refine P.istoreN X1 hx 32 #[.val (.ref u), .val (.int 4), .val (.int c2)] (hb hby d23_31) rfl rfl ?_
  refine P.aloadN X1 hx 33 (hb hby d23_32) rfl rfl rfl ?_
  refine P.iloadN X1 hx 34 (hb hby d23_33) rfl rfl ?_
  refine P.iinc X1 hx 37 #[.val (.ref u), .val (.int 5), .val (.int c2)] (hb hby d23_34) rfl rfl rfl ?_
  refine P.iloadN X1 hx 38 (hb hby d23_37) rfl rfl ?_
  refine X1.getS hx (w101 cx) Via.refl (S_HI cx) (hb hby d23_38) ?_
  intro T2 X2
  refine P.ishr X2 hx 42 (z := c2) (hb hby d23_41) (by rw [shr00]) rfl ?_
  refine P.i2b X2 hx 43 (z := (c2.toInt8.toInt32)) (hb hby d23_42) rfl rfl ?_
  refine X2.stB hx P0 (j := (4 : Int32)) (x := (c2.toInt8.toInt32)) (i := 4) (by decide) rfl (nlt rfl) P1 (hb hby d23_43) ?_
  intro T3 h3 X3 W3 G3
  have K4 : Keep h h3 [u] := K0.wr W3 (Or.inl (List.mem_of_getElem? (i := 0) rfl))
  have V5 : Arv Z h3 u ku .byte (6 : Int32) [(.int (c0.toInt8.toInt32)), (.int ((c0 >>> ((8 : Int32) &&& 31)).toInt8.toInt32)), (.int (c1.toInt8.toInt32)), (.int ((c1 >>> ((8 : Int32) &&& 31)).toInt8.toInt32)), (.int (c2.toInt8.toInt32)), (.int 0)] (.int 0) := by have q := G3; rw [narB] at q; exact q
  refine P.aloadN X3 hx 45 (hb hby d23_44) rfl rfl rfl ?_
  refine P.iloadN X3 hx 46 (hb hby d23_45) rfl rfl ?_
  refine P.iloadN X3 hx 47 (hb hby d23_46) rfl rfl ?_
  refine X3.getS hx (w102 cx) Via.refl (S_LO cx) (hb hby d23_47) ?_
  intro T6 X6
  refine P.ishr X6 hx 51 (z := (c2 >>> ((8 : Int32) &&& 31))) (hb hby d23_50) rfl rfl ?_
  refine P.i2b X6 hx 52 (z := ((c2 >>> ((8 : Int32) &&& 31)).toInt8.toInt32)) (hb hby d23_51) rfl rfl ?_
  refine X6.stB hx V5 (j := (5 : Int32)) (x := ((c2 >>> ((8 : Int32) &&& 31)).toInt8.toInt32)) (i := 5) (by decide) rfl (nlt rfl) P1 (hb hby d23_52) ?_
  intro T7 h7 X7 W7 G7
  have K8 : Keep h h7 [u] := K4.wr W7 (Or.inl (List.mem_of_getElem? (i := 0) rfl))
  have V9 : Arv Z h7 u ku .byte (6 : Int32) [(.int (c0.toInt8.toInt32)), (.int ((c0 >>> ((8 : Int32) &&& 31)).toInt8.toInt32)), (.int (c1.toInt8.toInt32)), (.int ((c1 >>> ((8 : Int32) &&& 31)).toInt8.toInt32)), (.int (c2.toInt8.toInt32)), (.int ((c2 >>> ((8 : Int32) &&& 31)).toInt8.toInt32))] (.int 0) := by have q := G7; rw [narB] at q; exact q
  exact WS.retV X7 (WL' := []) (FL' := []) hx hret hlk (hb hby d23_53) (nle rfl) (nle rfl) ⟨rfl, rfl, rfl, K8, V9⟩
def Q_getc32 (Z : State) (gC : Int32) (gF : Value) (u : Addr) (ku : ClassId) (c0 : Int32) (c1 : Int32) (c2 : Int32) (h : Heap) (v : Option Value) (h' : Heap) (WL' FL' : List Addr) : Prop := v = some (.int c2) ∧ WL' = [] ∧ FL' = [] ∧ h' = h
theorem ct_getc32 {l : Launch} {Z : State} {a0 : Array Value} {gC : Int32} {gF : Value} (cx : Cx a0 Z gC gF) {n0 : Nat} (u : Addr) (ku : ClassId) (c0 : Int32) (c1 : Int32) (c2 : Int32) (h : Heap) (WL FL : List Addr) (P0 : Arv Z h u ku .byte (6 : Int32) [(.int (c0.toInt8.toInt32)), (.int ((c0 >>> ((8 : Int32) &&& 31)).toInt8.toInt32)), (.int (c1.toInt8.toInt32)), (.int ((c1 >>> ((8 : Int32) &&& 31)).toInt8.toInt32)), (.int (c2.toInt8.toInt32)), (.int ((c2 >>> ((8 : Int32) &&& 31)).toInt8.toInt32))] (.int 0)) (hr_c2 : ¬ c2 < 0 ∧ ¬ (65535 : Int32) < c2) :
    Ct l Z EL1 n0 (⟨"java/lang/StringUTF16", "getChar", "([BI)C"⟩ : MethodName) jdk_52_method_5_code 2 (Option.some Jvm.ClassFile.FieldType.char) ({ frames := 0, cells := 0, slots := 0, locals := 0 } : Room) #[(.ref u), (.int 2)] h WL FL (Q_getc32 Z gC gF u ku c0 c1 c2 h) := by
  refine Ct.of (plainFor_of_name pn1) ?_
  intro p e s m below meth c s1 hx hby hml hnm hret hlk X0
  refine Wo.cast (f' := (mkF m 0 #[.val (.ref u), .val (.int 2)] [])) (by rfl) ?_
  show Wo _ _ _ _ _ _ _ _ _ _ _ s1 (mkF m 0 #[.val (.ref u), .val (.int 2)] [])
  refine X0.getS hx (w100 cx) Via.refl (S_AD cx) (hb hby d24_0) ?_
  intro T1 X1
  refine P.ifYes X1 hx 28 (hb hby d24_3) (by decide) (by decide) (by decide) ?_
  refine P.iloadN X1 hx 29 (hb hby d24_28) rfl rfl ?_
  refine P.iconst X1 hx 30 1 (hb hby d24_29) rfl rfl ?_
  refine P.ishl X1 hx 31 (z := (4 : Int32)) (hb hby d24_30) rfl rfl ?_
  refine P.istoreN X1 hx 32 #[.val (.ref u), .val (.int 4)] (hb hby d24_31) rfl rfl ?_
  refine P.aloadN X1 hx 33 (hb hby d24_32) rfl rfl rfl ?_
  refine P.iloadN X1 hx 34 (hb hby d24_33) rfl rfl ?_
  refine P.iinc X1 hx 37 #[.val (.ref u), .val (.int 5)] (hb hby d24_34) rfl rfl rfl ?_
  refine WS.bld X1 hx P0 (j := (4 : Int32)) (x := (c2.toInt8.toInt32)) (by decide) rfl (hb hby d24_37) ?_
  refine P.sipush X1 hx 41 255 (hb hby d24_38) rfl rfl ?_
  refine P.iand X1 hx 42 (z := ((c2.toInt8.toInt32) &&& (255 : Int32))) (hb hby d24_41) rfl rfl ?_
  refine X1.getS hx (w101 cx) Via.refl (S_HI cx) (hb hby d24_42) ?_
  intro T2 X2
  refine P.ishl X2 hx 46 (z := (((c2.toInt8.toInt32) &&& (255 : Int32)) <<< ((0 : Int32) &&& 31))) (hb hby d24_45) rfl rfl ?_
  refine P.aloadN X2 hx 47 (hb hby d24_46) rfl rfl rfl ?_
  refine P.iloadN X2 hx 48 (hb hby d24_47) rfl rfl ?_
  refine WS.bld X2 hx P0 (j := (5 : Int32)) (x := ((c2 >>> ((8 : Int32) &&& 31)).toInt8.toInt32)) (by decide) rfl (hb hby d24_48) ?_
  refine P.sipush X2 hx 52 255 (hb hby d24_49) rfl rfl ?_
  refine P.iand X2 hx 53 (z := (((c2 >>> ((8 : Int32) &&& 31)).toInt8.toInt32) &&& (255 : Int32))) (hb hby d24_52) rfl rfl ?_
  refine X2.getS hx (w102 cx) Via.refl (S_LO cx) (hb hby d24_53) ?_
  intro T3 X3
  refine P.ishl X3 hx 57 (z := ((((c2 >>> ((8 : Int32) &&& 31)).toInt8.toInt32) &&& (255 : Int32)) <<< ((8 : Int32) &&& 31))) (hb hby d24_56) rfl rfl ?_
  refine P.ior X3 hx 58 (z := ((((c2.toInt8.toInt32) &&& (255 : Int32)) <<< ((0 : Int32) &&& 31)) ||| ((((c2 >>> ((8 : Int32) &&& 31)).toInt8.toInt32) &&& (255 : Int32)) <<< ((8 : Int32) &&& 31)))) (hb hby d24_57) rfl rfl ?_
  refine P.i2c X3 hx 59 (z := c2) (hb hby d24_58) (by rw [uU hr_c2]) rfl ?_
  exact WS.retN X3 (WL' := []) (FL' := []) hx (t := .char) hret (by simp) hlk (hb hby d24_59) (nle rfl) (nle rfl) ⟨(by rw [narU hr_c2]), rfl, rfl, rfl⟩
def Q_tob3 (Z : State) (gC : Int32) (gF : Value) (b : Addr) (kb : ClassId) (c0 : Int32) (c1 : Int32) (c2 : Int32) (h : Heap) (v : Option Value) (h' : Heap) (WL' FL' : List Addr) : Prop := ∃ u : Addr, ∃ ku : ClassId, v = some (.ref u) ∧ WL' = [u] ∧ FL' = [] ∧ Keep h h' [] ∧ h.size ≤ u ∧ Arv Z h' u ku .byte (6 : Int32) [(.int (c0.toInt8.toInt32)), (.int ((c0 >>> ((8 : Int32) &&& 31)).toInt8.toInt32)), (.int (c1.toInt8.toInt32)), (.int ((c1 >>> ((8 : Int32) &&& 31)).toInt8.toInt32)), (.int (c2.toInt8.toInt32)), (.int ((c2 >>> ((8 : Int32) &&& 31)).toInt8.toInt32))] (.int 0)
theorem ct_tob3 {l : Launch} {Z : State} {a0 : Array Value} {gC : Int32} {gF : Value} (cx : Cx a0 Z gC gF) {n0 : Nat} (b : Addr) (kb : ClassId) (c0 : Int32) (c1 : Int32) (c2 : Int32) (h : Heap) (WL FL : List Addr) (P0 : Arv Z h b kb .char (3 : Int32) [(.int c0), (.int c1), (.int c2)] (.int 0)) (P1 : b ∈ FL) :
    Ct l Z EL1 n0 (⟨"java/lang/StringUTF16", "toBytes", "([CII)[B"⟩ : MethodName) jdk_52_method_14_code 5 (Option.some (Jvm.ClassFile.FieldType.array Jvm.ClassFile.FieldType.byte)) ({ frames := 2, cells := 1, slots := 6, locals := 24 } : Room) #[(.ref b), (.int 0), (.int 3)] h WL FL (Q_tob3 Z gC gF b kb c0 c1 c2 h) := by
  refine Ct.of (plainFor_of_name pn1) ?_
  intro p e s m below meth c s1 hx hby hml hnm hret hlk X0
  refine Wo.cast (f' := (mkF m 0 #[.val (.ref b), .val (.int 0), .val (.int 3), .unset, .unset] [])) (by rfl) ?_
  have K0 : Keep h h [] := Keep.refl _ _
  show Wo _ _ _ _ _ _ _ _ _ _ _ s1 (mkF m 0 #[.val (.ref b), .val (.int 0), .val (.int 3), .unset, .unset] [])
  refine P.iloadN X0 hx 1 (hb hby d20_0) rfl rfl ?_
  refine X0.callS hx (w90 cx) (w91 cx) (w73 cx) (w92 cx) (by decide) (Ct.pay (W := 0) (ct_nbf3 cx  h _ _ ) (w92 cx) (w73 cx) (nle rfl) (nle rfl)) (by rw [hml]; rfl) (argsL := [.int 3]) (rest := []) (lenOf pd2 rfl) rfl rfl (Nat.le_of_eq rfl) (hb hby d20_1) (nle rfl) (nle rfl) ?_
  rintro T1 h1 _ _ _ X1 ⟨a2, k3, rfl, rfl, rfl, J1, g5, G4⟩
  have ge6 : h.size ≤ a2 := Nat.le_trans K0.1 g5
  have K7 : Keep h h1 [] := K0.trans J1 all0
  refine P.astoreN X1 hx 5 #[.val (.ref b), .val (.int 0), .val (.int 3), .val (.ref a2), .unset] (hb hby d20_4) rfl rfl rfl ?_
  refine P.iconst X1 hx 6 0 (hb hby d20_5) rfl rfl ?_
  refine P.istore X1 hx 8 #[.val (.ref b), .val (.int 0), .val (.int 3), .val (.ref a2), .val (.int 0)] (hb hby d20_6) rfl rfl ?_
  refine P.iload X1 hx 10 (hb hby d20_8) rfl rfl ?_
  refine P.iloadN X1 hx 11 (hb hby d20_10) rfl rfl ?_
  refine P.icmpNo X1 hx 14 (hb hby d20_11) (by decide) rfl ?_
  refine P.aloadN X1 hx 15 (hb hby d20_14) rfl rfl rfl ?_
  refine P.iload X1 hx 17 (hb hby d20_15) rfl rfl ?_
  refine P.aloadN X1 hx 18 (hb hby d20_17) rfl rfl rfl ?_
  refine P.iloadN X1 hx 19 (hb hby d20_18) rfl rfl ?_
  have F8 : Arv Z h1 b kb .char (3 : Int32) [(.int c0), (.int c1), (.int c2)] (.int 0) := (P0.keep J1 nin0)
  refine WS.cld X1 hx F8 (j := (0 : Int32)) (x := c0) (by decide) rfl (hb hby d20_19) ?_
  refine X1.callS hx (w97 cx) (w98 cx) (w73 cx) (w99 cx) (by decide) (Ct.pay (W := 0) (ct_putc30 cx a2 k3 c0 h1 _ _ G4 (List.mem_of_getElem? (i := 0) rfl)) (w99 cx) (w73 cx) (nle rfl) (nle rfl)) (by rw [hml]; rfl) (argsL := [.ref a2, .int 0, .int c0]) (rest := []) (lenOf pd3 rfl) rfl rfl (Nat.le_of_eq rfl) (hb hby d20_20) (nle rfl) (nle rfl) ?_
  rintro T9 h9 _ _ _ X9 ⟨rfl, rfl, rfl, J9, G10⟩
  have K11 : Keep h h9 [] := K7.trans J9 (allS (Or.inr ge6) all0)
  refine P.iinc X9 hx 26 #[.val (.ref b), .val (.int 1), .val (.int 3), .val (.ref a2), .val (.int 0)] (hb hby d20_23) rfl rfl rfl ?_
  refine P.iinc X9 hx 29 #[.val (.ref b), .val (.int 1), .val (.int 3), .val (.ref a2), .val (.int 1)] (hb hby d20_26) rfl rfl rfl ?_
  refine P.goto X9 hx 8 (hb hby d20_29) (by decide) (by decide) ?_
  refine P.iload X9 hx 10 (hb hby d20_8) rfl rfl ?_
  refine P.iloadN X9 hx 11 (hb hby d20_10) rfl rfl ?_
  refine P.icmpNo X9 hx 14 (hb hby d20_11) (by decide) rfl ?_
  refine P.aloadN X9 hx 15 (hb hby d20_14) rfl rfl rfl ?_
  refine P.iload X9 hx 17 (hb hby d20_15) rfl rfl ?_
  refine P.aloadN X9 hx 18 (hb hby d20_17) rfl rfl rfl ?_
  refine P.iloadN X9 hx 19 (hb hby d20_18) rfl rfl ?_
  have F12 : Arv Z h9 b kb .char (3 : Int32) [(.int c0), (.int c1), (.int c2)] (.int 0) := (F8.keep J9 (ninS (X9.neF P1 (List.mem_of_getElem? (i := 0) rfl)) nin0))
  refine WS.cld X9 hx F12 (j := (1 : Int32)) (x := c1) (by decide) rfl (hb hby d20_19) ?_
  refine X9.callS hx (w97 cx) (w98 cx) (w73 cx) (w99 cx) (by decide) (Ct.pay (W := 0) (ct_putc31 cx a2 k3 c0 c1 h9 _ _ G10 (List.mem_of_getElem? (i := 0) rfl)) (w99 cx) (w73 cx) (nle rfl) (nle rfl)) (by rw [hml]; rfl) (argsL := [.ref a2, .int 1, .int c1]) (rest := []) (lenOf pd3 rfl) rfl rfl (Nat.le_of_eq rfl) (hb hby d20_20) (nle rfl) (nle rfl) ?_
  rintro T13 h13 _ _ _ X13 ⟨rfl, rfl, rfl, J13, G14⟩
  have K15 : Keep h h13 [] := K11.trans J13 (allS (Or.inr ge6) all0)
  refine P.iinc X13 hx 26 #[.val (.ref b), .val (.int 2), .val (.int 3), .val (.ref a2), .val (.int 1)] (hb hby d20_23) rfl rfl rfl ?_
  refine P.iinc X13 hx 29 #[.val (.ref b), .val (.int 2), .val (.int 3), .val (.ref a2), .val (.int 2)] (hb hby d20_26) rfl rfl rfl ?_
  refine P.goto X13 hx 8 (hb hby d20_29) (by decide) (by decide) ?_
  refine P.iload X13 hx 10 (hb hby d20_8) rfl rfl ?_
  refine P.iloadN X13 hx 11 (hb hby d20_10) rfl rfl ?_
  refine P.icmpNo X13 hx 14 (hb hby d20_11) (by decide) rfl ?_
  refine P.aloadN X13 hx 15 (hb hby d20_14) rfl rfl rfl ?_
  refine P.iload X13 hx 17 (hb hby d20_15) rfl rfl ?_
  refine P.aloadN X13 hx 18 (hb hby d20_17) rfl rfl rfl ?_
  refine P.iloadN X13 hx 19 (hb hby d20_18) rfl rfl ?_
  have F16 : Arv Z h13 b kb .char (3 : Int32) [(.int c0), (.int c1), (.int c2)] (.int 0) := (F12.keep J13 (ninS (X13.neF P1 (List.mem_of_getElem? (i := 0) rfl)) nin0))
  refine WS.cld X13 hx F16 (j := (2 : Int32)) (x := c2) (by decide) rfl (hb hby d20_19) ?_
  refine X13.callS hx (w97 cx) (w98 cx) (w73 cx) (w99 cx) (by decide) (Ct.pay (W := 0) (ct_putc32 cx a2 k3 c0 c1 c2 h13 _ _ G14 (List.mem_of_getElem? (i := 0) rfl)) (w99 cx) (w73 cx) (nle rfl) (nle rfl)) (by rw [hml]; rfl) (argsL := [.ref a2, .int 2, .int c2]) (rest := []) (lenOf pd3 rfl) rfl rfl (Nat.le_of_eq rfl) (hb hby d20_20) (nle rfl) (nle rfl) ?_
  rintro T17 h17 _ _ _ X17 ⟨rfl, rfl, rfl, J17, G18⟩
  have K19 : Keep h h17 [] := K15.trans J17 (allS (Or.inr ge6) all0)
  refine P.iinc X17 hx 26 #[.val (.ref b), .val (.int 3), .val (.int 3), .val (.ref a2), .val (.int 2)] (hb hby d20_23) rfl rfl rfl ?_
  refine P.iinc X17 hx 29 #[.val (.ref b), .val (.int 3), .val (.int 3), .val (.ref a2), .val (.int 3)] (hb hby d20_26) rfl rfl rfl ?_
  refine P.goto X17 hx 8 (hb hby d20_29) (by decide) (by decide) ?_
  refine P.iload X17 hx 10 (hb hby d20_8) rfl rfl ?_
  refine P.iloadN X17 hx 11 (hb hby d20_10) rfl rfl ?_
  refine P.icmpYes X17 hx 32 (hb hby d20_11) (by decide) (by decide) (by decide) ?_
  refine P.aloadN X17 hx 33 (hb hby d20_32) rfl rfl rfl ?_
  exact WS.retA X17 (WL' := [a2]) (FL' := []) hx hret rfl rfl hlk (hb hby d20_33) (nle rfl) (nle rfl) ⟨a2, k3, rfl, rfl, rfl, K19, ge6, G18⟩
def Q_codU3 (Z : State) (gC : Int32) (gF : Value) (u : Addr) (ku : ClassId) (vs : List Value) (h : Heap) (v : Option Value) (h' : Heap) (WL' FL' : List Addr) : Prop := v = some (.int 1) ∧ WL' = [] ∧ FL' = [] ∧ h' = h
theorem ct_codU3 {l : Launch} {Z : State} {a0 : Array Value} {gC : Int32} {gF : Value} (cx : Cx a0 Z gC gF) {n0 : Nat} (u : Addr) (ku : ClassId) (vs : List Value) (h : Heap) (WL FL : List Addr) (P0 : Arv Z h u ku .byte (6 : Int32) vs (.int 0)) :
    Ct l Z EL1 n0 (⟨"java/lang/StringUTF16", "coderFromArrayLen", "([BI)B"⟩ : MethodName) jdk_52_method_15_code 2 (Option.some Jvm.ClassFile.FieldType.byte) ({ frames := 0, cells := 0, slots := 0, locals := 0 } : Room) #[(.ref u), (.int 3)] h WL FL (Q_codU3 Z gC gF u ku vs h) := by
  refine Ct.of (plainFor_of_name pn1) ?_
  intro p e s m below meth c s1 hx hby hml hnm hret hlk X0
  refine Wo.cast (f' := (mkF m 0 #[.val (.ref u), .val (.int 3)] [])) (by rfl) ?_
  show Wo _ _ _ _ _ _ _ _ _ _ _ s1 (mkF m 0 #[.val (.ref u), .val (.int 3)] [])
  refine P.iloadN X0 hx 1 (hb hby d17_0) rfl rfl ?_
  refine P.aloadN X0 hx 2 (hb hby d17_1) rfl rfl rfl ?_
  refine WS.alen X0 hx P0 (hb hby d17_2) ?_
  refine P.isub X0 hx 4 (z := (-3 : Int32)) (hb hby d17_3) rfl rfl ?_
  refine P.bipush X0 hx 6 31 (hb hby d17_4) rfl rfl ?_
  refine P.iushr X0 hx 7 (z := (1 : Int32)) (hb hby d17_6) rfl rfl ?_
  refine P.i2b X0 hx 8 (z := (1 : Int32)) (hb hby d17_7) rfl rfl ?_
  exact WS.retN X0 (WL' := []) (FL' := []) hx (t := .byte) hret (by simp) hlk (hb hby d17_8) (nle rfl) (nle rfl) ⟨rfl, rfl, rfl, rfl⟩
def Q_cmi30 (Z : State) (gC : Int32) (gF : Value) (b : Addr) (kb : ClassId) (d : Addr) (kd : ClassId) (c0 : Int32) (c1 : Int32) (c2 : Int32) (h : Heap) (v : Option Value) (h' : Heap) (WL' FL' : List Addr) : Prop := v = some (.int 0) ∧ WL' = [] ∧ FL' = [] ∧ Keep h h' [d]
theorem ct_cmi30 {l : Launch} {Z : State} {a0 : Array Value} {gC : Int32} {gF : Value} (cx : Cx a0 Z gC gF) {n0 : Nat} (b : Addr) (kb : ClassId) (d : Addr) (kd : ClassId) (c0 : Int32) (c1 : Int32) (c2 : Int32) (h : Heap) (WL FL : List Addr) (P0 : Arv Z h b kb .char (3 : Int32) [(.int c0), (.int c1), (.int c2)] (.int 0)) (P1 : Arv Z h d kd .byte (3 : Int32) [(.int 0), (.int 0), (.int 0)] (.int 0)) (P2 : d ∈ WL) (hbd : b ≠ d) (hm0 : (255 : Int32) < c0) :
    Ct l Z EL1 n0 (⟨"java/lang/StringUTF16", "compress", "([CI[BII)I"⟩ : MethodName) jdk_52_method_21_code 7 (Option.some Jvm.ClassFile.FieldType.int) ({ frames := 0, cells := 0, slots := 0, locals := 0 } : Room) #[(.ref b), (.int 0), (.ref d), (.int 0), (.int 3)] h WL FL (Q_cmi30 Z gC gF b kb d kd c0 c1 c2 h) := by
  refine Ct.of (plainFor_of_name pn1) ?_
  intro p e s m below meth c s1 hx hby hml hnm hret hlk X0
  refine Wo.cast (f' := (mkF m 0 #[.val (.ref b), .val (.int 0), .val (.ref d), .val (.int 0), .val (.int 3), .unset, .unset] [])) (by rfl) ?_
  have K0 : Keep h h [d] := Keep.refl _ _
  show Wo _ _ _ _ _ _ _ _ _ _ _ s1 (mkF m 0 #[.val (.ref b), .val (.int 0), .val (.ref d), .val (.int 0), .val (.int 3), .unset, .unset] [])
  refine P.iconst X0 hx 1 0 (hb hby d16_0) rfl rfl ?_
  refine P.istore X0 hx 3 #[.val (.ref b), .val (.int 0), .val (.ref d), .val (.int 0), .val (.int 3), .val (.int 0), .unset] (hb hby d16_1) rfl rfl ?_
  refine P.iload X0 hx 5 (hb hby d16_3) rfl rfl ?_
  refine P.iload X0 hx 7 (hb hby d16_5) rfl rfl ?_
  refine P.icmpNo X0 hx 10 (hb hby d16_7) (by decide) rfl ?_
  refine P.aloadN X0 hx 11 (hb hby d16_10) rfl rfl rfl ?_
  refine P.iloadN X0 hx 12 (hb hby d16_11) rfl rfl ?_
  refine WS.cld X0 hx P0 (j := (0 : Int32)) (x := c0) (by decide) rfl (hb hby d16_12) ?_
  refine P.istore X0 hx 15 #[.val (.ref b), .val (.int 0), .val (.ref d), .val (.int 0), .val (.int 3), .val (.int 0), .val (.int c0)] (hb hby d16_13) rfl rfl ?_
  refine P.iload X0 hx 17 (hb hby d16_15) rfl rfl ?_
  refine P.sipush X0 hx 20 255 (hb hby d16_17) rfl rfl ?_
  refine P.icmpNo X0 hx 23 (hb hby d16_20) (tlt hm0).2.2.2 rfl ?_
  refine P.iload X0 hx 25 (hb hby d16_23) rfl rfl ?_
  exact WS.retI X0 (WL' := []) (FL' := []) hx hret hlk (hb hby d16_25) (nle rfl) (nle rfl) ⟨rfl, rfl, rfl, K0⟩
def Q_cm330 (Z : State) (gC : Int32) (gF : Value) (b : Addr) (kb : ClassId) (c0 : Int32) (c1 : Int32) (c2 : Int32) (h : Heap) (v : Option Value) (h' : Heap) (WL' FL' : List Addr) : Prop := ∃ u : Addr, ∃ ku : ClassId, v = some (.ref u) ∧ WL' = [u] ∧ FL' = [] ∧ Keep h h' [] ∧ h.size ≤ u ∧ Arv Z h' u ku .byte (6 : Int32) [(.int (c0.toInt8.toInt32)), (.int ((c0 >>> ((8 : Int32) &&& 31)).toInt8.toInt32)), (.int (c1.toInt8.toInt32)), (.int ((c1 >>> ((8 : Int32) &&& 31)).toInt8.toInt32)), (.int (c2.toInt8.toInt32)), (.int ((c2 >>> ((8 : Int32) &&& 31)).toInt8.toInt32))] (.int 0)
theorem ct_cm330 {l : Launch} {Z : State} {a0 : Array Value} {gC : Int32} {gF : Value} (cx : Cx a0 Z gC gF) {n0 : Nat} (b : Addr) (kb : ClassId) (c0 : Int32) (c1 : Int32) (c2 : Int32) (h : Heap) (WL FL : List Addr) (P0 : Arv Z h b kb .char (3 : Int32) [(.int c0), (.int c1), (.int c2)] (.int 0)) (P1 : b ∈ FL) (hr_c0 : ¬ c0 < 0 ∧ ¬ (65535 : Int32) < c0) (hr_c1 : ¬ c1 < 0 ∧ ¬ (65535 : Int32) < c1) (hr_c2 : ¬ c2 < 0 ∧ ¬ (65535 : Int32) < c2) (hm0 : (255 : Int32) < c0) :
    Ct l Z EL1 n0 (⟨"java/lang/StringUTF16", "compress", "([CII)[B"⟩ : MethodName) jdk_52_method_16_code 6 (Option.some (Jvm.ClassFile.FieldType.array Jvm.ClassFile.FieldType.byte)) ({ frames := 3, cells := 2, slots := 9, locals := 40 } : Room) #[(.ref b), (.int 0), (.int 3)] h WL FL (Q_cm330 Z gC gF b kb c0 c1 c2 h) := by
  refine Ct.of (plainFor_of_name pn1) ?_
  intro p e s m below meth c s1 hx hby hml hnm hret hlk X0
  refine Wo.cast (f' := (mkF m 0 #[.val (.ref b), .val (.int 0), .val (.int 3), .unset, .unset, .unset] [])) (by rfl) ?_
  have K0 : Keep h h [] := Keep.refl _ _
  show Wo _ _ _ _ _ _ _ _ _ _ _ s1 (mkF m 0 #[.val (.ref b), .val (.int 0), .val (.int 3), .unset, .unset, .unset] [])
  refine P.iloadN X0 hx 1 (hb hby d15_0) rfl rfl ?_
  refine X0.newP (aty := .byte) hx (w20 cx) (hb hby d15_1) (by decide) (cap := 3) (nle rfl) (nle rfl) (nle rfl) (nle rfl) ?_
  intro T1 h1 a1 k1 X1 E1 g1 A1
  have ge2 : h.size ≤ a1 := Nat.le_trans K0.1 g1
  have K3 : Keep h h1 [] := K0.ext E1
  have V4 : Arv Z h1 a1 k1 .byte (3 : Int32) [(.int 0), (.int 0), (.int 0)] (.int 0) := Arv.pad A1 (pad_rep [] _ 3)
  refine P.astoreN X1 hx 4 #[.val (.ref b), .val (.int 0), .val (.int 3), .val (.ref a1), .unset, .unset] (hb hby d15_3) rfl rfl rfl ?_
  refine P.aloadN X1 hx 5 (hb hby d15_4) rfl rfl rfl ?_
  refine P.iloadN X1 hx 6 (hb hby d15_5) rfl rfl ?_
  refine P.aloadN X1 hx 7 (hb hby d15_6) rfl rfl rfl ?_
  refine P.iconst X1 hx 8 0 (hb hby d15_7) rfl rfl ?_
  refine P.iloadN X1 hx 9 (hb hby d15_8) rfl rfl ?_
  have F5 : Arv Z h1 b kb .char (3 : Int32) [(.int c0), (.int c1), (.int c2)] (.int 0) := (P0.ext E1)
  refine X1.callS hx (w75 cx) (w76 cx) (w73 cx) (w77 cx) (by decide) (Ct.pay (W := 0) (ct_cmi30 cx b kb a1 k1 c0 c1 c2 h1 _ _ F5 V4 (List.mem_of_getElem? (i := 0) rfl) (X1.neF P1 (List.mem_of_getElem? (i := 0) rfl)) hm0) (w77 cx) (w73 cx) (nle rfl) (nle rfl)) (by rw [hml]; rfl) (argsL := [.ref b, .int 0, .ref a1, .int 0, .int 3]) (rest := []) (lenOf pd4 rfl) rfl rfl (Nat.le_of_eq rfl) (hb hby d15_9) (nle rfl) (nle rfl) ?_
  rintro T6 h6 _ _ _ X6 ⟨rfl, rfl, rfl, J6⟩
  have K7 : Keep h h6 [] := K3.trans J6 (allS (Or.inr ge2) all0)
  refine P.istore X6 hx 14 #[.val (.ref b), .val (.int 0), .val (.int 3), .val (.ref a1), .val (.int 0), .unset] (hb hby d15_12) rfl rfl ?_
  refine P.iload X6 hx 16 (hb hby d15_14) rfl rfl ?_
  refine P.iloadN X6 hx 17 (hb hby d15_16) rfl rfl ?_
  refine P.icmpNo X6 hx 20 (hb hby d15_17) (by decide) rfl ?_
  refine P.aloadN X6 hx 21 (hb hby d15_20) rfl rfl rfl ?_
  refine P.iloadN X6 hx 22 (hb hby d15_21) rfl rfl ?_
  refine P.iloadN X6 hx 23 (hb hby d15_22) rfl rfl ?_
  have F8 : Arv Z h6 b kb .char (3 : Int32) [(.int c0), (.int c1), (.int c2)] (.int 0) := (F5.keep J6 (ninS (X6.neF P1 (List.mem_of_getElem? (i := 0) rfl)) nin0))
  refine X6.callS hx (w87 cx) (w88 cx) (w73 cx) (w89 cx) (by decide) (Ct.pay (W := 0) (ct_tob3 cx b kb c0 c1 c2 h6 _ _ F8 P1) (w89 cx) (w73 cx) (nle rfl) (nle rfl)) (by rw [hml]; rfl) (argsL := [.ref b, .int 0, .int 3]) (rest := []) (lenOf pd5 rfl) rfl rfl (Nat.le_of_eq rfl) (hb hby d15_23) (nle rfl) (nle rfl) ?_
  rintro T9 h9 _ _ _ X9 ⟨a10, k11, rfl, rfl, rfl, J9, g13, G12⟩
  have ge14 : h.size ≤ a10 := Nat.le_trans K7.1 g13
  have K15 : Keep h h9 [] := K7.trans J9 all0
  refine P.astore X9 hx 28 #[.val (.ref b), .val (.int 0), .val (.int 3), .val (.ref a1), .val (.int 0), .val (.ref a10)] (hb hby d15_26) rfl rfl rfl ?_
  refine P.aload X9 hx 30 (hb hby d15_28) rfl rfl rfl ?_
  refine P.iload X9 hx 32 (hb hby d15_30) rfl rfl ?_
  refine X9.callS hx (w103 cx) (w104 cx) (w73 cx) (w105 cx) (by decide) (Ct.pay (W := 0) (ct_getc30 cx a10 k11 c0 c1 c2 h9 _ _ G12 hr_c0) (w105 cx) (w73 cx) (nle rfl) (nle rfl)) (by rw [hml]; rfl) (argsL := [.ref a10, .int 0]) (rest := []) (lenOf pd6 rfl) rfl rfl (Nat.le_of_eq rfl) (hb hby d15_32) (nle rfl) (nle rfl) ?_
  rintro T16 h16 _ _ _ X16 ⟨rfl, rfl, rfl, J16⟩
  rw [J16] at X16
  refine P.sipush X16 hx 38 255 (hb hby d15_35) rfl rfl ?_
  refine P.icmpYes X16 hx 54 (hb hby d15_38) (tlt hm0).2.2.1 (by decide) (by decide) ?_
  refine P.aload X16 hx 56 (hb hby d15_54) rfl rfl rfl ?_
  have X17 := WS.drop (A := [a10]) (B := WL) X16
  have X18 := WS.fl (FL2 := FL) X17 (fun y hy => (List.mem_append_right [a1] hy))
  exact WS.retA X18 (WL' := [a10]) (FL' := []) hx hret rfl rfl hlk (hb hby d15_56) (nle rfl) (nle rfl) ⟨a10, k11, rfl, rfl, rfl, K15, ge14, G12⟩
def Q_s4U30 (Z : State) (gC : Int32) (gF : Value) (x : Addr) (b : Addr) (kb : ClassId) (c0 : Int32) (c1 : Int32) (c2 : Int32) (h : Heap) (v : Option Value) (h' : Heap) (WL' FL' : List Addr) : Prop := ∃ u : Addr, ∃ ku : ClassId, v = none ∧ WL' = [] ∧ FL' = [u] ∧ Keep h h' [x] ∧ Fld Z h' x "java/lang/String" "value" "[B" (.ref u) ∧ Fld Z h' x "java/lang/String" "coder" "B" (.int 1) ∧ Arv Z h' u ku .byte (6 : Int32) [(.int (c0.toInt8.toInt32)), (.int ((c0 >>> ((8 : Int32) &&& 31)).toInt8.toInt32)), (.int (c1.toInt8.toInt32)), (.int ((c1 >>> ((8 : Int32) &&& 31)).toInt8.toInt32)), (.int (c2.toInt8.toInt32)), (.int ((c2 >>> ((8 : Int32) &&& 31)).toInt8.toInt32))] (.int 0)
theorem ct_s4U30 {l : Launch} {Z : State} {a0 : Array Value} {gC : Int32} {gF : Value} (cx : Cx a0 Z gC gF) {n0 : Nat} (x : Addr) (b : Addr) (kb : ClassId) (c0 : Int32) (c1 : Int32) (c2 : Int32) (h : Heap) (WL FL : List Addr) (P0 : Exa Z h x "java/lang/String") (P1 : Fld Z h x "java/lang/String" "value" "[B" .null) (P2 : Fld Z h x "java/lang/String" "coder" "B" (.int 0)) (P3 : x ∈ WL) (P4 : Arv Z h b kb .char (3 : Int32) [(.int c0), (.int c1), (.int c2)] (.int 0)) (P5 : b ∈ FL) (hr_c0 : ¬ c0 < 0 ∧ ¬ (65535 : Int32) < c0) (hr_c1 : ¬ c1 < 0 ∧ ¬ (65535 : Int32) < c1) (hr_c2 : ¬ c2 < 0 ∧ ¬ (65535 : Int32) < c2) (hm0 : (255 : Int32) < c0) :
    Ct l Z EL1 n0 (⟨"java/lang/String", "<init>", "([CIILjava/lang/Void;)V"⟩ : MethodName) jdk_42_method_149_code 6 (Option.none : Option Jvm.ClassFile.FieldType) ({ frames := 4, cells := 2, slots := 9, locals := 57 } : Room) #[(.ref x), (.ref b), (.int 0), (.int 3), .null] h WL FL (Q_s4U30 Z gC gF x b kb c0 c1 c2 h) := by
  refine Ct.of (plainFor_of_name pn0) ?_
  intro p e s m below meth c s1 hx hby hml hnm hret hlk X0
  refine Wo.cast (f' := (mkF m 0 #[.val (.ref x), .val (.ref b), .val (.int 0), .val (.int 3), .val .null, .unset] [])) (by rfl) ?_
  have K0 : Keep h h [x] := Keep.refl _ _
  show Wo _ _ _ _ _ _ _ _ _ _ _ s1 (mkF m 0 #[.val (.ref x), .val (.ref b), .val (.int 0), .val (.int 3), .val .null, .unset] [])
  refine P.aloadN X0 hx 1 (hb hby d3_0) rfl rfl rfl ?_
  refine X0.initO hx (w16 cx) (w17 cx) (w18 cx) (by rw [hml]; rfl) (hb hby d3_1) (nle rfl) (W := 0) (Nat.le_of_eq rfl) (nle rfl) ?_
  intro T1 X1
  refine P.iloadN X1 hx 5 (hb hby d3_4) rfl rfl ?_
  refine P.ifYes X1 hx 27 (hb hby d3_5) (by decide) (by decide) (by decide) ?_
  refine X1.getS hx (w46 cx) Via.refl (S_C cx) (hb hby d3_27) ?_
  intro T2 X2
  refine P.ifNo X2 hx 33 (hb hby d3_30) ((if0 _ _).trans (feq (N_C cx)).1) rfl ?_
  refine P.aloadN X2 hx 34 (hb hby d3_33) rfl rfl rfl ?_
  refine P.iloadN X2 hx 35 (hb hby d3_34) rfl rfl ?_
  refine P.iloadN X2 hx 36 (hb hby d3_35) rfl rfl ?_
  refine X2.callS hx (w71 cx) (w72 cx) (w73 cx) (w74 cx) (by decide) (Ct.pay (W := 0) (ct_cm330 cx b kb c0 c1 c2 h _ _ P4 P5 hr_c0 hr_c1 hr_c2 hm0) (w74 cx) (w73 cx) (nle rfl) (nle rfl)) (by rw [hml]; rfl) (argsL := [.ref b, .int 0, .int 3]) (rest := []) (lenOf pd5 rfl) rfl rfl (Nat.le_of_eq rfl) (hb hby d3_36) (nle rfl) (nle rfl) ?_
  rintro T3 h3 _ _ _ X3 ⟨a4, k5, rfl, rfl, rfl, J3, g7, G6⟩
  have ge8 : h.size ≤ a4 := Nat.le_trans K0.1 g7
  have K9 : Keep h h3 [x] := K0.trans J3 all0
  refine P.astore X3 hx 41 #[.val (.ref x), .val (.ref b), .val (.int 0), .val (.int 3), .val .null, .val (.ref a4)] (hb hby d3_39) rfl rfl rfl ?_
  refine P.aloadN X3 hx 42 (hb hby d3_41) rfl rfl rfl ?_
  refine P.aload X3 hx 44 (hb hby d3_42) rfl rfl rfl ?_
  refine P.iloadN X3 hx 45 (hb hby d3_44) rfl rfl ?_
  refine X3.callS hx (w78 cx) (w79 cx) (w73 cx) (w80 cx) (by decide) (Ct.pay (W := 1) (ct_codU3 cx a4 k5 _ h3 _ _ G6) (w80 cx) (w73 cx) (nle rfl) (nle rfl)) (by rw [hml]; rfl) (argsL := [.ref a4, .int 3]) (rest := [.ref x]) (lenOf pd7 rfl) rfl rfl (Nat.le_of_eq rfl) (hb hby d3_45) (nle rfl) (nle rfl) ?_
  rintro T10 h10 _ _ _ X10 ⟨rfl, rfl, rfl, J10⟩
  rw [J10] at X10
  have F11 : Fld Z h3 x "java/lang/String" "coder" "B" (.int 0) := (P2.keep J3 nin0)
  have F12 : Exa Z h3 x "java/lang/String" := (P0.keep J3)
  refine X10.putF hx (host := "") (Or.inl (w26 cx)) Via.refl F11 F12 (Or.inr ⟨(w22 cx), rfl, hnm⟩) (w6 cx) (ty := .byte) (by decide) rfl rfl (List.mem_cons_of_mem _ P3) (hb hby d3_48) ?_
  intro T13 h13 X13 W13 G13
  have K14 : Keep h h13 [x] := K9.wr W13 (Or.inl (List.mem_of_getElem? (i := 0) rfl))
  refine P.aloadN X13 hx 52 (hb hby d3_51) rfl rfl rfl ?_
  refine P.aload X13 hx 54 (hb hby d3_52) rfl rfl rfl ?_
  have F15 : Fld Z h13 x "java/lang/String" "value" "[B" .null := ((P1.keep J3 nin0).other W13 (Or.inr (slot_ne (Or.inr (w21 cx)) (Or.inr (w22 cx)) (by decide) (t := (.array .byte)) (t' := .byte) (by decide) (by decide))))
  have F16 : Exa Z h13 x "java/lang/String" := (F12.wr W13)
  refine X13.putF hx (host := "") (Or.inl (w25 cx)) Via.refl F15 F16 (Or.inr ⟨(w21 cx), rfl, hnm⟩) (w6 cx) (ty := (.array .byte)) (by decide) rfl rfl (List.mem_cons_of_mem _ P3) (hb hby d3_54) ?_
  intro T17 h17 X17 W17 G17
  have K18 : Keep h h17 [x] := K14.wr W17 (Or.inl (List.mem_of_getElem? (i := 0) rfl))
  have F19 : Arv Z h17 a4 k5 .byte (6 : Int32) [(.int (c0.toInt8.toInt32)), (.int ((c0 >>> ((8 : Int32) &&& 31)).toInt8.toInt32)), (.int (c1.toInt8.toInt32)), (.int ((c1 >>> ((8 : Int32) &&& 31)).toInt8.toInt32)), (.int (c2.toInt8.toInt32)), (.int ((c2 >>> ((8 : Int32) &&& 31)).toInt8.toInt32))] (.int 0) := ((G6.other W13 (X17.neT (A := [a4]) (B := WL) (List.mem_of_getElem? (i := 0) rfl) P3)).other W17 (X17.neT (A := [a4]) (B := WL) (List.mem_of_getElem? (i := 0) rfl) P3))
  have F20 : Fld Z h17 x "java/lang/String" "coder" "B" (.int 1) := (G13.other W17 (Or.inr (slot_ne (Or.inr (w22 cx)) (Or.inr (w21 cx)) (by decide) (t := .byte) (t' := (.array .byte)) (by decide) (by decide))))
  have X21 := WS.drop (A := []) (B := WL) X17
  exact WS.retV X21 (WL' := []) (FL' := [a4]) hx hret hlk (hb hby d3_57) (nle rfl) (nle rfl) ⟨a4, k5, rfl, rfl, rfl, K18, G17, F20, F19⟩
def Q_cmi31 (Z : State) (gC : Int32) (gF : Value) (b : Addr) (kb : ClassId) (d : Addr) (kd : ClassId) (c0 : Int32) (c1 : Int32) (c2 : Int32) (h : Heap) (v : Option Value) (h' : Heap) (WL' FL' : List Addr) : Prop := v = some (.int 1) ∧ WL' = [] ∧ FL' = [] ∧ Keep h h' [d]
theorem ct_cmi31 {l : Launch} {Z : State} {a0 : Array Value} {gC : Int32} {gF : Value} (cx : Cx a0 Z gC gF) {n0 : Nat} (b : Addr) (kb : ClassId) (d : Addr) (kd : ClassId) (c0 : Int32) (c1 : Int32) (c2 : Int32) (h : Heap) (WL FL : List Addr) (P0 : Arv Z h b kb .char (3 : Int32) [(.int c0), (.int c1), (.int c2)] (.int 0)) (P1 : Arv Z h d kd .byte (3 : Int32) [(.int 0), (.int 0), (.int 0)] (.int 0)) (P2 : d ∈ WL) (hbd : b ≠ d) (hm0 : ¬ ((255 : Int32) < c0)) (hm1 : (255 : Int32) < c1) :
    Ct l Z EL1 n0 (⟨"java/lang/StringUTF16", "compress", "([CI[BII)I"⟩ : MethodName) jdk_52_method_21_code 7 (Option.some Jvm.ClassFile.FieldType.int) ({ frames := 0, cells := 0, slots := 0, locals := 0 } : Room) #[(.ref b), (.int 0), (.ref d), (.int 0), (.int 3)] h WL FL (Q_cmi31 Z gC gF b kb d kd c0 c1 c2 h) := by
  refine Ct.of (plainFor_of_name pn1) ?_
  intro p e s m below meth c s1 hx hby hml hnm hret hlk X0
  refine Wo.cast (f' := (mkF m 0 #[.val (.ref b), .val (.int 0), .val (.ref d), .val (.int 0), .val (.int 3), .unset, .unset] [])) (by rfl) ?_
  have K0 : Keep h h [d] := Keep.refl _ _
  show Wo _ _ _ _ _ _ _ _ _ _ _ s1 (mkF m 0 #[.val (.ref b), .val (.int 0), .val (.ref d), .val (.int 0), .val (.int 3), .unset, .unset] [])
  refine P.iconst X0 hx 1 0 (hb hby d16_0) rfl rfl ?_
  refine P.istore X0 hx 3 #[.val (.ref b), .val (.int 0), .val (.ref d), .val (.int 0), .val (.int 3), .val (.int 0), .unset] (hb hby d16_1) rfl rfl ?_
  refine P.iload X0 hx 5 (hb hby d16_3) rfl rfl ?_
  refine P.iload X0 hx 7 (hb hby d16_5) rfl rfl ?_
  refine P.icmpNo X0 hx 10 (hb hby d16_7) (by decide) rfl ?_
  refine P.aloadN X0 hx 11 (hb hby d16_10) rfl rfl rfl ?_
  refine P.iloadN X0 hx 12 (hb hby d16_11) rfl rfl ?_
  refine WS.cld X0 hx P0 (j := (0 : Int32)) (x := c0) (by decide) rfl (hb hby d16_12) ?_
  refine P.istore X0 hx 15 #[.val (.ref b), .val (.int 0), .val (.ref d), .val (.int 0), .val (.int 3), .val (.int 0), .val (.int c0)] (hb hby d16_13) rfl rfl ?_
  refine P.iload X0 hx 17 (hb hby d16_15) rfl rfl ?_
  refine P.sipush X0 hx 20 255 (hb hby d16_17) rfl rfl ?_
  refine P.icmpYes X0 hx 26 (hb hby d16_20) (flt hm0).2.2.2 (by decide) (by decide) ?_
  refine P.aloadN X0 hx 27 (hb hby d16_26) rfl rfl rfl ?_
  refine P.iloadN X0 hx 28 (hb hby d16_27) rfl rfl ?_
  refine P.iload X0 hx 30 (hb hby d16_28) rfl rfl ?_
  refine P.i2b X0 hx 31 (z := (c0.toInt8.toInt32)) (hb hby d16_30) rfl rfl ?_
  refine X0.stB hx P1 (j := (0 : Int32)) (x := (c0.toInt8.toInt32)) (i := 0) (by decide) rfl (nlt rfl) P2 (hb hby d16_31) ?_
  intro T1 h1 X1 W1 G1
  have K2 : Keep h h1 [d] := K0.wr W1 (Or.inl (List.mem_of_getElem? (i := 0) rfl))
  have V3 : Arv Z h1 d kd .byte (3 : Int32) [(.int (c0.toInt8.toInt32)), (.int 0), (.int 0)] (.int 0) := by have q := G1; rw [narB] at q; exact q
  refine P.iinc X1 hx 35 #[.val (.ref b), .val (.int 1), .val (.ref d), .val (.int 0), .val (.int 3), .val (.int 0), .val (.int c0)] (hb hby d16_32) rfl rfl rfl ?_
  refine P.iinc X1 hx 38 #[.val (.ref b), .val (.int 1), .val (.ref d), .val (.int 1), .val (.int 3), .val (.int 0), .val (.int c0)] (hb hby d16_35) rfl rfl rfl ?_
  refine P.iinc X1 hx 41 #[.val (.ref b), .val (.int 1), .val (.ref d), .val (.int 1), .val (.int 3), .val (.int 1), .val (.int c0)] (hb hby d16_38) rfl rfl rfl ?_
  refine P.goto X1 hx 3 (hb hby d16_41) (by decide) (by decide) ?_
  refine P.iload X1 hx 5 (hb hby d16_3) rfl rfl ?_
  refine P.iload X1 hx 7 (hb hby d16_5) rfl rfl ?_
  refine P.icmpNo X1 hx 10 (hb hby d16_7) (by decide) rfl ?_
  refine P.aloadN X1 hx 11 (hb hby d16_10) rfl rfl rfl ?_
  refine P.iloadN X1 hx 12 (hb hby d16_11) rfl rfl ?_
  have F4 : Arv Z h1 b kb .char (3 : Int32) [(.int c0), (.int c1), (.int c2)] (.int 0) := (P0.other W1 hbd)
  refine WS.cld X1 hx F4 (j := (1 : Int32)) (x := c1) (by decide) rfl (hb hby d16_12) ?_
  refine P.istore X1 hx 15 #[.val (.ref b), .val (.int 1), .val (.ref d), .val (.int 1), .val (.int 3), .val (.int 1), .val (.int c1)] (hb hby d16_13) rfl rfl ?_
  refine P.iload X1 hx 17 (hb hby d16_15) rfl rfl ?_
  refine P.sipush X1 hx 20 255 (hb hby d16_17) rfl rfl ?_
  refine P.icmpNo X1 hx 23 (hb hby d16_20) (tlt hm1).2.2.2 rfl ?_
  refine P.iload X1 hx 25 (hb hby d16_23) rfl rfl ?_
  exact WS.retI X1 (WL' := []) (FL' := []) hx hret hlk (hb hby d16_25) (nle rfl) (nle rfl) ⟨rfl, rfl, rfl, K2⟩
def Q_cm331 (Z : State) (gC : Int32) (gF : Value) (b : Addr) (kb : ClassId) (c0 : Int32) (c1 : Int32) (c2 : Int32) (h : Heap) (v : Option Value) (h' : Heap) (WL' FL' : List Addr) : Prop := ∃ u : Addr, ∃ ku : ClassId, v = some (.ref u) ∧ WL' = [u] ∧ FL' = [] ∧ Keep h h' [] ∧ h.size ≤ u ∧ Arv Z h' u ku .byte (6 : Int32) [(.int (c0.toInt8.toInt32)), (.int ((c0 >>> ((8 : Int32) &&& 31)).toInt8.toInt32)), (.int (c1.toInt8.toInt32)), (.int ((c1 >>> ((8 : Int32) &&& 31)).toInt8.toInt32)), (.int (c2.toInt8.toInt32)), (.int ((c2 >>> ((8 : Int32) &&& 31)).toInt8.toInt32))] (.int 0)
theorem ct_cm331 {l : Launch} {Z : State} {a0 : Array Value} {gC : Int32} {gF : Value} (cx : Cx a0 Z gC gF) {n0 : Nat} (b : Addr) (kb : ClassId) (c0 : Int32) (c1 : Int32) (c2 : Int32) (h : Heap) (WL FL : List Addr) (P0 : Arv Z h b kb .char (3 : Int32) [(.int c0), (.int c1), (.int c2)] (.int 0)) (P1 : b ∈ FL) (hr_c0 : ¬ c0 < 0 ∧ ¬ (65535 : Int32) < c0) (hr_c1 : ¬ c1 < 0 ∧ ¬ (65535 : Int32) < c1) (hr_c2 : ¬ c2 < 0 ∧ ¬ (65535 : Int32) < c2) (hm0 : ¬ ((255 : Int32) < c0)) (hm1 : (255 : Int32) < c1) :
    Ct l Z EL1 n0 (⟨"java/lang/StringUTF16", "compress", "([CII)[B"⟩ : MethodName) jdk_52_method_16_code 6 (Option.some (Jvm.ClassFile.FieldType.array Jvm.ClassFile.FieldType.byte)) ({ frames := 3, cells := 2, slots := 9, locals := 40 } : Room) #[(.ref b), (.int 0), (.int 3)] h WL FL (Q_cm331 Z gC gF b kb c0 c1 c2 h) := by
  refine Ct.of (plainFor_of_name pn1) ?_
  intro p e s m below meth c s1 hx hby hml hnm hret hlk X0
  refine Wo.cast (f' := (mkF m 0 #[.val (.ref b), .val (.int 0), .val (.int 3), .unset, .unset, .unset] [])) (by rfl) ?_
  have K0 : Keep h h [] := Keep.refl _ _
  show Wo _ _ _ _ _ _ _ _ _ _ _ s1 (mkF m 0 #[.val (.ref b), .val (.int 0), .val (.int 3), .unset, .unset, .unset] [])
  refine P.iloadN X0 hx 1 (hb hby d15_0) rfl rfl ?_
  refine X0.newP (aty := .byte) hx (w20 cx) (hb hby d15_1) (by decide) (cap := 3) (nle rfl) (nle rfl) (nle rfl) (nle rfl) ?_
  intro T1 h1 a1 k1 X1 E1 g1 A1
  have ge2 : h.size ≤ a1 := Nat.le_trans K0.1 g1
  have K3 : Keep h h1 [] := K0.ext E1
  have V4 : Arv Z h1 a1 k1 .byte (3 : Int32) [(.int 0), (.int 0), (.int 0)] (.int 0) := Arv.pad A1 (pad_rep [] _ 3)
  refine P.astoreN X1 hx 4 #[.val (.ref b), .val (.int 0), .val (.int 3), .val (.ref a1), .unset, .unset] (hb hby d15_3) rfl rfl rfl ?_
  refine P.aloadN X1 hx 5 (hb hby d15_4) rfl rfl rfl ?_
  refine P.iloadN X1 hx 6 (hb hby d15_5) rfl rfl ?_
  refine P.aloadN X1 hx 7 (hb hby d15_6) rfl rfl rfl ?_
  refine P.iconst X1 hx 8 0 (hb hby d15_7) rfl rfl ?_
  refine P.iloadN X1 hx 9 (hb hby d15_8) rfl rfl ?_
  have F5 : Arv Z h1 b kb .char (3 : Int32) [(.int c0), (.int c1), (.int c2)] (.int 0) := (P0.ext E1)
  refine X1.callS hx (w75 cx) (w76 cx) (w73 cx) (w77 cx) (by decide) (Ct.pay (W := 0) (ct_cmi31 cx b kb a1 k1 c0 c1 c2 h1 _ _ F5 V4 (List.mem_of_getElem? (i := 0) rfl) (X1.neF P1 (List.mem_of_getElem? (i := 0) rfl)) hm0 hm1) (w77 cx) (w73 cx) (nle rfl) (nle rfl)) (by rw [hml]; rfl) (argsL := [.ref b, .int 0, .ref a1, .int 0, .int 3]) (rest := []) (lenOf pd4 rfl) rfl rfl (Nat.le_of_eq rfl) (hb hby d15_9) (nle rfl) (nle rfl) ?_
  rintro T6 h6 _ _ _ X6 ⟨rfl, rfl, rfl, J6⟩
  have K7 : Keep h h6 [] := K3.trans J6 (allS (Or.inr ge2) all0)
  refine P.istore X6 hx 14 #[.val (.ref b), .val (.int 0), .val (.int 3), .val (.ref a1), .val (.int 1), .unset] (hb hby d15_12) rfl rfl ?_
  refine P.iload X6 hx 16 (hb hby d15_14) rfl rfl ?_
  refine P.iloadN X6 hx 17 (hb hby d15_16) rfl rfl ?_
  refine P.icmpNo X6 hx 20 (hb hby d15_17) (by decide) rfl ?_
  refine P.aloadN X6 hx 21 (hb hby d15_20) rfl rfl rfl ?_
  refine P.iloadN X6 hx 22 (hb hby d15_21) rfl rfl ?_
  refine P.iloadN X6 hx 23 (hb hby d15_22) rfl rfl ?_
  have F8 : Arv Z h6 b kb .char (3 : Int32) [(.int c0), (.int c1), (.int c2)] (.int 0) := (F5.keep J6 (ninS (X6.neF P1 (List.mem_of_getElem? (i := 0) rfl)) nin0))
  refine X6.callS hx (w87 cx) (w88 cx) (w73 cx) (w89 cx) (by decide) (Ct.pay (W := 0) (ct_tob3 cx b kb c0 c1 c2 h6 _ _ F8 P1) (w89 cx) (w73 cx) (nle rfl) (nle rfl)) (by rw [hml]; rfl) (argsL := [.ref b, .int 0, .int 3]) (rest := []) (lenOf pd5 rfl) rfl rfl (Nat.le_of_eq rfl) (hb hby d15_23) (nle rfl) (nle rfl) ?_
  rintro T9 h9 _ _ _ X9 ⟨a10, k11, rfl, rfl, rfl, J9, g13, G12⟩
  have ge14 : h.size ≤ a10 := Nat.le_trans K7.1 g13
  have K15 : Keep h h9 [] := K7.trans J9 all0
  refine P.astore X9 hx 28 #[.val (.ref b), .val (.int 0), .val (.int 3), .val (.ref a1), .val (.int 1), .val (.ref a10)] (hb hby d15_26) rfl rfl rfl ?_
  refine P.aload X9 hx 30 (hb hby d15_28) rfl rfl rfl ?_
  refine P.iload X9 hx 32 (hb hby d15_30) rfl rfl ?_
  refine X9.callS hx (w103 cx) (w104 cx) (w73 cx) (w105 cx) (by decide) (Ct.pay (W := 0) (ct_getc31 cx a10 k11 c0 c1 c2 h9 _ _ G12 hr_c1) (w105 cx) (w73 cx) (nle rfl) (nle rfl)) (by rw [hml]; rfl) (argsL := [.ref a10, .int 1]) (rest := []) (lenOf pd6 rfl) rfl rfl (Nat.le_of_eq rfl) (hb hby d15_32) (nle rfl) (nle rfl) ?_
  rintro T16 h16 _ _ _ X16 ⟨rfl, rfl, rfl, J16⟩
  rw [J16] at X16
  refine P.sipush X16 hx 38 255 (hb hby d15_35) rfl rfl ?_
  refine P.icmpYes X16 hx 54 (hb hby d15_38) (tlt hm1).2.2.1 (by decide) (by decide) ?_
  refine P.aload X16 hx 56 (hb hby d15_54) rfl rfl rfl ?_
  have X17 := WS.drop (A := [a10]) (B := WL) X16
  have X18 := WS.fl (FL2 := FL) X17 (fun y hy => (List.mem_append_right [a1] hy))
  exact WS.retA X18 (WL' := [a10]) (FL' := []) hx hret rfl rfl hlk (hb hby d15_56) (nle rfl) (nle rfl) ⟨a10, k11, rfl, rfl, rfl, K15, ge14, G12⟩
def Q_s4U31 (Z : State) (gC : Int32) (gF : Value) (x : Addr) (b : Addr) (kb : ClassId) (c0 : Int32) (c1 : Int32) (c2 : Int32) (h : Heap) (v : Option Value) (h' : Heap) (WL' FL' : List Addr) : Prop := ∃ u : Addr, ∃ ku : ClassId, v = none ∧ WL' = [] ∧ FL' = [u] ∧ Keep h h' [x] ∧ Fld Z h' x "java/lang/String" "value" "[B" (.ref u) ∧ Fld Z h' x "java/lang/String" "coder" "B" (.int 1) ∧ Arv Z h' u ku .byte (6 : Int32) [(.int (c0.toInt8.toInt32)), (.int ((c0 >>> ((8 : Int32) &&& 31)).toInt8.toInt32)), (.int (c1.toInt8.toInt32)), (.int ((c1 >>> ((8 : Int32) &&& 31)).toInt8.toInt32)), (.int (c2.toInt8.toInt32)), (.int ((c2 >>> ((8 : Int32) &&& 31)).toInt8.toInt32))] (.int 0)
theorem ct_s4U31 {l : Launch} {Z : State} {a0 : Array Value} {gC : Int32} {gF : Value} (cx : Cx a0 Z gC gF) {n0 : Nat} (x : Addr) (b : Addr) (kb : ClassId) (c0 : Int32) (c1 : Int32) (c2 : Int32) (h : Heap) (WL FL : List Addr) (P0 : Exa Z h x "java/lang/String") (P1 : Fld Z h x "java/lang/String" "value" "[B" .null) (P2 : Fld Z h x "java/lang/String" "coder" "B" (.int 0)) (P3 : x ∈ WL) (P4 : Arv Z h b kb .char (3 : Int32) [(.int c0), (.int c1), (.int c2)] (.int 0)) (P5 : b ∈ FL) (hr_c0 : ¬ c0 < 0 ∧ ¬ (65535 : Int32) < c0) (hr_c1 : ¬ c1 < 0 ∧ ¬ (65535 : Int32) < c1) (hr_c2 : ¬ c2 < 0 ∧ ¬ (65535 : Int32) < c2) (hm0 : ¬ ((255 : Int32) < c0)) (hm1 : (255 : Int32) < c1) :
    Ct l Z EL1 n0 (⟨"java/lang/String", "<init>", "([CIILjava/lang/Void;)V"⟩ : MethodName) jdk_42_method_149_code 6 (Option.none : Option Jvm.ClassFile.FieldType) ({ frames := 4, cells := 2, slots := 9, locals := 57 } : Room) #[(.ref x), (.ref b), (.int 0), (.int 3), .null] h WL FL (Q_s4U31 Z gC gF x b kb c0 c1 c2 h) := by
  refine Ct.of (plainFor_of_name pn0) ?_
  intro p e s m below meth c s1 hx hby hml hnm hret hlk X0
  refine Wo.cast (f' := (mkF m 0 #[.val (.ref x), .val (.ref b), .val (.int 0), .val (.int 3), .val .null, .unset] [])) (by rfl) ?_
  have K0 : Keep h h [x] := Keep.refl _ _
  show Wo _ _ _ _ _ _ _ _ _ _ _ s1 (mkF m 0 #[.val (.ref x), .val (.ref b), .val (.int 0), .val (.int 3), .val .null, .unset] [])
  refine P.aloadN X0 hx 1 (hb hby d3_0) rfl rfl rfl ?_
  refine X0.initO hx (w16 cx) (w17 cx) (w18 cx) (by rw [hml]; rfl) (hb hby d3_1) (nle rfl) (W := 0) (Nat.le_of_eq rfl) (nle rfl) ?_
  intro T1 X1
  refine P.iloadN X1 hx 5 (hb hby d3_4) rfl rfl ?_
  refine P.ifYes X1 hx 27 (hb hby d3_5) (by decide) (by decide) (by decide) ?_
  refine X1.getS hx (w46 cx) Via.refl (S_C cx) (hb hby d3_27) ?_
  intro T2 X2
  refine P.ifNo X2 hx 33 (hb hby d3_30) ((if0 _ _).trans (feq (N_C cx)).1) rfl ?_
  refine P.aloadN X2 hx 34 (hb hby d3_33) rfl rfl rfl ?_
  refine P.iloadN X2 hx 35 (hb hby d3_34) rfl rfl ?_
  refine P.iloadN X2 hx 36 (hb hby d3_35) rfl rfl ?_
  refine X2.callS hx (w71 cx) (w72 cx) (w73 cx) (w74 cx) (by decide) (Ct.pay (W := 0) (ct_cm331 cx b kb c0 c1 c2 h _ _ P4 P5 hr_c0 hr_c1 hr_c2 hm0 hm1) (w74 cx) (w73 cx) (nle rfl) (nle rfl)) (by rw [hml]; rfl) (argsL := [.ref b, .int 0, .int 3]) (rest := []) (lenOf pd5 rfl) rfl rfl (Nat.le_of_eq rfl) (hb hby d3_36) (nle rfl) (nle rfl) ?_
  rintro T3 h3 _ _ _ X3 ⟨a4, k5, rfl, rfl, rfl, J3, g7, G6⟩
  have ge8 : h.size ≤ a4 := Nat.le_trans K0.1 g7
  have K9 : Keep h h3 [x] := K0.trans J3 all0
  refine P.astore X3 hx 41 #[.val (.ref x), .val (.ref b), .val (.int 0), .val (.int 3), .val .null, .val (.ref a4)] (hb hby d3_39) rfl rfl rfl ?_
  refine P.aloadN X3 hx 42 (hb hby d3_41) rfl rfl rfl ?_
  refine P.aload X3 hx 44 (hb hby d3_42) rfl rfl rfl ?_
  refine P.iloadN X3 hx 45 (hb hby d3_44) rfl rfl ?_
  refine X3.callS hx (w78 cx) (w79 cx) (w73 cx) (w80 cx) (by decide) (Ct.pay (W := 1) (ct_codU3 cx a4 k5 _ h3 _ _ G6) (w80 cx) (w73 cx) (nle rfl) (nle rfl)) (by rw [hml]; rfl) (argsL := [.ref a4, .int 3]) (rest := [.ref x]) (lenOf pd7 rfl) rfl rfl (Nat.le_of_eq rfl) (hb hby d3_45) (nle rfl) (nle rfl) ?_
  rintro T10 h10 _ _ _ X10 ⟨rfl, rfl, rfl, J10⟩
  rw [J10] at X10
  have F11 : Fld Z h3 x "java/lang/String" "coder" "B" (.int 0) := (P2.keep J3 nin0)
  have F12 : Exa Z h3 x "java/lang/String" := (P0.keep J3)
  refine X10.putF hx (host := "") (Or.inl (w26 cx)) Via.refl F11 F12 (Or.inr ⟨(w22 cx), rfl, hnm⟩) (w6 cx) (ty := .byte) (by decide) rfl rfl (List.mem_cons_of_mem _ P3) (hb hby d3_48) ?_
  intro T13 h13 X13 W13 G13
  have K14 : Keep h h13 [x] := K9.wr W13 (Or.inl (List.mem_of_getElem? (i := 0) rfl))
  refine P.aloadN X13 hx 52 (hb hby d3_51) rfl rfl rfl ?_
  refine P.aload X13 hx 54 (hb hby d3_52) rfl rfl rfl ?_
  have F15 : Fld Z h13 x "java/lang/String" "value" "[B" .null := ((P1.keep J3 nin0).other W13 (Or.inr (slot_ne (Or.inr (w21 cx)) (Or.inr (w22 cx)) (by decide) (t := (.array .byte)) (t' := .byte) (by decide) (by decide))))
  have F16 : Exa Z h13 x "java/lang/String" := (F12.wr W13)
  refine X13.putF hx (host := "") (Or.inl (w25 cx)) Via.refl F15 F16 (Or.inr ⟨(w21 cx), rfl, hnm⟩) (w6 cx) (ty := (.array .byte)) (by decide) rfl rfl (List.mem_cons_of_mem _ P3) (hb hby d3_54) ?_
  intro T17 h17 X17 W17 G17
  have K18 : Keep h h17 [x] := K14.wr W17 (Or.inl (List.mem_of_getElem? (i := 0) rfl))
  have F19 : Arv Z h17 a4 k5 .byte (6 : Int32) [(.int (c0.toInt8.toInt32)), (.int ((c0 >>> ((8 : Int32) &&& 31)).toInt8.toInt32)), (.int (c1.toInt8.toInt32)), (.int ((c1 >>> ((8 : Int32) &&& 31)).toInt8.toInt32)), (.int (c2.toInt8.toInt32)), (.int ((c2 >>> ((8 : Int32) &&& 31)).toInt8.toInt32))] (.int 0) := ((G6.other W13 (X17.neT (A := [a4]) (B := WL) (List.mem_of_getElem? (i := 0) rfl) P3)).other W17 (X17.neT (A := [a4]) (B := WL) (List.mem_of_getElem? (i := 0) rfl) P3))
  have F20 : Fld Z h17 x "java/lang/String" "coder" "B" (.int 1) := (G13.other W17 (Or.inr (slot_ne (Or.inr (w22 cx)) (Or.inr (w21 cx)) (by decide) (t := .byte) (t' := (.array .byte)) (by decide) (by decide))))
  have X21 := WS.drop (A := []) (B := WL) X17
  exact WS.retV X21 (WL' := []) (FL' := [a4]) hx hret hlk (hb hby d3_57) (nle rfl) (nle rfl) ⟨a4, k5, rfl, rfl, rfl, K18, G17, F20, F19⟩
def Q_cmi32 (Z : State) (gC : Int32) (gF : Value) (b : Addr) (kb : ClassId) (d : Addr) (kd : ClassId) (c0 : Int32) (c1 : Int32) (c2 : Int32) (h : Heap) (v : Option Value) (h' : Heap) (WL' FL' : List Addr) : Prop := v = some (.int 2) ∧ WL' = [] ∧ FL' = [] ∧ Keep h h' [d]
theorem ct_cmi32 {l : Launch} {Z : State} {a0 : Array Value} {gC : Int32} {gF : Value} (cx : Cx a0 Z gC gF) {n0 : Nat} (b : Addr) (kb : ClassId) (d : Addr) (kd : ClassId) (c0 : Int32) (c1 : Int32) (c2 : Int32) (h : Heap) (WL FL : List Addr) (P0 : Arv Z h b kb .char (3 : Int32) [(.int c0), (.int c1), (.int c2)] (.int 0)) (P1 : Arv Z h d kd .byte (3 : Int32) [(.int 0), (.int 0), (.int 0)] (.int 0)) (P2 : d ∈ WL) (hbd : b ≠ d) (hm0 : ¬ ((255 : Int32) < c0)) (hm1 : ¬ ((255 : Int32) < c1)) (hm2 : (255 : Int32) < c2) :
    Ct l Z EL1 n0 (⟨"java/lang/StringUTF16", "compress", "([CI[BII)I"⟩ : MethodName) jdk_52_method_21_code 7 (Option.some Jvm.ClassFile.FieldType.int) ({ frames := 0, cells := 0, slots := 0, locals := 0 } : Room) #[(.ref b), (.int 0), (.ref d), (.int 0), (.int 3)] h WL FL (Q_cmi32 Z gC gF b kb d kd c0 c1 c2 h) := by
  refine Ct.of (plainFor_of_name pn1) ?_
  intro p e s m below meth c s1 hx hby hml hnm hret hlk X0
  refine Wo.cast (f' := (mkF m 0 #[.val (.ref b), .val (.int 0), .val (.ref d), .val (.int 0), .val (.int 3), .unset, .unset] [])) (by rfl) ?_
  have K0 : Keep h h [d] := Keep.refl _ _
  show Wo _ _ _ _ _ _ _ _ _ _ _ s1 (mkF m 0 #[.val (.ref b), .val (.int 0), .val (.ref d), .val (.int 0), .val (.int 3), .unset, .unset] [])
  refine P.iconst X0 hx 1 0 (hb hby d16_0) rfl rfl ?_
  refine P.istore X0 hx 3 #[.val (.ref b), .val (.int 0), .val (.ref d), .val (.int 0), .val (.int 3), .val (.int 0), .unset] (hb hby d16_1) rfl rfl ?_
  refine P.iload X0 hx 5 (hb hby d16_3) rfl rfl ?_
  refine P.iload X0 hx 7 (hb hby d16_5) rfl rfl ?_
  refine P.icmpNo X0 hx 10 (hb hby d16_7) (by decide) rfl ?_
  refine P.aloadN X0 hx 11 (hb hby d16_10) rfl rfl rfl ?_
  refine P.iloadN X0 hx 12 (hb hby d16_11) rfl rfl ?_
  refine WS.cld X0 hx P0 (j := (0 : Int32)) (x := c0) (by decide) rfl (hb hby d16_12) ?_
  refine P.istore X0 hx 15 #[.val (.ref b), .val (.int 0), .val (.ref d), .val (.int 0), .val (.int 3), .val (.int 0), .val (.int c0)] (hb hby d16_13) rfl rfl ?_
  refine P.iload X0 hx 17 (hb hby d16_15) rfl rfl ?_
  refine P.sipush X0 hx 20 255 (hb hby d16_17) rfl rfl ?_
  refine P.icmpYes X0 hx 26 (hb hby d16_20) (flt hm0).2.2.2 (by decide) (by decide) ?_
  refine P.aloadN X0 hx 27 (hb hby d16_26) rfl rfl rfl ?_
  refine P.iloadN X0 hx 28 (hb hby d16_27) rfl rfl ?_
  refine P.iload X0 hx 30 (hb hby d16_28) rfl rfl ?_
  refine P.i2b X0 hx 31 (z := (c0.toInt8.toInt32)) (hb hby d16_30) rfl rfl ?_
  refine X0.stB hx P1 (j := (0 : Int32)) (x := (c0.toInt8.toInt32)) (i := 0) (by decide) rfl (nlt rfl) P2 (hb hby d16_31) ?_
  intro T1 h1 X1 W1 G1
  have K2 : Keep h h1 [d] := K0.wr W1 (Or.inl (List.mem_of_getElem? (i := 0) rfl))
  have V3 : Arv Z h1 d kd .byte (3 : Int32) [(.int (c0.toInt8.toInt32)), (.int 0), (.int 0)] (.int 0) := by have q := G1; rw [narB] at q; exact q
  refine P.iinc X1 hx 35 #[.val (.ref b), .val (.int 1), .val (.ref d), .val (.int 0), .val (.int 3), .val (.int 0), .val (.int c0)] (hb hby d16_32) rfl rfl rfl ?_
  refine P.iinc X1 hx 38 #[.val (.ref b), .val (.int 1), .val (.ref d), .val (.int 1), .val (.int 3), .val (.int 0), .val (.int c0)] (hb hby d16_35) rfl rfl rfl ?_
  refine P.iinc X1 hx 41 #[.val (.ref b), .val (.int 1), .val (.ref d), .val (.int 1), .val (.int 3), .val (.int 1), .val (.int c0)] (hb hby d16_38) rfl rfl rfl ?_
  refine P.goto X1 hx 3 (hb hby d16_41) (by decide) (by decide) ?_
  refine P.iload X1 hx 5 (hb hby d16_3) rfl rfl ?_
  refine P.iload X1 hx 7 (hb hby d16_5) rfl rfl ?_
  refine P.icmpNo X1 hx 10 (hb hby d16_7) (by decide) rfl ?_
  refine P.aloadN X1 hx 11 (hb hby d16_10) rfl rfl rfl ?_
  refine P.iloadN X1 hx 12 (hb hby d16_11) rfl rfl ?_
  have F4 : Arv Z h1 b kb .char (3 : Int32) [(.int c0), (.int c1), (.int c2)] (.int 0) := (P0.other W1 hbd)
  refine WS.cld X1 hx F4 (j := (1 : Int32)) (x := c1) (by decide) rfl (hb hby d16_12) ?_
  refine P.istore X1 hx 15 #[.val (.ref b), .val (.int 1), .val (.ref d), .val (.int 1), .val (.int 3), .val (.int 1), .val (.int c1)] (hb hby d16_13) rfl rfl ?_
  refine P.iload X1 hx 17 (hb hby d16_15) rfl rfl ?_
  refine P.sipush X1 hx 20 255 (hb hby d16_17) rfl rfl ?_
  refine P.icmpYes X1 hx 26 (hb hby d16_20) (flt hm1).2.2.2 (by decide) (by decide) ?_
  refine P.aloadN X1 hx 27 (hb hby d16_26) rfl rfl rfl ?_
  refine P.iloadN X1 hx 28 (hb hby d16_27) rfl rfl ?_
  refine P.iload X1 hx 30 (hb hby d16_28) rfl rfl ?_
  refine P.i2b X1 hx 31 (z := (c1.toInt8.toInt32)) (hb hby d16_30) rfl rfl ?_
  refine X1.stB hx V3 (j := (1 : Int32)) (x := (c1.toInt8.toInt32)) (i := 1) (by decide) rfl (nlt rfl) P2 (hb hby d16_31) ?_
  intro T5 h5 X5 W5 G5
  have K6 : Keep h h5 [d] := K2.wr W5 (Or.inl (List.mem_of_getElem? (i := 0) rfl))
  have V7 : Arv Z h5 d kd .byte (3 : Int32) [(.int (c0.toInt8.toInt32)), (.int (c1.toInt8.toInt32)), (.int 0)] (.int 0) := by have q := G5; rw [narB] at q; exact q
  refine P.iinc X5 hx 35 #[.val (.ref b), .val (.int 2), .val (.ref d), .val (.int 1), .val (.int 3), .val (.int 1), .val (.int c1)] (hb hby d16_32) rfl rfl rfl ?_
  refine P.iinc X5 hx 38 #[.val (.ref b), .val (.int 2), .val (.ref d), .val (.int 2), .val (.int 3), .val (.int 1), .val (.int c1)] (hb hby d16_35) rfl rfl rfl ?_
  refine P.iinc X5 hx 41 #[.val (.ref b), .val (.int 2), .val (.ref d), .val (.int 2), .val (.int 3), .val (.int 2), .val (.int c1)] (hb hby d16_38) rfl rfl rfl ?_
  refine P.goto X5 hx 3 (hb hby d16_41) (by decide) (by decide) ?_
  refine P.iload X5 hx 5 (hb hby d16_3) rfl rfl ?_
  refine P.iload X5 hx 7 (hb hby d16_5) rfl rfl ?_
  refine P.icmpNo X5 hx 10 (hb hby d16_7) (by decide) rfl ?_
  refine P.aloadN X5 hx 11 (hb hby d16_10) rfl rfl rfl ?_
  refine P.iloadN X5 hx 12 (hb hby d16_11) rfl rfl ?_
  have F8 : Arv Z h5 b kb .char (3 : Int32) [(.int c0), (.int c1), (.int c2)] (.int 0) := (F4.other W5 hbd)
  refine WS.cld X5 hx F8 (j := (2 : Int32)) (x := c2) (by decide) rfl (hb hby d16_12) ?_
  refine P.istore X5 hx 15 #[.val (.ref b), .val (.int 2), .val (.ref d), .val (.int 2), .val (.int 3), .val (.int 2), .val (.int c2)] (hb hby d16_13) rfl rfl ?_
  refine P.iload X5 hx 17 (hb hby d16_15) rfl rfl ?_
  refine P.sipush X5 hx 20 255 (hb hby d16_17) rfl rfl ?_
  refine P.icmpNo X5 hx 23 (hb hby d16_20) (tlt hm2).2.2.2 rfl ?_
  refine P.iload X5 hx 25 (hb hby d16_23) rfl rfl ?_
  exact WS.retI X5 (WL' := []) (FL' := []) hx hret hlk (hb hby d16_25) (nle rfl) (nle rfl) ⟨rfl, rfl, rfl, K6⟩
def Q_cm332 (Z : State) (gC : Int32) (gF : Value) (b : Addr) (kb : ClassId) (c0 : Int32) (c1 : Int32) (c2 : Int32) (h : Heap) (v : Option Value) (h' : Heap) (WL' FL' : List Addr) : Prop := ∃ u : Addr, ∃ ku : ClassId, v = some (.ref u) ∧ WL' = [u] ∧ FL' = [] ∧ Keep h h' [] ∧ h.size ≤ u ∧ Arv Z h' u ku .byte (6 : Int32) [(.int (c0.toInt8.toInt32)), (.int ((c0 >>> ((8 : Int32) &&& 31)).toInt8.toInt32)), (.int (c1.toInt8.toInt32)), (.int ((c1 >>> ((8 : Int32) &&& 31)).toInt8.toInt32)), (.int (c2.toInt8.toInt32)), (.int ((c2 >>> ((8 : Int32) &&& 31)).toInt8.toInt32))] (.int 0)
theorem ct_cm332 {l : Launch} {Z : State} {a0 : Array Value} {gC : Int32} {gF : Value} (cx : Cx a0 Z gC gF) {n0 : Nat} (b : Addr) (kb : ClassId) (c0 : Int32) (c1 : Int32) (c2 : Int32) (h : Heap) (WL FL : List Addr) (P0 : Arv Z h b kb .char (3 : Int32) [(.int c0), (.int c1), (.int c2)] (.int 0)) (P1 : b ∈ FL) (hr_c0 : ¬ c0 < 0 ∧ ¬ (65535 : Int32) < c0) (hr_c1 : ¬ c1 < 0 ∧ ¬ (65535 : Int32) < c1) (hr_c2 : ¬ c2 < 0 ∧ ¬ (65535 : Int32) < c2) (hm0 : ¬ ((255 : Int32) < c0)) (hm1 : ¬ ((255 : Int32) < c1)) (hm2 : (255 : Int32) < c2) :
    Ct l Z EL1 n0 (⟨"java/lang/StringUTF16", "compress", "([CII)[B"⟩ : MethodName) jdk_52_method_16_code 6 (Option.some (Jvm.ClassFile.FieldType.array Jvm.ClassFile.FieldType.byte)) ({ frames := 3, cells := 2, slots := 9, locals := 40 } : Room) #[(.ref b), (.int 0), (.int 3)] h WL FL (Q_cm332 Z gC gF b kb c0 c1 c2 h) := by
  refine Ct.of (plainFor_of_name pn1) ?_
  intro p e s m below meth c s1 hx hby hml hnm hret hlk X0
  refine Wo.cast (f' := (mkF m 0 #[.val (.ref b), .val (.int 0), .val (.int 3), .unset, .unset, .unset] [])) (by rfl) ?_
  have K0 : Keep h h [] := Keep.refl _ _
  show Wo _ _ _ _ _ _ _ _ _ _ _ s1 (mkF m 0 #[.val (.ref b), .val (.int 0), .val (.int 3), .unset, .unset, .unset] [])
  refine P.iloadN X0 hx 1 (hb hby d15_0) rfl rfl ?_
  refine X0.newP (aty := .byte) hx (w20 cx) (hb hby d15_1) (by decide) (cap := 3) (nle rfl) (nle rfl) (nle rfl) (nle rfl) ?_
  intro T1 h1 a1 k1 X1 E1 g1 A1
  have ge2 : h.size ≤ a1 := Nat.le_trans K0.1 g1
  have K3 : Keep h h1 [] := K0.ext E1
  have V4 : Arv Z h1 a1 k1 .byte (3 : Int32) [(.int 0), (.int 0), (.int 0)] (.int 0) := Arv.pad A1 (pad_rep [] _ 3)
  refine P.astoreN X1 hx 4 #[.val (.ref b), .val (.int 0), .val (.int 3), .val (.ref a1), .unset, .unset] (hb hby d15_3) rfl rfl rfl ?_
  refine P.aloadN X1 hx 5 (hb hby d15_4) rfl rfl rfl ?_
  refine P.iloadN X1 hx 6 (hb hby d15_5) rfl rfl ?_
  refine P.aloadN X1 hx 7 (hb hby d15_6) rfl rfl rfl ?_
  refine P.iconst X1 hx 8 0 (hb hby d15_7) rfl rfl ?_
  refine P.iloadN X1 hx 9 (hb hby d15_8) rfl rfl ?_
  have F5 : Arv Z h1 b kb .char (3 : Int32) [(.int c0), (.int c1), (.int c2)] (.int 0) := (P0.ext E1)
  refine X1.callS hx (w75 cx) (w76 cx) (w73 cx) (w77 cx) (by decide) (Ct.pay (W := 0) (ct_cmi32 cx b kb a1 k1 c0 c1 c2 h1 _ _ F5 V4 (List.mem_of_getElem? (i := 0) rfl) (X1.neF P1 (List.mem_of_getElem? (i := 0) rfl)) hm0 hm1 hm2) (w77 cx) (w73 cx) (nle rfl) (nle rfl)) (by rw [hml]; rfl) (argsL := [.ref b, .int 0, .ref a1, .int 0, .int 3]) (rest := []) (lenOf pd4 rfl) rfl rfl (Nat.le_of_eq rfl) (hb hby d15_9) (nle rfl) (nle rfl) ?_
  rintro T6 h6 _ _ _ X6 ⟨rfl, rfl, rfl, J6⟩
  have K7 : Keep h h6 [] := K3.trans J6 (allS (Or.inr ge2) all0)
  refine P.istore X6 hx 14 #[.val (.ref b), .val (.int 0), .val (.int 3), .val (.ref a1), .val (.int 2), .unset] (hb hby d15_12) rfl rfl ?_
  refine P.iload X6 hx 16 (hb hby d15_14) rfl rfl ?_
  refine P.iloadN X6 hx 17 (hb hby d15_16) rfl rfl ?_
  refine P.icmpNo X6 hx 20 (hb hby d15_17) (by decide) rfl ?_
  refine P.aloadN X6 hx 21 (hb hby d15_20) rfl rfl rfl ?_
  refine P.iloadN X6 hx 22 (hb hby d15_21) rfl rfl ?_
  refine P.iloadN X6 hx 23 (hb hby d15_22) rfl rfl ?_
  have F8 : Arv Z h6 b kb .char (3 : Int32) [(.int c0), (.int c1), (.int c2)] (.int 0) := (F5.keep J6 (ninS (X6.neF P1 (List.mem_of_getElem? (i := 0) rfl)) nin0))
  refine X6.callS hx (w87 cx) (w88 cx) (w73 cx) (w89 cx) (by decide) (Ct.pay (W := 0) (ct_tob3 cx b kb c0 c1 c2 h6 _ _ F8 P1) (w89 cx) (w73 cx) (nle rfl) (nle rfl)) (by rw [hml]; rfl) (argsL := [.ref b, .int 0, .int 3]) (rest := []) (lenOf pd5 rfl) rfl rfl (Nat.le_of_eq rfl) (hb hby d15_23) (nle rfl) (nle rfl) ?_
  rintro T9 h9 _ _ _ X9 ⟨a10, k11, rfl, rfl, rfl, J9, g13, G12⟩
  have ge14 : h.size ≤ a10 := Nat.le_trans K7.1 g13
  have K15 : Keep h h9 [] := K7.trans J9 all0
  refine P.astore X9 hx 28 #[.val (.ref b), .val (.int 0), .val (.int 3), .val (.ref a1), .val (.int 2), .val (.ref a10)] (hb hby d15_26) rfl rfl rfl ?_
  refine P.aload X9 hx 30 (hb hby d15_28) rfl rfl rfl ?_
  refine P.iload X9 hx 32 (hb hby d15_30) rfl rfl ?_
  refine X9.callS hx (w103 cx) (w104 cx) (w73 cx) (w105 cx) (by decide) (Ct.pay (W := 0) (ct_getc32 cx a10 k11 c0 c1 c2 h9 _ _ G12 hr_c2) (w105 cx) (w73 cx) (nle rfl) (nle rfl)) (by rw [hml]; rfl) (argsL := [.ref a10, .int 2]) (rest := []) (lenOf pd6 rfl) rfl rfl (Nat.le_of_eq rfl) (hb hby d15_32) (nle rfl) (nle rfl) ?_
  rintro T16 h16 _ _ _ X16 ⟨rfl, rfl, rfl, J16⟩
  rw [J16] at X16
  refine P.sipush X16 hx 38 255 (hb hby d15_35) rfl rfl ?_
  refine P.icmpYes X16 hx 54 (hb hby d15_38) (tlt hm2).2.2.1 (by decide) (by decide) ?_
  refine P.aload X16 hx 56 (hb hby d15_54) rfl rfl rfl ?_
  have X17 := WS.drop (A := [a10]) (B := WL) X16
  have X18 := WS.fl (FL2 := FL) X17 (fun y hy => (List.mem_append_right [a1] hy))
  exact WS.retA X18 (WL' := [a10]) (FL' := []) hx hret rfl rfl hlk (hb hby d15_56) (nle rfl) (nle rfl) ⟨a10, k11, rfl, rfl, rfl, K15, ge14, G12⟩
def Q_s4U32 (Z : State) (gC : Int32) (gF : Value) (x : Addr) (b : Addr) (kb : ClassId) (c0 : Int32) (c1 : Int32) (c2 : Int32) (h : Heap) (v : Option Value) (h' : Heap) (WL' FL' : List Addr) : Prop := ∃ u : Addr, ∃ ku : ClassId, v = none ∧ WL' = [] ∧ FL' = [u] ∧ Keep h h' [x] ∧ Fld Z h' x "java/lang/String" "value" "[B" (.ref u) ∧ Fld Z h' x "java/lang/String" "coder" "B" (.int 1) ∧ Arv Z h' u ku .byte (6 : Int32) [(.int (c0.toInt8.toInt32)), (.int ((c0 >>> ((8 : Int32) &&& 31)).toInt8.toInt32)), (.int (c1.toInt8.toInt32)), (.int ((c1 >>> ((8 : Int32) &&& 31)).toInt8.toInt32)), (.int (c2.toInt8.toInt32)), (.int ((c2 >>> ((8 : Int32) &&& 31)).toInt8.toInt32))] (.int 0)
theorem ct_s4U32 {l : Launch} {Z : State} {a0 : Array Value} {gC : Int32} {gF : Value} (cx : Cx a0 Z gC gF) {n0 : Nat} (x : Addr) (b : Addr) (kb : ClassId) (c0 : Int32) (c1 : Int32) (c2 : Int32) (h : Heap) (WL FL : List Addr) (P0 : Exa Z h x "java/lang/String") (P1 : Fld Z h x "java/lang/String" "value" "[B" .null) (P2 : Fld Z h x "java/lang/String" "coder" "B" (.int 0)) (P3 : x ∈ WL) (P4 : Arv Z h b kb .char (3 : Int32) [(.int c0), (.int c1), (.int c2)] (.int 0)) (P5 : b ∈ FL) (hr_c0 : ¬ c0 < 0 ∧ ¬ (65535 : Int32) < c0) (hr_c1 : ¬ c1 < 0 ∧ ¬ (65535 : Int32) < c1) (hr_c2 : ¬ c2 < 0 ∧ ¬ (65535 : Int32) < c2) (hm0 : ¬ ((255 : Int32) < c0)) (hm1 : ¬ ((255 : Int32) < c1)) (hm2 : (255 : Int32) < c2) :
    Ct l Z EL1 n0 (⟨"java/lang/String", "<init>", "([CIILjava/lang/Void;)V"⟩ : MethodName) jdk_42_method_149_code 6 (Option.none : Option Jvm.ClassFile.FieldType) ({ frames := 4, cells := 2, slots := 9, locals := 57 } : Room) #[(.ref x), (.ref b), (.int 0), (.int 3), .null] h WL FL (Q_s4U32 Z gC gF x b kb c0 c1 c2 h) := by
  refine Ct.of (plainFor_of_name pn0) ?_
  intro p e s m below meth c s1 hx hby hml hnm hret hlk X0
  refine Wo.cast (f' := (mkF m 0 #[.val (.ref x), .val (.ref b), .val (.int 0), .val (.int 3), .val .null, .unset] [])) (by rfl) ?_
  have K0 : Keep h h [x] := Keep.refl _ _
  show Wo _ _ _ _ _ _ _ _ _ _ _ s1 (mkF m 0 #[.val (.ref x), .val (.ref b), .val (.int 0), .val (.int 3), .val .null, .unset] [])
  refine P.aloadN X0 hx 1 (hb hby d3_0) rfl rfl rfl ?_
  refine X0.initO hx (w16 cx) (w17 cx) (w18 cx) (by rw [hml]; rfl) (hb hby d3_1) (nle rfl) (W := 0) (Nat.le_of_eq rfl) (nle rfl) ?_
  intro T1 X1
  refine P.iloadN X1 hx 5 (hb hby d3_4) rfl rfl ?_
  refine P.ifYes X1 hx 27 (hb hby d3_5) (by decide) (by decide) (by decide) ?_
  refine X1.getS hx (w46 cx) Via.refl (S_C cx) (hb hby d3_27) ?_
  intro T2 X2
  refine P.ifNo X2 hx 33 (hb hby d3_30) ((if0 _ _).trans (feq (N_C cx)).1) rfl ?_
  refine P.aloadN X2 hx 34 (hb hby d3_33) rfl rfl rfl ?_
  refine P.iloadN X2 hx 35 (hb hby d3_34) rfl rfl ?_
  refine P.iloadN X2 hx 36 (hb hby d3_35) rfl rfl ?_
  refine X2.callS hx (w71 cx) (w72 cx) (w73 cx) (w74 cx) (by decide) (Ct.pay (W := 0) (ct_cm332 cx b kb c0 c1 c2 h _ _ P4 P5 hr_c0 hr_c1 hr_c2 hm0 hm1 hm2) (w74 cx) (w73 cx) (nle rfl) (nle rfl)) (by rw [hml]; rfl) (argsL := [.ref b, .int 0, .int 3]) (rest := []) (lenOf pd5 rfl) rfl rfl (Nat.le_of_eq rfl) (hb hby d3_36) (nle rfl) (nle rfl) ?_
  rintro T3 h3 _ _ _ X3 ⟨a4, k5, rfl, rfl, rfl, J3, g7, G6⟩
  have ge8 : h.size ≤ a4 := Nat.le_trans K0.1 g7
  have K9 : Keep h h3 [x] := K0.trans J3 all0
  refine P.astore X3 hx 41 #[.val (.ref x), .val (.ref b), .val (.int 0), .val (.int 3), .val .null, .val (.ref a4)] (hb hby d3_39) rfl rfl rfl ?_
  refine P.aloadN X3 hx 42 (hb hby d3_41) rfl rfl rfl ?_
  refine P.aload X3 hx 44 (hb hby d3_42) rfl rfl rfl ?_
  refine P.iloadN X3 hx 45 (hb hby d3_44) rfl rfl ?_
  refine X3.callS hx (w78 cx) (w79 cx) (w73 cx) (w80 cx) (by decide) (Ct.pay (W := 1) (ct_codU3 cx a4 k5 _ h3 _ _ G6) (w80 cx) (w73 cx) (nle rfl) (nle rfl)) (by rw [hml]; rfl) (argsL := [.ref a4, .int 3]) (rest := [.ref x]) (lenOf pd7 rfl) rfl rfl (Nat.le_of_eq rfl) (hb hby d3_45) (nle rfl) (nle rfl) ?_
  rintro T10 h10 _ _ _ X10 ⟨rfl, rfl, rfl, J10⟩
  rw [J10] at X10
  have F11 : Fld Z h3 x "java/lang/String" "coder" "B" (.int 0) := (P2.keep J3 nin0)
  have F12 : Exa Z h3 x "java/lang/String" := (P0.keep J3)
  refine X10.putF hx (host := "") (Or.inl (w26 cx)) Via.refl F11 F12 (Or.inr ⟨(w22 cx), rfl, hnm⟩) (w6 cx) (ty := .byte) (by decide) rfl rfl (List.mem_cons_of_mem _ P3) (hb hby d3_48) ?_
  intro T13 h13 X13 W13 G13
  have K14 : Keep h h13 [x] := K9.wr W13 (Or.inl (List.mem_of_getElem? (i := 0) rfl))
  refine P.aloadN X13 hx 52 (hb hby d3_51) rfl rfl rfl ?_
  refine P.aload X13 hx 54 (hb hby d3_52) rfl rfl rfl ?_
  have F15 : Fld Z h13 x "java/lang/String" "value" "[B" .null := ((P1.keep J3 nin0).other W13 (Or.inr (slot_ne (Or.inr (w21 cx)) (Or.inr (w22 cx)) (by decide) (t := (.array .byte)) (t' := .byte) (by decide) (by decide))))
  have F16 : Exa Z h13 x "java/lang/String" := (F12.wr W13)
  refine X13.putF hx (host := "") (Or.inl (w25 cx)) Via.refl F15 F16 (Or.inr ⟨(w21 cx), rfl, hnm⟩) (w6 cx) (ty := (.array .byte)) (by decide) rfl rfl (List.mem_cons_of_mem _ P3) (hb hby d3_54) ?_
  intro T17 h17 X17 W17 G17
  have K18 : Keep h h17 [x] := K14.wr W17 (Or.inl (List.mem_of_getElem? (i := 0) rfl))
  have F19 : Arv Z h17 a4 k5 .byte (6 : Int32) [(.int (c0.toInt8.toInt32)), (.int ((c0 >>> ((8 : Int32) &&& 31)).toInt8.toInt32)), (.int (c1.toInt8.toInt32)), (.int ((c1 >>> ((8 : Int32) &&& 31)).toInt8.toInt32)), (.int (c2.toInt8.toInt32)), (.int ((c2 >>> ((8 : Int32) &&& 31)).toInt8.toInt32))] (.int 0) := ((G6.other W13 (X17.neT (A := [a4]) (B := WL) (List.mem_of_getElem? (i := 0) rfl) P3)).other W17 (X17.neT (A := [a4]) (B := WL) (List.mem_of_getElem? (i := 0) rfl) P3))
  have F20 : Fld Z h17 x "java/lang/String" "coder" "B" (.int 1) := (G13.other W17 (Or.inr (slot_ne (Or.inr (w22 cx)) (Or.inr (w21 cx)) (by decide) (t := .byte) (t' := (.array .byte)) (by decide) (by decide))))
  have X21 := WS.drop (A := []) (B := WL) X17
  exact WS.retV X21 (WL' := []) (FL' := [a4]) hx hret hlk (hb hby d3_57) (nle rfl) (nle rfl) ⟨a4, k5, rfl, rfl, rfl, K18, G17, F20, F19⟩
def Q_s1U3 (Z : State) (gC : Int32) (gF : Value) (x : Addr) (b : Addr) (kb : ClassId) (c0 : Int32) (c1 : Int32) (c2 : Int32) (h : Heap) (v : Option Value) (h' : Heap) (WL' FL' : List Addr) : Prop := ∃ u : Addr, ∃ ku : ClassId, v = none ∧ WL' = [] ∧ FL' = [u] ∧ Keep h h' [x] ∧ Fld Z h' x "java/lang/String" "value" "[B" (.ref u) ∧ Fld Z h' x "java/lang/String" "coder" "B" (.int 1) ∧ Arv Z h' u ku .byte (6 : Int32) [(.int (c0.toInt8.toInt32)), (.int ((c0 >>> ((8 : Int32) &&& 31)).toInt8.toInt32)), (.int (c1.toInt8.toInt32)), (.int ((c1 >>> ((8 : Int32) &&& 31)).toInt8.toInt32)), (.int (c2.toInt8.toInt32)), (.int ((c2 >>> ((8 : Int32) &&& 31)).toInt8.toInt32))] (.int 0)
theorem ct_s1U3_0 {l : Launch} {Z : State} {a0 : Array Value} {gC : Int32} {gF : Value} (cx : Cx a0 Z gC gF) {n0 : Nat} (x : Addr) (b : Addr) (kb : ClassId) (c0 : Int32) (c1 : Int32) (c2 : Int32) (h : Heap) (WL FL : List Addr) (P0 : Exa Z h x "java/lang/String") (P1 : Fld Z h x "java/lang/String" "value" "[B" .null) (P2 : Fld Z h x "java/lang/String" "coder" "B" (.int 0)) (P3 : x ∈ WL) (P4 : Arv Z h b kb .char (3 : Int32) [(.int c0), (.int c1), (.int c2)] (.int 0)) (P5 : b ∈ FL) (hr_c0 : ¬ c0 < 0 ∧ ¬ (65535 : Int32) < c0) (hr_c1 : ¬ c1 < 0 ∧ ¬ (65535 : Int32) < c1) (hr_c2 : ¬ c2 < 0 ∧ ¬ (65535 : Int32) < c2) (hU : (255 : Int32) < c0 ∨ (255 : Int32) < c1 ∨ (255 : Int32) < c2) (hm0 : (255 : Int32) < c0) :
    Ct l Z EL1 n0 (⟨"java/lang/String", "<init>", "([C)V"⟩ : MethodName) jdk_42_method_3_code 2 (Option.none : Option Jvm.ClassFile.FieldType) ({ frames := 5, cells := 2, slots := 9, locals := 74 } : Room) #[(.ref x), (.ref b)] h WL FL (Q_s1U3 Z gC gF x b kb c0 c1 c2 h) := by
  refine Ct.of (plainFor_of_name pn0) ?_
  intro p e s m below meth c s1 hx hby hml hnm hret hlk X0
  refine Wo.cast (f' := (mkF m 0 #[.val (.ref x), .val (.ref b)] [])) (by rfl) ?_
  have K0 : Keep h h [x] := Keep.refl _ _
  show Wo _ _ _ _ _ _ _ _ _ _ _ s1 (mkF m 0 #[.val (.ref x), .val (.ref b)] [])
  refine P.aloadN X0 hx 1 (hb hby d2_0) rfl rfl rfl ?_
  refine P.aloadN X0 hx 2 (hb hby d2_1) rfl rfl rfl ?_
  refine P.iconst X0 hx 3 0 (hb hby d2_2) rfl rfl ?_
  refine P.aloadN X0 hx 4 (hb hby d2_3) rfl rfl rfl ?_
  refine WS.alen X0 hx P4 (hb hby d2_4) ?_
  refine P.aconstNull X0 hx 6 (hb hby d2_5) rfl ?_
  refine X0.callC hx rfl (w12 cx) (w13 cx) (w15 cx) (by decide) (Ct.pay (W := 0) (ct_s4U30 cx x b kb c0 c1 c2 h _ _ P0 P1 P2 P3 P4 P5 hr_c0 hr_c1 hr_c2 hm0) (w15 cx) (w7 cx) (nle rfl) (nle rfl)) (by rw [hml]; rfl) (argsL := [.ref b, .int 0, .int 3, .null]) (rest := []) (lenOf pd0 rfl) rfl rfl (Nat.le_of_eq rfl) (hb hby d2_6) (nle rfl) (nle rfl) ?_
  rintro T1 h1 _ _ _ X1 ⟨a2, k3, rfl, rfl, rfl, J1, G4, G5, G6⟩
  have K7 : Keep h h1 [x] := K0.trans J1 (allS (Or.inl (List.mem_of_getElem? (i := 0) rfl)) all0)
  exact WS.retV X1 (WL' := []) (FL' := [a2]) hx hret hlk (hb hby d2_9) (nle rfl) (nle rfl) ⟨a2, k3, rfl, rfl, rfl, K7, G4, G5, G6⟩
theorem ct_s1U3_1 {l : Launch} {Z : State} {a0 : Array Value} {gC : Int32} {gF : Value} (cx : Cx a0 Z gC gF) {n0 : Nat} (x : Addr) (b : Addr) (kb : ClassId) (c0 : Int32) (c1 : Int32) (c2 : Int32) (h : Heap) (WL FL : List Addr) (P0 : Exa Z h x "java/lang/String") (P1 : Fld Z h x "java/lang/String" "value" "[B" .null) (P2 : Fld Z h x "java/lang/String" "coder" "B" (.int 0)) (P3 : x ∈ WL) (P4 : Arv Z h b kb .char (3 : Int32) [(.int c0), (.int c1), (.int c2)] (.int 0)) (P5 : b ∈ FL) (hr_c0 : ¬ c0 < 0 ∧ ¬ (65535 : Int32) < c0) (hr_c1 : ¬ c1 < 0 ∧ ¬ (65535 : Int32) < c1) (hr_c2 : ¬ c2 < 0 ∧ ¬ (65535 : Int32) < c2) (hU : (255 : Int32) < c0 ∨ (255 : Int32) < c1 ∨ (255 : Int32) < c2) (hm0 : ¬ (255 : Int32) < c0) (hm1 : (255 : Int32) < c1) :
    Ct l Z EL1 n0 (⟨"java/lang/String", "<init>", "([C)V"⟩ : MethodName) jdk_42_method_3_code 2 (Option.none : Option Jvm.ClassFile.FieldType) ({ frames := 5, cells := 2, slots := 9, locals := 74 } : Room) #[(.ref x), (.ref b)] h WL FL (Q_s1U3 Z gC gF x b kb c0 c1 c2 h) := by
  refine Ct.of (plainFor_of_name pn0) ?_
  intro p e s m below meth c s1 hx hby hml hnm hret hlk X0
  refine Wo.cast (f' := (mkF m 0 #[.val (.ref x), .val (.ref b)] [])) (by rfl) ?_
  have K0 : Keep h h [x] := Keep.refl _ _
  show Wo _ _ _ _ _ _ _ _ _ _ _ s1 (mkF m 0 #[.val (.ref x), .val (.ref b)] [])
  refine P.aloadN X0 hx 1 (hb hby d2_0) rfl rfl rfl ?_
  refine P.aloadN X0 hx 2 (hb hby d2_1) rfl rfl rfl ?_
  refine P.iconst X0 hx 3 0 (hb hby d2_2) rfl rfl ?_
  refine P.aloadN X0 hx 4 (hb hby d2_3) rfl rfl rfl ?_
  refine WS.alen X0 hx P4 (hb hby d2_4) ?_
  refine P.aconstNull X0 hx 6 (hb hby d2_5) rfl ?_
  refine X0.callC hx rfl (w12 cx) (w13 cx) (w15 cx) (by decide) (Ct.pay (W := 0) (ct_s4U31 cx x b kb c0 c1 c2 h _ _ P0 P1 P2 P3 P4 P5 hr_c0 hr_c1 hr_c2 hm0 hm1) (w15 cx) (w7 cx) (nle rfl) (nle rfl)) (by rw [hml]; rfl) (argsL := [.ref b, .int 0, .int 3, .null]) (rest := []) (lenOf pd0 rfl) rfl rfl (Nat.le_of_eq rfl) (hb hby d2_6) (nle rfl) (nle rfl) ?_
  rintro T1 h1 _ _ _ X1 ⟨a2, k3, rfl, rfl, rfl, J1, G4, G5, G6⟩
  have K7 : Keep h h1 [x] := K0.trans J1 (allS (Or.inl (List.mem_of_getElem? (i := 0) rfl)) all0)
  exact WS.retV X1 (WL' := []) (FL' := [a2]) hx hret hlk (hb hby d2_9) (nle rfl) (nle rfl) ⟨a2, k3, rfl, rfl, rfl, K7, G4, G5, G6⟩
theorem ct_s1U3_2 {l : Launch} {Z : State} {a0 : Array Value} {gC : Int32} {gF : Value} (cx : Cx a0 Z gC gF) {n0 : Nat} (x : Addr) (b : Addr) (kb : ClassId) (c0 : Int32) (c1 : Int32) (c2 : Int32) (h : Heap) (WL FL : List Addr) (P0 : Exa Z h x "java/lang/String") (P1 : Fld Z h x "java/lang/String" "value" "[B" .null) (P2 : Fld Z h x "java/lang/String" "coder" "B" (.int 0)) (P3 : x ∈ WL) (P4 : Arv Z h b kb .char (3 : Int32) [(.int c0), (.int c1), (.int c2)] (.int 0)) (P5 : b ∈ FL) (hr_c0 : ¬ c0 < 0 ∧ ¬ (65535 : Int32) < c0) (hr_c1 : ¬ c1 < 0 ∧ ¬ (65535 : Int32) < c1) (hr_c2 : ¬ c2 < 0 ∧ ¬ (65535 : Int32) < c2) (hU : (255 : Int32) < c0 ∨ (255 : Int32) < c1 ∨ (255 : Int32) < c2) (hm0 : ¬ (255 : Int32) < c0) (hm1 : ¬ (255 : Int32) < c1) (hm2 : (255 : Int32) < c2) :
    Ct l Z EL1 n0 (⟨"java/lang/String", "<init>", "([C)V"⟩ : MethodName) jdk_42_method_3_code 2 (Option.none : Option Jvm.ClassFile.FieldType) ({ frames := 5, cells := 2, slots := 9, locals := 74 } : Room) #[(.ref x), (.ref b)] h WL FL (Q_s1U3 Z gC gF x b kb c0 c1 c2 h) := by
  refine Ct.of (plainFor_of_name pn0) ?_
  intro p e s m below meth c s1 hx hby hml hnm hret hlk X0
  refine Wo.cast (f' := (mkF m 0 #[.val (.ref x), .val (.ref b)] [])) (by rfl) ?_
  have K0 : Keep h h [x] := Keep.refl _ _
  show Wo _ _ _ _ _ _ _ _ _ _ _ s1 (mkF m 0 #[.val (.ref x), .val (.ref b)] [])
  refine P.aloadN X0 hx 1 (hb hby d2_0) rfl rfl rfl ?_
  refine P.aloadN X0 hx 2 (hb hby d2_1) rfl rfl rfl ?_
  refine P.iconst X0 hx 3 0 (hb hby d2_2) rfl rfl ?_
  refine P.aloadN X0 hx 4 (hb hby d2_3) rfl rfl rfl ?_
  refine WS.alen X0 hx P4 (hb hby d2_4) ?_
  refine P.aconstNull X0 hx 6 (hb hby d2_5) rfl ?_
  refine X0.callC hx rfl (w12 cx) (w13 cx) (w15 cx) (by decide) (Ct.pay (W := 0) (ct_s4U32 cx x b kb c0 c1 c2 h _ _ P0 P1 P2 P3 P4 P5 hr_c0 hr_c1 hr_c2 hm0 hm1 hm2) (w15 cx) (w7 cx) (nle rfl) (nle rfl)) (by rw [hml]; rfl) (argsL := [.ref b, .int 0, .int 3, .null]) (rest := []) (lenOf pd0 rfl) rfl rfl (Nat.le_of_eq rfl) (hb hby d2_6) (nle rfl) (nle rfl) ?_
  rintro T1 h1 _ _ _ X1 ⟨a2, k3, rfl, rfl, rfl, J1, G4, G5, G6⟩
  have K7 : Keep h h1 [x] := K0.trans J1 (allS (Or.inl (List.mem_of_getElem? (i := 0) rfl)) all0)
  exact WS.retV X1 (WL' := []) (FL' := [a2]) hx hret hlk (hb hby d2_9) (nle rfl) (nle rfl) ⟨a2, k3, rfl, rfl, rfl, K7, G4, G5, G6⟩
theorem ct_s1U3 {l : Launch} {Z : State} {a0 : Array Value} {gC : Int32} {gF : Value} (cx : Cx a0 Z gC gF) {n0 : Nat} (x : Addr) (b : Addr) (kb : ClassId) (c0 : Int32) (c1 : Int32) (c2 : Int32) (h : Heap) (WL FL : List Addr) (P0 : Exa Z h x "java/lang/String") (P1 : Fld Z h x "java/lang/String" "value" "[B" .null) (P2 : Fld Z h x "java/lang/String" "coder" "B" (.int 0)) (P3 : x ∈ WL) (P4 : Arv Z h b kb .char (3 : Int32) [(.int c0), (.int c1), (.int c2)] (.int 0)) (P5 : b ∈ FL) (hr_c0 : ¬ c0 < 0 ∧ ¬ (65535 : Int32) < c0) (hr_c1 : ¬ c1 < 0 ∧ ¬ (65535 : Int32) < c1) (hr_c2 : ¬ c2 < 0 ∧ ¬ (65535 : Int32) < c2) (hU : (255 : Int32) < c0 ∨ (255 : Int32) < c1 ∨ (255 : Int32) < c2) :
    Ct l Z EL1 n0 (⟨"java/lang/String", "<init>", "([C)V"⟩ : MethodName) jdk_42_method_3_code 2 (Option.none : Option Jvm.ClassFile.FieldType) ({ frames := 5, cells := 2, slots := 9, locals := 74 } : Room) #[(.ref x), (.ref b)] h WL FL (Q_s1U3 Z gC gF x b kb c0 c1 c2 h) := by
  by_cases hm0 : (255 : Int32) < c0
  · exact ct_s1U3_0 cx x b kb c0 c1 c2 h WL FL P0 P1 P2 P3 P4 P5 hr_c0 hr_c1 hr_c2 hU hm0
  by_cases hm1 : (255 : Int32) < c1
  · exact ct_s1U3_1 cx x b kb c0 c1 c2 h WL FL P0 P1 P2 P3 P4 P5 hr_c0 hr_c1 hr_c2 hU hm0 hm1
  have hm2 : (255 : Int32) < c2 := by simp only [hm0, hm1, false_or] at hU; exact hU
  exact ct_s1U3_2 cx x b kb c0 c1 c2 h WL FL P0 P1 P2 P3 P4 P5 hr_c0 hr_c1 hr_c2 hU hm0 hm1 hm2
def Q_scodU (Z : State) (gC : Int32) (gF : Value) (x : Addr) (h : Heap) (v : Option Value) (h' : Heap) (WL' FL' : List Addr) : Prop := v = some (.int 1) ∧ WL' = [] ∧ FL' = [] ∧ h' = h
theorem ct_scodU {l : Launch} {Z : State} {a0 : Array Value} {gC : Int32} {gF : Value} (cx : Cx a0 Z gC gF) {n0 : Nat} (x : Addr) (h : Heap) (WL FL : List Addr) (P0 : Fld Z h x "java/lang/String" "coder" "B" (.int 1)) :
    Ct l Z EL1 n0 (⟨"java/lang/String", "coder", "()B"⟩ : MethodName) jdk_42_method_152_code 1 (Option.some Jvm.ClassFile.FieldType.byte) ({ frames := 0, cells := 0, slots := 0, locals := 0 } : Room) #[(.ref x)] h WL FL (Q_scodU Z gC gF x h) := by
  refine Ct.of (plainFor_of_name pn0) ?_
  intro p e s m below meth c s1 hx hby hml hnm hret hlk X0
  refine Wo.cast (f' := (mkF m 0 #[.val (.ref x)] [])) (by rfl) ?_
  show Wo _ _ _ _ _ _ _ _ _ _ _ s1 (mkF m 0 #[.val (.ref x)] [])
  refine X0.getS hx (w46 cx) Via.refl (S_C cx) (hb hby d10_0) ?_
  intro T1 X1
  refine P.ifNo X1 hx 6 (hb hby d10_3) ((if0 _ _).trans (feq (N_C cx)).1) rfl ?_
  refine P.aloadN X1 hx 7 (hb hby d10_6) rfl rfl rfl ?_
  refine X1.getF hx (host := "") (Or.inl (w26 cx)) Via.refl P0 (hb hby d10_7) ?_
  intro T2 X2
  refine P.goto X2 hx 14 (hb hby d10_10) (by decide) (by decide) ?_
  exact WS.retN X2 (WL' := []) (FL' := []) hx (t := .byte) hret (by simp) hlk (hb hby d10_14) (nle rfl) (nle rfl) ⟨rfl, rfl, rfl, rfl⟩
def Q_isLU (Z : State) (gC : Int32) (gF : Value) (x : Addr) (h : Heap) (v : Option Value) (h' : Heap) (WL' FL' : List Addr) : Prop := v = some (.int 0) ∧ WL' = [] ∧ FL' = [] ∧ h' = h
theorem ct_isLU {l : Launch} {Z : State} {a0 : Array Value} {gC : Int32} {gF : Value} (cx : Cx a0 Z gC gF) {n0 : Nat} (x : Addr) (h : Heap) (WL FL : List Addr) (P0 : Fld Z h x "java/lang/String" "coder" "B" (.int 1)) :
    Ct l Z EL1 n0 (⟨"java/lang/String", "isLatin1", "()Z"⟩ : MethodName) jdk_42_method_154_code 1 (Option.some Jvm.ClassFile.FieldType.boolean) ({ frames := 0, cells := 0, slots := 0, locals := 0 } : Room) #[(.ref x)] h WL FL (Q_isLU Z gC gF x h) := by
  refine Ct.of (plainFor_of_name pn0) ?_
  intro p e s m below meth c s1 hx hby hml hnm hret hlk X0
  refine Wo.cast (f' := (mkF m 0 #[.val (.ref x)] [])) (by rfl) ?_
  show Wo _ _ _ _ _ _ _ _ _ _ _ s1 (mkF m 0 #[.val (.ref x)] [])
  refine X0.getS hx (w46 cx) Via.refl (S_C cx) (hb hby d8_0) ?_
  intro T1 X1
  refine P.ifNo X1 hx 6 (hb hby d8_3) ((if0 _ _).trans (feq (N_C cx)).1) rfl ?_
  refine P.aloadN X1 hx 7 (hb hby d8_6) rfl rfl rfl ?_
  refine X1.getF hx (host := "") (Or.inl (w26 cx)) Via.refl P0 (hb hby d8_7) ?_
  intro T2 X2
  refine P.ifYes X2 hx 17 (hb hby d8_10) (by decide) (by decide) (by decide) ?_
  refine P.iconst X2 hx 18 0 (hb hby d8_17) rfl rfl ?_
  exact WS.retN X2 (WL' := []) (FL' := []) hx (t := .boolean) hret (by simp) hlk (hb hby d8_18) (nle rfl) (nle rfl) ⟨rfl, rfl, rfl, rfl⟩
def Q_ulen1 (Z : State) (gC : Int32) (gF : Value) (u : Addr) (ku : ClassId) (vs : List Value) (h : Heap) (v : Option Value) (h' : Heap) (WL' FL' : List Addr) : Prop := v = some (.int 1) ∧ WL' = [] ∧ FL' = [] ∧ h' = h
theorem ct_ulen1 {l : Launch} {Z : State} {a0 : Array Value} {gC : Int32} {gF : Value} (cx : Cx a0 Z gC gF) {n0 : Nat} (u : Addr) (ku : ClassId) (vs : List Value) (h : Heap) (WL FL : List Addr) (P0 : Arv Z h u ku .byte (2 : Int32) vs (.int 0)) :
    Ct l Z EL1 n0 (⟨"java/lang/StringUTF16", "length", "([B)I"⟩ : MethodName) jdk_52_method_6_code 1 (Option.some Jvm.ClassFile.FieldType.int) ({ frames := 0, cells := 0, slots := 0, locals := 0 } : Room) #[(.ref u)] h WL FL (Q_ulen1 Z gC gF u ku vs h) := by
  refine Ct.of (plainFor_of_name pn1) ?_
  intro p e s m below meth c s1 hx hby hml hnm hret hlk X0
  refine Wo.cast (f' := (mkF m 0 #[.val (.ref u)] [])) (by rfl) ?_
  show Wo _ _ _ _ _ _ _ _ _ _ _ s1 (mkF m 0 #[.val (.ref u)] [])
  refine P.aloadN X0 hx 1 (hb hby d28_0) rfl rfl rfl ?_
  refine WS.alen X0 hx P0 (hb hby d28_1) ?_
  refine P.iconst X0 hx 3 1 (hb hby d28_2) rfl rfl ?_
  refine P.ishr X0 hx 4 (z := (1 : Int32)) (hb hby d28_3) rfl rfl ?_
  exact WS.retI X0 (WL' := []) (FL' := []) hx hret hlk (hb hby d28_4) (nle rfl) (nle rfl) ⟨rfl, rfl, rfl, rfl⟩
def Q_slen1 (Z : State) (gC : Int32) (gF : Value) (x : Addr) (u : Addr) (ku : ClassId) (c0 : Int32) (h : Heap) (v : Option Value) (h' : Heap) (WL' FL' : List Addr) : Prop := v = some (.int 1) ∧ WL' = [] ∧ FL' = [] ∧ h' = h
theorem ct_slen1 {l : Launch} {Z : State} {a0 : Array Value} {gC : Int32} {gF : Value} (cx : Cx a0 Z gC gF) {n0 : Nat} (x : Addr) (u : Addr) (ku : ClassId) (c0 : Int32) (h : Heap) (WL FL : List Addr) (P0 : Exa Z h x "java/lang/String") (P1 : Fld Z h x "java/lang/String" "value" "[B" (.ref u)) (P2 : Fld Z h x "java/lang/String" "coder" "B" (.int 1)) (P3 : Arv Z h u ku .byte (2 : Int32) [(.int (c0.toInt8.toInt32)), (.int ((c0 >>> ((8 : Int32) &&& 31)).toInt8.toInt32))] (.int 0)) :
    Ct l Z EL1 n0 (⟨"java/lang/String", "length", "()I"⟩ : MethodName) jdk_42_method_54_code 1 (Option.some Jvm.ClassFile.FieldType.int) ({ frames := 1, cells := 0, slots := 0, locals := 13 } : Room) #[(.ref x)] h WL FL (Q_slen1 Z gC gF x u ku c0 h) := by
  refine Ct.of (plainFor_of_name pn0) ?_
  intro p e s m below meth c s1 hx hby hml hnm hret hlk X0
  refine Wo.cast (f' := (mkF m 0 #[.val (.ref x)] [])) (by rfl) ?_
  show Wo _ _ _ _ _ _ _ _ _ _ _ s1 (mkF m 0 #[.val (.ref x)] [])
  refine P.aloadN X0 hx 1 (hb hby d9_0) rfl rfl rfl ?_
  refine X0.getF hx (host := "") (Or.inl (w25 cx)) Via.refl P1 (hb hby d9_1) ?_
  intro T1 X1
  refine WS.alen X1 hx P3 (hb hby d9_4) ?_
  refine P.aloadN X1 hx 6 (hb hby d9_5) rfl rfl rfl ?_
  refine X1.callV hx (w52 cx) (w53 cx) (w55 cx) (w54 cx) (fun _ hZ => nf hZ (w55 cx)) (by decide) P0 (Ct.pay (W := 1) (ct_scodU cx x h _ _ P2) (w56 cx) (w7 cx) (nle rfl) (nle rfl)) (by rw [hml]; rfl) (argsL := []) (rest := [.int 2]) (lenOf pd8 rfl) rfl rfl (Nat.le_of_eq rfl) (hb hby d9_6) (nle rfl) (nle rfl) ?_
  rintro T2 h2 _ _ _ X2 ⟨rfl, rfl, rfl, J2⟩
  rw [J2] at X2
  refine P.ishr X2 hx 10 (z := (1 : Int32)) (hb hby d9_9) rfl rfl ?_
  exact WS.retI X2 (WL' := []) (FL' := []) hx hret hlk (hb hby d9_10) (nle rfl) (nle rfl) ⟨rfl, rfl, rfl, rfl⟩
def Q_ulen2 (Z : State) (gC : Int32) (gF : Value) (u : Addr) (ku : ClassId) (vs : List Value) (h : Heap) (v : Option Value) (h' : Heap) (WL' FL' : List Addr) : Prop := v = some (.int 2) ∧ WL' = [] ∧ FL' = [] ∧ h' = h
theorem ct_ulen2 {l : Launch} {Z : State} {a0 : Array Value} {gC : Int32} {gF : Value} (cx : Cx a0 Z gC gF) {n0 : Nat} (u : Addr) (ku : ClassId) (vs : List Value) (h : Heap) (WL FL : List Addr) (P0 : Arv Z h u ku .byte (4 : Int32) vs (.int 0)) :
    Ct l Z EL1 n0 (⟨"java/lang/StringUTF16", "length", "([B)I"⟩ : MethodName) jdk_52_method_6_code 1 (Option.some Jvm.ClassFile.FieldType.int) ({ frames := 0, cells := 0, slots := 0, locals := 0 } : Room) #[(.ref u)] h WL FL (Q_ulen2 Z gC gF u ku vs h) := by
  refine Ct.of (plainFor_of_name pn1) ?_
  intro p e s m below meth c s1 hx hby hml hnm hret hlk X0
  refine Wo.cast (f' := (mkF m 0 #[.val (.ref u)] [])) (by rfl) ?_
  show Wo _ _ _ _ _ _ _ _ _ _ _ s1 (mkF m 0 #[.val (.ref u)] [])
  refine P.aloadN X0 hx 1 (hb hby d28_0) rfl rfl rfl ?_
  refine WS.alen X0 hx P0 (hb hby d28_1) ?_
  refine P.iconst X0 hx 3 1 (hb hby d28_2) rfl rfl ?_
  refine P.ishr X0 hx 4 (z := (2 : Int32)) (hb hby d28_3) rfl rfl ?_
  exact WS.retI X0 (WL' := []) (FL' := []) hx hret hlk (hb hby d28_4) (nle rfl) (nle rfl) ⟨rfl, rfl, rfl, rfl⟩
def Q_slen2 (Z : State) (gC : Int32) (gF : Value) (x : Addr) (u : Addr) (ku : ClassId) (c0 : Int32) (c1 : Int32) (h : Heap) (v : Option Value) (h' : Heap) (WL' FL' : List Addr) : Prop := v = some (.int 2) ∧ WL' = [] ∧ FL' = [] ∧ h' = h
theorem ct_slen2 {l : Launch} {Z : State} {a0 : Array Value} {gC : Int32} {gF : Value} (cx : Cx a0 Z gC gF) {n0 : Nat} (x : Addr) (u : Addr) (ku : ClassId) (c0 : Int32) (c1 : Int32) (h : Heap) (WL FL : List Addr) (P0 : Exa Z h x "java/lang/String") (P1 : Fld Z h x "java/lang/String" "value" "[B" (.ref u)) (P2 : Fld Z h x "java/lang/String" "coder" "B" (.int 1)) (P3 : Arv Z h u ku .byte (4 : Int32) [(.int (c0.toInt8.toInt32)), (.int ((c0 >>> ((8 : Int32) &&& 31)).toInt8.toInt32)), (.int (c1.toInt8.toInt32)), (.int ((c1 >>> ((8 : Int32) &&& 31)).toInt8.toInt32))] (.int 0)) :
    Ct l Z EL1 n0 (⟨"java/lang/String", "length", "()I"⟩ : MethodName) jdk_42_method_54_code 1 (Option.some Jvm.ClassFile.FieldType.int) ({ frames := 1, cells := 0, slots := 0, locals := 13 } : Room) #[(.ref x)] h WL FL (Q_slen2 Z gC gF x u ku c0 c1 h) := by
  refine Ct.of (plainFor_of_name pn0) ?_
  intro p e s m below meth c s1 hx hby hml hnm hret hlk X0
  refine Wo.cast (f' := (mkF m 0 #[.val (.ref x)] [])) (by rfl) ?_
  show Wo _ _ _ _ _ _ _ _ _ _ _ s1 (mkF m 0 #[.val (.ref x)] [])
  refine P.aloadN X0 hx 1 (hb hby d9_0) rfl rfl rfl ?_
  refine X0.getF hx (host := "") (Or.inl (w25 cx)) Via.refl P1 (hb hby d9_1) ?_
  intro T1 X1
  refine WS.alen X1 hx P3 (hb hby d9_4) ?_
  refine P.aloadN X1 hx 6 (hb hby d9_5) rfl rfl rfl ?_
  refine X1.callV hx (w52 cx) (w53 cx) (w55 cx) (w54 cx) (fun _ hZ => nf hZ (w55 cx)) (by decide) P0 (Ct.pay (W := 1) (ct_scodU cx x h _ _ P2) (w56 cx) (w7 cx) (nle rfl) (nle rfl)) (by rw [hml]; rfl) (argsL := []) (rest := [.int 4]) (lenOf pd8 rfl) rfl rfl (Nat.le_of_eq rfl) (hb hby d9_6) (nle rfl) (nle rfl) ?_
  rintro T2 h2 _ _ _ X2 ⟨rfl, rfl, rfl, J2⟩
  rw [J2] at X2
  refine P.ishr X2 hx 10 (z := (2 : Int32)) (hb hby d9_9) rfl rfl ?_
  exact WS.retI X2 (WL' := []) (FL' := []) hx hret hlk (hb hby d9_10) (nle rfl) (nle rfl) ⟨rfl, rfl, rfl, rfl⟩
def Q_ulen3 (Z : State) (gC : Int32) (gF : Value) (u : Addr) (ku : ClassId) (vs : List Value) (h : Heap) (v : Option Value) (h' : Heap) (WL' FL' : List Addr) : Prop := v = some (.int 3) ∧ WL' = [] ∧ FL' = [] ∧ h' = h
theorem ct_ulen3 {l : Launch} {Z : State} {a0 : Array Value} {gC : Int32} {gF : Value} (cx : Cx a0 Z gC gF) {n0 : Nat} (u : Addr) (ku : ClassId) (vs : List Value) (h : Heap) (WL FL : List Addr) (P0 : Arv Z h u ku .byte (6 : Int32) vs (.int 0)) :
    Ct l Z EL1 n0 (⟨"java/lang/StringUTF16", "length", "([B)I"⟩ : MethodName) jdk_52_method_6_code 1 (Option.some Jvm.ClassFile.FieldType.int) ({ frames := 0, cells := 0, slots := 0, locals := 0 } : Room) #[(.ref u)] h WL FL (Q_ulen3 Z gC gF u ku vs h) := by
  refine Ct.of (plainFor_of_name pn1) ?_
  intro p e s m below meth c s1 hx hby hml hnm hret hlk X0
  refine Wo.cast (f' := (mkF m 0 #[.val (.ref u)] [])) (by rfl) ?_
  show Wo _ _ _ _ _ _ _ _ _ _ _ s1 (mkF m 0 #[.val (.ref u)] [])
  refine P.aloadN X0 hx 1 (hb hby d28_0) rfl rfl rfl ?_
  refine WS.alen X0 hx P0 (hb hby d28_1) ?_
  refine P.iconst X0 hx 3 1 (hb hby d28_2) rfl rfl ?_
  refine P.ishr X0 hx 4 (z := (3 : Int32)) (hb hby d28_3) rfl rfl ?_
  exact WS.retI X0 (WL' := []) (FL' := []) hx hret hlk (hb hby d28_4) (nle rfl) (nle rfl) ⟨rfl, rfl, rfl, rfl⟩
def Q_slen3 (Z : State) (gC : Int32) (gF : Value) (x : Addr) (u : Addr) (ku : ClassId) (c0 : Int32) (c1 : Int32) (c2 : Int32) (h : Heap) (v : Option Value) (h' : Heap) (WL' FL' : List Addr) : Prop := v = some (.int 3) ∧ WL' = [] ∧ FL' = [] ∧ h' = h
theorem ct_slen3 {l : Launch} {Z : State} {a0 : Array Value} {gC : Int32} {gF : Value} (cx : Cx a0 Z gC gF) {n0 : Nat} (x : Addr) (u : Addr) (ku : ClassId) (c0 : Int32) (c1 : Int32) (c2 : Int32) (h : Heap) (WL FL : List Addr) (P0 : Exa Z h x "java/lang/String") (P1 : Fld Z h x "java/lang/String" "value" "[B" (.ref u)) (P2 : Fld Z h x "java/lang/String" "coder" "B" (.int 1)) (P3 : Arv Z h u ku .byte (6 : Int32) [(.int (c0.toInt8.toInt32)), (.int ((c0 >>> ((8 : Int32) &&& 31)).toInt8.toInt32)), (.int (c1.toInt8.toInt32)), (.int ((c1 >>> ((8 : Int32) &&& 31)).toInt8.toInt32)), (.int (c2.toInt8.toInt32)), (.int ((c2 >>> ((8 : Int32) &&& 31)).toInt8.toInt32))] (.int 0)) :
    Ct l Z EL1 n0 (⟨"java/lang/String", "length", "()I"⟩ : MethodName) jdk_42_method_54_code 1 (Option.some Jvm.ClassFile.FieldType.int) ({ frames := 1, cells := 0, slots := 0, locals := 13 } : Room) #[(.ref x)] h WL FL (Q_slen3 Z gC gF x u ku c0 c1 c2 h) := by
  refine Ct.of (plainFor_of_name pn0) ?_
  intro p e s m below meth c s1 hx hby hml hnm hret hlk X0
  refine Wo.cast (f' := (mkF m 0 #[.val (.ref x)] [])) (by rfl) ?_
  show Wo _ _ _ _ _ _ _ _ _ _ _ s1 (mkF m 0 #[.val (.ref x)] [])
  refine P.aloadN X0 hx 1 (hb hby d9_0) rfl rfl rfl ?_
  refine X0.getF hx (host := "") (Or.inl (w25 cx)) Via.refl P1 (hb hby d9_1) ?_
  intro T1 X1
  refine WS.alen X1 hx P3 (hb hby d9_4) ?_
  refine P.aloadN X1 hx 6 (hb hby d9_5) rfl rfl rfl ?_
  refine X1.callV hx (w52 cx) (w53 cx) (w55 cx) (w54 cx) (fun _ hZ => nf hZ (w55 cx)) (by decide) P0 (Ct.pay (W := 1) (ct_scodU cx x h _ _ P2) (w56 cx) (w7 cx) (nle rfl) (nle rfl)) (by rw [hml]; rfl) (argsL := []) (rest := [.int 6]) (lenOf pd8 rfl) rfl rfl (Nat.le_of_eq rfl) (hb hby d9_6) (nle rfl) (nle rfl) ?_
  rintro T2 h2 _ _ _ X2 ⟨rfl, rfl, rfl, J2⟩
  rw [J2] at X2
  refine P.ishr X2 hx 10 (z := (3 : Int32)) (hb hby d9_9) rfl rfl ?_
  exact WS.retI X2 (WL' := []) (FL' := []) hx hret hlk (hb hby d9_10) (nle rfl) (nle rfl) ⟨rfl, rfl, rfl, rfl⟩
def Q_draw (Z : State) (gC : Int32) (gF : Value) (q : Int32) (h : Heap) (v : Option Value) (h' : Heap) (WL' FL' : List Addr) : Prop := ∃ r : Int32, v = some (.int r) ∧ WL' = [] ∧ FL' = [] ∧ h' = h ∧ (¬ r < 0 ∧ ¬ (65535 : Int32) < r)
theorem ct_draw_0 {l : Launch} {Z : State} {a0 : Array Value} {gC : Int32} {gF : Value} (cx : Cx a0 Z gC gF) {n0 : Nat} (q : Int32) (h : Heap) (WL FL : List Addr)  (ek : (((q.toUInt32 >>> ((16 : Int32) &&& 31).toUInt32).toInt32) &&& (3 : Int32)) = (0 : Int32)) :
    Ct l Z EL1 n0 (⟨"com/example/lynceus/lynceus/BagIsPrintablePinLaw", "draw", "(I)C"⟩ : MethodName) method_2_code 2 (Option.some Jvm.ClassFile.FieldType.char) ({ frames := 0, cells := 0, slots := 0, locals := 0 } : Room) #[(.int q)] h WL FL (Q_draw Z gC gF q h) := by
  refine Ct.of (plainFor_of_name pn2) ?_
  intro p e s m below meth c s1 hx hby hml hnm hret hlk X0
  refine Wo.cast (f' := (mkF m 0 #[.val (.int q), .unset] [])) (by rfl) ?_
  show Wo _ _ _ _ _ _ _ _ _ _ _ s1 (mkF m 0 #[.val (.int q), .unset] [])
  refine P.iloadN X0 hx 1 (hb hby d1_0) rfl rfl ?_
  refine P.bipush X0 hx 3 16 (hb hby d1_1) rfl rfl ?_
  refine P.iushr X0 hx 4 (z := ((q.toUInt32 >>> ((16 : Int32) &&& 31).toUInt32).toInt32)) (hb hby d1_3) rfl rfl ?_
  refine P.iconst X0 hx 5 3 (hb hby d1_4) rfl rfl ?_
  refine P.iand X0 hx 6 (z := (0 : Int32)) (hb hby d1_5) (by rw [ek]) rfl ?_
  refine P.istoreN X0 hx 7 #[.val (.int q), .val (.int 0)] (hb hby d1_6) rfl rfl ?_
  refine P.iloadN X0 hx 8 (hb hby d1_7) rfl rfl ?_
  refine P.iconst X0 hx 9 1 (hb hby d1_8) rfl rfl ?_
  refine P.icmpYes X0 hx 15 (hb hby d1_9) (by decide) (by decide) (by decide) ?_
  refine P.iloadN X0 hx 16 (hb hby d1_15) rfl rfl ?_
  refine P.iconst X0 hx 17 2 (hb hby d1_16) rfl rfl ?_
  refine P.icmpYes X0 hx 23 (hb hby d1_17) (by decide) (by decide) (by decide) ?_
  refine P.iloadN X0 hx 24 (hb hby d1_23) rfl rfl ?_
  refine P.iconst X0 hx 25 3 (hb hby d1_24) rfl rfl ?_
  refine P.icmpYes X0 hx 31 (hb hby d1_25) (by decide) (by decide) (by decide) ?_
  refine P.iloadN X0 hx 32 (hb hby d1_31) rfl rfl ?_
  refine WS.ldcI X0 hx (w4 cx) (hb hby d1_32) ?_
  refine P.iand X0 hx 35 (z := (q &&& (65535 : Int32))) (hb hby d1_34) rfl rfl ?_
  refine P.i2c X0 hx 36 (z := ((q &&& (65535 : Int32)).toUInt32.toUInt16.toUInt32.toInt32)) (hb hby d1_35) rfl rfl ?_
  exact WS.retN X0 (WL' := []) (FL' := []) hx (t := .char) hret (by simp) hlk (hb hby d1_36) (nle rfl) (nle rfl) ⟨((q &&& (65535 : Int32)).toUInt32.toUInt16.toUInt32.toInt32), (by rw [narU (rgC _)]), rfl, rfl, rfl, (rgC _)⟩
theorem ct_draw_1 {l : Launch} {Z : State} {a0 : Array Value} {gC : Int32} {gF : Value} (cx : Cx a0 Z gC gF) {n0 : Nat} (q : Int32) (h : Heap) (WL FL : List Addr)  (ek : (((q.toUInt32 >>> ((16 : Int32) &&& 31).toUInt32).toInt32) &&& (3 : Int32)) = (1 : Int32)) :
    Ct l Z EL1 n0 (⟨"com/example/lynceus/lynceus/BagIsPrintablePinLaw", "draw", "(I)C"⟩ : MethodName) method_2_code 2 (Option.some Jvm.ClassFile.FieldType.char) ({ frames := 0, cells := 0, slots := 0, locals := 0 } : Room) #[(.int q)] h WL FL (Q_draw Z gC gF q h) := by
  refine Ct.of (plainFor_of_name pn2) ?_
  intro p e s m below meth c s1 hx hby hml hnm hret hlk X0
  refine Wo.cast (f' := (mkF m 0 #[.val (.int q), .unset] [])) (by rfl) ?_
  show Wo _ _ _ _ _ _ _ _ _ _ _ s1 (mkF m 0 #[.val (.int q), .unset] [])
  refine P.iloadN X0 hx 1 (hb hby d1_0) rfl rfl ?_
  refine P.bipush X0 hx 3 16 (hb hby d1_1) rfl rfl ?_
  refine P.iushr X0 hx 4 (z := ((q.toUInt32 >>> ((16 : Int32) &&& 31).toUInt32).toInt32)) (hb hby d1_3) rfl rfl ?_
  refine P.iconst X0 hx 5 3 (hb hby d1_4) rfl rfl ?_
  refine P.iand X0 hx 6 (z := (1 : Int32)) (hb hby d1_5) (by rw [ek]) rfl ?_
  refine P.istoreN X0 hx 7 #[.val (.int q), .val (.int 1)] (hb hby d1_6) rfl rfl ?_
  refine P.iloadN X0 hx 8 (hb hby d1_7) rfl rfl ?_
  refine P.iconst X0 hx 9 1 (hb hby d1_8) rfl rfl ?_
  refine P.icmpNo X0 hx 12 (hb hby d1_9) (by decide) rfl ?_
  refine P.bipush X0 hx 14 9 (hb hby d1_12) rfl rfl ?_
  exact WS.retN X0 (WL' := []) (FL' := []) hx (t := .char) hret (by simp) hlk (hb hby d1_14) (nle rfl) (nle rfl) ⟨(9 : Int32), rfl, rfl, rfl, rfl, (by decide)⟩
theorem ct_draw_2 {l : Launch} {Z : State} {a0 : Array Value} {gC : Int32} {gF : Value} (cx : Cx a0 Z gC gF) {n0 : Nat} (q : Int32) (h : Heap) (WL FL : List Addr)  (ek : (((q.toUInt32 >>> ((16 : Int32) &&& 31).toUInt32).toInt32) &&& (3 : Int32)) = (2 : Int32)) :
    Ct l Z EL1 n0 (⟨"com/example/lynceus/lynceus/BagIsPrintablePinLaw", "draw", "(I)C"⟩ : MethodName) method_2_code 2 (Option.some Jvm.ClassFile.FieldType.char) ({ frames := 0, cells := 0, slots := 0, locals := 0 } : Room) #[(.int q)] h WL FL (Q_draw Z gC gF q h) := by
  refine Ct.of (plainFor_of_name pn2) ?_
  intro p e s m below meth c s1 hx hby hml hnm hret hlk X0
  refine Wo.cast (f' := (mkF m 0 #[.val (.int q), .unset] [])) (by rfl) ?_
  show Wo _ _ _ _ _ _ _ _ _ _ _ s1 (mkF m 0 #[.val (.int q), .unset] [])
  refine P.iloadN X0 hx 1 (hb hby d1_0) rfl rfl ?_
  refine P.bipush X0 hx 3 16 (hb hby d1_1) rfl rfl ?_
  refine P.iushr X0 hx 4 (z := ((q.toUInt32 >>> ((16 : Int32) &&& 31).toUInt32).toInt32)) (hb hby d1_3) rfl rfl ?_
  refine P.iconst X0 hx 5 3 (hb hby d1_4) rfl rfl ?_
  refine P.iand X0 hx 6 (z := (2 : Int32)) (hb hby d1_5) (by rw [ek]) rfl ?_
  refine P.istoreN X0 hx 7 #[.val (.int q), .val (.int 2)] (hb hby d1_6) rfl rfl ?_
  refine P.iloadN X0 hx 8 (hb hby d1_7) rfl rfl ?_
  refine P.iconst X0 hx 9 1 (hb hby d1_8) rfl rfl ?_
  refine P.icmpYes X0 hx 15 (hb hby d1_9) (by decide) (by decide) (by decide) ?_
  refine P.iloadN X0 hx 16 (hb hby d1_15) rfl rfl ?_
  refine P.iconst X0 hx 17 2 (hb hby d1_16) rfl rfl ?_
  refine P.icmpNo X0 hx 20 (hb hby d1_17) (by decide) rfl ?_
  refine P.bipush X0 hx 22 10 (hb hby d1_20) rfl rfl ?_
  exact WS.retN X0 (WL' := []) (FL' := []) hx (t := .char) hret (by simp) hlk (hb hby d1_22) (nle rfl) (nle rfl) ⟨(10 : Int32), rfl, rfl, rfl, rfl, (by decide)⟩
theorem ct_draw_3 {l : Launch} {Z : State} {a0 : Array Value} {gC : Int32} {gF : Value} (cx : Cx a0 Z gC gF) {n0 : Nat} (q : Int32) (h : Heap) (WL FL : List Addr)  (ek : (((q.toUInt32 >>> ((16 : Int32) &&& 31).toUInt32).toInt32) &&& (3 : Int32)) = (3 : Int32)) :
    Ct l Z EL1 n0 (⟨"com/example/lynceus/lynceus/BagIsPrintablePinLaw", "draw", "(I)C"⟩ : MethodName) method_2_code 2 (Option.some Jvm.ClassFile.FieldType.char) ({ frames := 0, cells := 0, slots := 0, locals := 0 } : Room) #[(.int q)] h WL FL (Q_draw Z gC gF q h) := by
  refine Ct.of (plainFor_of_name pn2) ?_
  intro p e s m below meth c s1 hx hby hml hnm hret hlk X0
  refine Wo.cast (f' := (mkF m 0 #[.val (.int q), .unset] [])) (by rfl) ?_
  show Wo _ _ _ _ _ _ _ _ _ _ _ s1 (mkF m 0 #[.val (.int q), .unset] [])
  refine P.iloadN X0 hx 1 (hb hby d1_0) rfl rfl ?_
  refine P.bipush X0 hx 3 16 (hb hby d1_1) rfl rfl ?_
  refine P.iushr X0 hx 4 (z := ((q.toUInt32 >>> ((16 : Int32) &&& 31).toUInt32).toInt32)) (hb hby d1_3) rfl rfl ?_
  refine P.iconst X0 hx 5 3 (hb hby d1_4) rfl rfl ?_
  refine P.iand X0 hx 6 (z := (3 : Int32)) (hb hby d1_5) (by rw [ek]) rfl ?_
  refine P.istoreN X0 hx 7 #[.val (.int q), .val (.int 3)] (hb hby d1_6) rfl rfl ?_
  refine P.iloadN X0 hx 8 (hb hby d1_7) rfl rfl ?_
  refine P.iconst X0 hx 9 1 (hb hby d1_8) rfl rfl ?_
  refine P.icmpYes X0 hx 15 (hb hby d1_9) (by decide) (by decide) (by decide) ?_
  refine P.iloadN X0 hx 16 (hb hby d1_15) rfl rfl ?_
  refine P.iconst X0 hx 17 2 (hb hby d1_16) rfl rfl ?_
  refine P.icmpYes X0 hx 23 (hb hby d1_17) (by decide) (by decide) (by decide) ?_
  refine P.iloadN X0 hx 24 (hb hby d1_23) rfl rfl ?_
  refine P.iconst X0 hx 25 3 (hb hby d1_24) rfl rfl ?_
  refine P.icmpNo X0 hx 28 (hb hby d1_25) (by decide) rfl ?_
  refine P.bipush X0 hx 30 13 (hb hby d1_28) rfl rfl ?_
  exact WS.retN X0 (WL' := []) (FL' := []) hx (t := .char) hret (by simp) hlk (hb hby d1_30) (nle rfl) (nle rfl) ⟨(13 : Int32), rfl, rfl, rfl, rfl, (by decide)⟩
theorem ct_draw {l : Launch} {Z : State} {a0 : Array Value} {gC : Int32} {gF : Value} (cx : Cx a0 Z gC gF) {n0 : Nat} (q : Int32) (h : Heap) (WL FL : List Addr)  :
    Ct l Z EL1 n0 (⟨"com/example/lynceus/lynceus/BagIsPrintablePinLaw", "draw", "(I)C"⟩ : MethodName) method_2_code 2 (Option.some Jvm.ClassFile.FieldType.char) ({ frames := 0, cells := 0, slots := 0, locals := 0 } : Room) #[(.int q)] h WL FL (Q_draw Z gC gF q h) := by
  rcases and3 ((q.toUInt32 >>> ((16 : Int32) &&& 31).toUInt32).toInt32) with ek | ek | ek | ek
  · exact ct_draw_0 cx q h WL FL ek
  · exact ct_draw_1 cx q h WL FL ek
  · exact ct_draw_2 cx q h WL FL ek
  · exact ct_draw_3 cx q h WL FL ek
def Q_bad1 (Z : State) (gC : Int32) (gF : Value) (c0 : Int32) (h : Heap) (v : Option Value) (h' : Heap) (WL' FL' : List Addr) : Prop := v = some (.int 1) ∧ WL' = [] ∧ FL' = [] ∧ h' = h
theorem ct_bad1_0 {l : Launch} {Z : State} {a0 : Array Value} {gC : Int32} {gF : Value} (cx : Cx a0 Z gC gF) {n0 : Nat} (c0 : Int32) (h : Heap) (WL FL : List Addr) (hT : (c0 = (9 : Int32) ∨ c0 = (10 : Int32) ∨ c0 = (13 : Int32))) (e0 : c0 = (9 : Int32)) :
    Ct l Z EL1 n0 (⟨"com/example/lynceus/lynceus/BagIsPrintablePinLaw", "bad", "(C)Z"⟩ : MethodName) method_3_code 1 (Option.some Jvm.ClassFile.FieldType.boolean) ({ frames := 0, cells := 0, slots := 0, locals := 0 } : Room) #[(.int c0)] h WL FL (Q_bad1 Z gC gF c0 h) := by
  refine Ct.of (plainFor_of_name pn2) ?_
  intro p e s m below meth c s1 hx hby hml hnm hret hlk X0
  refine Wo.cast (f' := (mkF m 0 #[.val (.int c0)] [])) (by rfl) ?_
  show Wo _ _ _ _ _ _ _ _ _ _ _ s1 (mkF m 0 #[.val (.int c0)] [])
  refine P.iloadN X0 hx 1 (hb hby d18_0) rfl rfl ?_
  refine P.bipush X0 hx 3 9 (hb hby d18_1) rfl rfl ?_
  refine P.icmpYes X0 hx 18 (hb hby d18_3) (teq e0).1 (by decide) (by decide) ?_
  refine P.iconst X0 hx 19 1 (hb hby d18_18) rfl rfl ?_
  refine P.goto X0 hx 23 (hb hby d18_19) (by decide) (by decide) ?_
  exact WS.retN X0 (WL' := []) (FL' := []) hx (t := .boolean) hret (by simp) hlk (hb hby d18_23) (nle rfl) (nle rfl) ⟨rfl, rfl, rfl, rfl⟩
theorem ct_bad1_1 {l : Launch} {Z : State} {a0 : Array Value} {gC : Int32} {gF : Value} (cx : Cx a0 Z gC gF) {n0 : Nat} (c0 : Int32) (h : Heap) (WL FL : List Addr) (hT : (c0 = (9 : Int32) ∨ c0 = (10 : Int32) ∨ c0 = (13 : Int32))) (e0 : ¬ c0 = (9 : Int32)) (e1 : c0 = (10 : Int32)) :
    Ct l Z EL1 n0 (⟨"com/example/lynceus/lynceus/BagIsPrintablePinLaw", "bad", "(C)Z"⟩ : MethodName) method_3_code 1 (Option.some Jvm.ClassFile.FieldType.boolean) ({ frames := 0, cells := 0, slots := 0, locals := 0 } : Room) #[(.int c0)] h WL FL (Q_bad1 Z gC gF c0 h) := by
  refine Ct.of (plainFor_of_name pn2) ?_
  intro p e s m below meth c s1 hx hby hml hnm hret hlk X0
  refine Wo.cast (f' := (mkF m 0 #[.val (.int c0)] [])) (by rfl) ?_
  show Wo _ _ _ _ _ _ _ _ _ _ _ s1 (mkF m 0 #[.val (.int c0)] [])
  refine P.iloadN X0 hx 1 (hb hby d18_0) rfl rfl ?_
  refine P.bipush X0 hx 3 9 (hb hby d18_1) rfl rfl ?_
  refine P.icmpNo X0 hx 6 (hb hby d18_3) (feq e0).1 rfl ?_
  refine P.iloadN X0 hx 7 (hb hby d18_6) rfl rfl ?_
  refine P.bipush X0 hx 9 10 (hb hby d18_7) rfl rfl ?_
  refine P.icmpYes X0 hx 18 (hb hby d18_9) (teq e1).1 (by decide) (by decide) ?_
  refine P.iconst X0 hx 19 1 (hb hby d18_18) rfl rfl ?_
  refine P.goto X0 hx 23 (hb hby d18_19) (by decide) (by decide) ?_
  exact WS.retN X0 (WL' := []) (FL' := []) hx (t := .boolean) hret (by simp) hlk (hb hby d18_23) (nle rfl) (nle rfl) ⟨rfl, rfl, rfl, rfl⟩
theorem ct_bad1_2 {l : Launch} {Z : State} {a0 : Array Value} {gC : Int32} {gF : Value} (cx : Cx a0 Z gC gF) {n0 : Nat} (c0 : Int32) (h : Heap) (WL FL : List Addr) (hT : (c0 = (9 : Int32) ∨ c0 = (10 : Int32) ∨ c0 = (13 : Int32))) (e0 : ¬ c0 = (9 : Int32)) (e1 : ¬ c0 = (10 : Int32)) (e2 : c0 = (13 : Int32)) :
    Ct l Z EL1 n0 (⟨"com/example/lynceus/lynceus/BagIsPrintablePinLaw", "bad", "(C)Z"⟩ : MethodName) method_3_code 1 (Option.some Jvm.ClassFile.FieldType.boolean) ({ frames := 0, cells := 0, slots := 0, locals := 0 } : Room) #[(.int c0)] h WL FL (Q_bad1 Z gC gF c0 h) := by
  refine Ct.of (plainFor_of_name pn2) ?_
  intro p e s m below meth c s1 hx hby hml hnm hret hlk X0
  refine Wo.cast (f' := (mkF m 0 #[.val (.int c0)] [])) (by rfl) ?_
  show Wo _ _ _ _ _ _ _ _ _ _ _ s1 (mkF m 0 #[.val (.int c0)] [])
  refine P.iloadN X0 hx 1 (hb hby d18_0) rfl rfl ?_
  refine P.bipush X0 hx 3 9 (hb hby d18_1) rfl rfl ?_
  refine P.icmpNo X0 hx 6 (hb hby d18_3) (feq e0).1 rfl ?_
  refine P.iloadN X0 hx 7 (hb hby d18_6) rfl rfl ?_
  refine P.bipush X0 hx 9 10 (hb hby d18_7) rfl rfl ?_
  refine P.icmpNo X0 hx 12 (hb hby d18_9) (feq e1).1 rfl ?_
  refine P.iloadN X0 hx 13 (hb hby d18_12) rfl rfl ?_
  refine P.bipush X0 hx 15 13 (hb hby d18_13) rfl rfl ?_
  refine P.icmpNo X0 hx 18 (hb hby d18_15) (teq e2).2 rfl ?_
  refine P.iconst X0 hx 19 1 (hb hby d18_18) rfl rfl ?_
  refine P.goto X0 hx 23 (hb hby d18_19) (by decide) (by decide) ?_
  exact WS.retN X0 (WL' := []) (FL' := []) hx (t := .boolean) hret (by simp) hlk (hb hby d18_23) (nle rfl) (nle rfl) ⟨rfl, rfl, rfl, rfl⟩
theorem ct_bad1 {l : Launch} {Z : State} {a0 : Array Value} {gC : Int32} {gF : Value} (cx : Cx a0 Z gC gF) {n0 : Nat} (c0 : Int32) (h : Heap) (WL FL : List Addr) (hT : (c0 = (9 : Int32) ∨ c0 = (10 : Int32) ∨ c0 = (13 : Int32))) :
    Ct l Z EL1 n0 (⟨"com/example/lynceus/lynceus/BagIsPrintablePinLaw", "bad", "(C)Z"⟩ : MethodName) method_3_code 1 (Option.some Jvm.ClassFile.FieldType.boolean) ({ frames := 0, cells := 0, slots := 0, locals := 0 } : Room) #[(.int c0)] h WL FL (Q_bad1 Z gC gF c0 h) := by
  by_cases e0 : c0 = (9 : Int32)
  · exact ct_bad1_0 cx c0 h WL FL hT e0
  by_cases e1 : c0 = (10 : Int32)
  · exact ct_bad1_1 cx c0 h WL FL hT e0 e1
  exact ct_bad1_2 cx c0 h WL FL hT e0 e1 ((hT.resolve_left e0).resolve_left e1)
def Q_bad0 (Z : State) (gC : Int32) (gF : Value) (c0 : Int32) (h : Heap) (v : Option Value) (h' : Heap) (WL' FL' : List Addr) : Prop := v = some (.int 0) ∧ WL' = [] ∧ FL' = [] ∧ h' = h
theorem ct_bad0_3 {l : Launch} {Z : State} {a0 : Array Value} {gC : Int32} {gF : Value} (cx : Cx a0 Z gC gF) {n0 : Nat} (c0 : Int32) (h : Heap) (WL FL : List Addr) (hT : ¬ (c0 = (9 : Int32) ∨ c0 = (10 : Int32) ∨ c0 = (13 : Int32))) (e0 : ¬ c0 = (9 : Int32)) (e1 : ¬ c0 = (10 : Int32)) (e2 : ¬ c0 = (13 : Int32)) :
    Ct l Z EL1 n0 (⟨"com/example/lynceus/lynceus/BagIsPrintablePinLaw", "bad", "(C)Z"⟩ : MethodName) method_3_code 1 (Option.some Jvm.ClassFile.FieldType.boolean) ({ frames := 0, cells := 0, slots := 0, locals := 0 } : Room) #[(.int c0)] h WL FL (Q_bad0 Z gC gF c0 h) := by
  refine Ct.of (plainFor_of_name pn2) ?_
  intro p e s m below meth c s1 hx hby hml hnm hret hlk X0
  refine Wo.cast (f' := (mkF m 0 #[.val (.int c0)] [])) (by rfl) ?_
  show Wo _ _ _ _ _ _ _ _ _ _ _ s1 (mkF m 0 #[.val (.int c0)] [])
  refine P.iloadN X0 hx 1 (hb hby d18_0) rfl rfl ?_
  refine P.bipush X0 hx 3 9 (hb hby d18_1) rfl rfl ?_
  refine P.icmpNo X0 hx 6 (hb hby d18_3) (feq e0).1 rfl ?_
  refine P.iloadN X0 hx 7 (hb hby d18_6) rfl rfl ?_
  refine P.bipush X0 hx 9 10 (hb hby d18_7) rfl rfl ?_
  refine P.icmpNo X0 hx 12 (hb hby d18_9) (feq e1).1 rfl ?_
  refine P.iloadN X0 hx 13 (hb hby d18_12) rfl rfl ?_
  refine P.bipush X0 hx 15 13 (hb hby d18_13) rfl rfl ?_
  refine P.icmpYes X0 hx 22 (hb hby d18_15) (feq e2).2 (by decide) (by decide) ?_
  refine P.iconst X0 hx 23 0 (hb hby d18_22) rfl rfl ?_
  exact WS.retN X0 (WL' := []) (FL' := []) hx (t := .boolean) hret (by simp) hlk (hb hby d18_23) (nle rfl) (nle rfl) ⟨rfl, rfl, rfl, rfl⟩
theorem ct_bad0 {l : Launch} {Z : State} {a0 : Array Value} {gC : Int32} {gF : Value} (cx : Cx a0 Z gC gF) {n0 : Nat} (c0 : Int32) (h : Heap) (WL FL : List Addr) (hT : ¬ (c0 = (9 : Int32) ∨ c0 = (10 : Int32) ∨ c0 = (13 : Int32))) :
    Ct l Z EL1 n0 (⟨"com/example/lynceus/lynceus/BagIsPrintablePinLaw", "bad", "(C)Z"⟩ : MethodName) method_3_code 1 (Option.some Jvm.ClassFile.FieldType.boolean) ({ frames := 0, cells := 0, slots := 0, locals := 0 } : Room) #[(.int c0)] h WL FL (Q_bad0 Z gC gF c0 h) := by
  exact ct_bad0_3 cx c0 h WL FL hT (fun q => hT (Or.inl q)) (fun q => hT (Or.inr (Or.inl q))) (fun q => hT (Or.inr (Or.inr q)))
def Q_cenk (Z : State) (gC : Int32) (gF : Value) (k : Int32) (h : Heap) (v : Option Value) (h' : Heap) (WL' FL' : List Addr) : Prop := v = some (.int 1) ∧ WL' = [] ∧ FL' = [] ∧ h' = h
theorem ct_cenk {l : Launch} {Z : State} {a0 : Array Value} {gC : Int32} {gF : Value} (cx : Cx a0 Z gC gF) {n0 : Nat} (k : Int32) (h : Heap) (WL FL : List Addr) (hk : k = 9 ∨ k = 10 ∨ k = 13) :
    Ct l Z EL1 n0 (⟨"java/lang/StringLatin1", "canEncode", "(I)Z"⟩ : MethodName) jdk_43_method_4_code 1 (Option.some Jvm.ClassFile.FieldType.boolean) ({ frames := 0, cells := 0, slots := 0, locals := 0 } : Room) #[(.int k)] h WL FL (Q_cenk Z gC gF k h) := by
  refine Ct.of (plainFor_of_name pn3) ?_
  intro p e s m below meth c s1 hx hby hml hnm hret hlk X0
  refine Wo.cast (f' := (mkF m 0 #[.val (.int k)] [])) (by rfl) ?_
  show Wo _ _ _ _ _ _ _ _ _ _ _ s1 (mkF m 0 #[.val (.int k)] [])
  refine P.iloadN X0 hx 1 (hb hby d12_0) rfl rfl ?_
  refine P.ifNo X0 hx 4 (hb hby d12_1) ((if0 _ _).trans (flt (kr hk).1).1) rfl ?_
  refine P.iloadN X0 hx 5 (hb hby d12_4) rfl rfl ?_
  refine P.sipush X0 hx 8 255 (hb hby d12_5) rfl rfl ?_
  refine P.icmpNo X0 hx 11 (hb hby d12_8) (flt (kr hk).2).2.2.1 rfl ?_
  refine P.iconst X0 hx 12 1 (hb hby d12_11) rfl rfl ?_
  refine P.goto X0 hx 16 (hb hby d12_12) (by decide) (by decide) ?_
  exact WS.retN X0 (WL' := []) (FL' := []) hx (t := .boolean) hret (by simp) hlk (hb hby d12_16) (nle rfl) (nle rfl) ⟨rfl, rfl, rfl, rfl⟩
def Q_isLL (Z : State) (gC : Int32) (gF : Value) (x : Addr) (h : Heap) (v : Option Value) (h' : Heap) (WL' FL' : List Addr) : Prop := v = some (.int 1) ∧ WL' = [] ∧ FL' = [] ∧ h' = h
theorem ct_isLL {l : Launch} {Z : State} {a0 : Array Value} {gC : Int32} {gF : Value} (cx : Cx a0 Z gC gF) {n0 : Nat} (x : Addr) (h : Heap) (WL FL : List Addr) (P0 : Fld Z h x "java/lang/String" "coder" "B" (.int 0)) :
    Ct l Z EL1 n0 (⟨"java/lang/String", "isLatin1", "()Z"⟩ : MethodName) jdk_42_method_154_code 1 (Option.some Jvm.ClassFile.FieldType.boolean) ({ frames := 0, cells := 0, slots := 0, locals := 0 } : Room) #[(.ref x)] h WL FL (Q_isLL Z gC gF x h) := by
  refine Ct.of (plainFor_of_name pn0) ?_
  intro p e s m below meth c s1 hx hby hml hnm hret hlk X0
  refine Wo.cast (f' := (mkF m 0 #[.val (.ref x)] [])) (by rfl) ?_
  show Wo _ _ _ _ _ _ _ _ _ _ _ s1 (mkF m 0 #[.val (.ref x)] [])
  refine X0.getS hx (w46 cx) Via.refl (S_C cx) (hb hby d8_0) ?_
  intro T1 X1
  refine P.ifNo X1 hx 6 (hb hby d8_3) ((if0 _ _).trans (feq (N_C cx)).1) rfl ?_
  refine P.aloadN X1 hx 7 (hb hby d8_6) rfl rfl rfl ?_
  refine X1.getF hx (host := "") (Or.inl (w26 cx)) Via.refl P0 (hb hby d8_7) ?_
  intro T2 X2
  refine P.ifNo X2 hx 13 (hb hby d8_10) (by decide) rfl ?_
  refine P.iconst X2 hx 14 1 (hb hby d8_13) rfl rfl ?_
  refine P.goto X2 hx 18 (hb hby d8_14) (by decide) (by decide) ?_
  exact WS.retN X2 (WL' := []) (FL' := []) hx (t := .boolean) hret (by simp) hlk (hb hby d8_18) (nle rfl) (nle rfl) ⟨rfl, rfl, rfl, rfl⟩
def Q_xl11 (Z : State) (gC : Int32) (gF : Value) (u : Addr) (ku : ClassId) (c0 : Int32) (k : Int32) (h : Heap) (v : Option Value) (h' : Heap) (WL' FL' : List Addr) : Prop := ∃ r : Int32, v = some (.int r) ∧ WL' = [] ∧ FL' = [] ∧ h' = h ∧ (¬ r < 0)
theorem ct_xl11_0 {l : Launch} {Z : State} {a0 : Array Value} {gC : Int32} {gF : Value} (cx : Cx a0 Z gC gF) {n0 : Nat} (u : Addr) (ku : ClassId) (c0 : Int32) (k : Int32) (h : Heap) (WL FL : List Addr) (P0 : Arv Z h u ku .byte (1 : Int32) [(.int (c0.toInt8.toInt32))] (.int 0)) (hq_c0 : ¬ c0 < 0 ∧ ¬ (255 : Int32) < c0) (hk : k = 9 ∨ k = 10 ∨ k = 13) (hT : c0 = k) (e0 : c0 = k) :
    Ct l Z EL1 n0 (⟨"java/lang/StringLatin1", "indexOfChar", "([BIII)I"⟩ : MethodName) jdk_43_method_23_code 6 (Option.some Jvm.ClassFile.FieldType.int) ({ frames := 0, cells := 0, slots := 0, locals := 0 } : Room) #[(.ref u), (.int k), (.int 0), (.int 1)] h WL FL (Q_xl11 Z gC gF u ku c0 k h) := by
  refine Ct.of (plainFor_of_name pn3) ?_
  intro p e s m below meth c s1 hx hby hml hnm hret hlk X0
  refine Wo.cast (f' := (mkF m 0 #[.val (.ref u), .val (.int k), .val (.int 0), .val (.int 1), .unset, .unset] [])) (by rfl) ?_
  show Wo _ _ _ _ _ _ _ _ _ _ _ s1 (mkF m 0 #[.val (.ref u), .val (.int k), .val (.int 0), .val (.int 1), .unset, .unset] [])
  refine P.iloadN X0 hx 1 (hb hby d19_0) rfl rfl ?_
  refine P.i2b X0 hx 2 (z := (k.toInt8.toInt32)) (hb hby d19_1) rfl rfl ?_
  refine P.istore X0 hx 4 #[.val (.ref u), .val (.int k), .val (.int 0), .val (.int 1), .val (.int (k.toInt8.toInt32)), .unset] (hb hby d19_2) rfl rfl ?_
  refine P.iloadN X0 hx 5 (hb hby d19_4) rfl rfl ?_
  refine P.istore X0 hx 7 #[.val (.ref u), .val (.int k), .val (.int 0), .val (.int 1), .val (.int (k.toInt8.toInt32)), .val (.int 0)] (hb hby d19_5) rfl rfl ?_
  refine P.iload X0 hx 9 (hb hby d19_7) rfl rfl ?_
  refine P.iloadN X0 hx 10 (hb hby d19_9) rfl rfl ?_
  refine P.icmpNo X0 hx 13 (hb hby d19_10) (by decide) rfl ?_
  refine P.aloadN X0 hx 14 (hb hby d19_13) rfl rfl rfl ?_
  refine P.iload X0 hx 16 (hb hby d19_14) rfl rfl ?_
  refine WS.bld X0 hx P0 (j := (0 : Int32)) (x := (c0.toInt8.toInt32)) (by decide) rfl (hb hby d19_16) ?_
  refine P.iload X0 hx 19 (hb hby d19_17) rfl rfl ?_
  refine P.icmpNo X0 hx 22 (hb hby d19_19) (teq ((bk hq_c0 hk).mpr e0)).2 rfl ?_
  refine P.iload X0 hx 24 (hb hby d19_22) rfl rfl ?_
  exact WS.retI X0 (WL' := []) (FL' := []) hx hret hlk (hb hby d19_24) (nle rfl) (nle rfl) ⟨(0 : Int32), rfl, rfl, rfl, rfl, (by decide)⟩
theorem ct_xl11 {l : Launch} {Z : State} {a0 : Array Value} {gC : Int32} {gF : Value} (cx : Cx a0 Z gC gF) {n0 : Nat} (u : Addr) (ku : ClassId) (c0 : Int32) (k : Int32) (h : Heap) (WL FL : List Addr) (P0 : Arv Z h u ku .byte (1 : Int32) [(.int (c0.toInt8.toInt32))] (.int 0)) (hq_c0 : ¬ c0 < 0 ∧ ¬ (255 : Int32) < c0) (hk : k = 9 ∨ k = 10 ∨ k = 13) (hT : c0 = k) :
    Ct l Z EL1 n0 (⟨"java/lang/StringLatin1", "indexOfChar", "([BIII)I"⟩ : MethodName) jdk_43_method_23_code 6 (Option.some Jvm.ClassFile.FieldType.int) ({ frames := 0, cells := 0, slots := 0, locals := 0 } : Room) #[(.ref u), (.int k), (.int 0), (.int 1)] h WL FL (Q_xl11 Z gC gF u ku c0 k h) := by
  exact ct_xl11_0 cx u ku c0 k h WL FL P0 hq_c0 hk hT  hT
def Q_mmax_0_0 (Z : State) (gC : Int32) (gF : Value) (h : Heap) (v : Option Value) (h' : Heap) (WL' FL' : List Addr) : Prop := v = some (.int 0) ∧ WL' = [] ∧ FL' = [] ∧ h' = h
theorem ct_mmax_0_0 {l : Launch} {Z : State} {a0 : Array Value} {gC : Int32} {gF : Value} (cx : Cx a0 Z gC gF) {n0 : Nat} (h : Heap) (WL FL : List Addr)  :
    Ct l Z EL1 n0 (⟨"java/lang/Math", "max", "(II)I"⟩ : MethodName) jdk_29_method_65_code 2 (Option.some Jvm.ClassFile.FieldType.int) ({ frames := 0, cells := 0, slots := 0, locals := 0 } : Room) #[(.int 0), (.int 0)] h WL FL (Q_mmax_0_0 Z gC gF h) := by
  refine Ct.of (by decide +kernel) ?_
  intro p e s m below meth c s1 hx hby hml hnm hret hlk X0
  refine Wo.cast (f' := (mkF m 0 #[.val (.int 0), .val (.int 0)] [])) (by rfl) ?_
  show Wo _ _ _ _ _ _ _ _ _ _ _ s1 (mkF m 0 #[.val (.int 0), .val (.int 0)] [])
  refine P.iloadN X0 hx 1 (hb hby d13_0) rfl rfl ?_
  refine P.iloadN X0 hx 2 (hb hby d13_1) rfl rfl ?_
  refine P.icmpNo X0 hx 5 (hb hby d13_2) (by decide) rfl ?_
  refine P.iloadN X0 hx 6 (hb hby d13_5) rfl rfl ?_
  refine P.goto X0 hx 10 (hb hby d13_6) (by decide) (by decide) ?_
  exact WS.retI X0 (WL' := []) (FL' := []) hx hret hlk (hb hby d13_10) (nle rfl) (nle rfl) ⟨rfl, rfl, rfl, rfl⟩
def Q_mmin_1_1 (Z : State) (gC : Int32) (gF : Value) (h : Heap) (v : Option Value) (h' : Heap) (WL' FL' : List Addr) : Prop := v = some (.int 1) ∧ WL' = [] ∧ FL' = [] ∧ h' = h
theorem ct_mmin_1_1 {l : Launch} {Z : State} {a0 : Array Value} {gC : Int32} {gF : Value} (cx : Cx a0 Z gC gF) {n0 : Nat} (h : Heap) (WL FL : List Addr)  :
    Ct l Z EL1 n0 (⟨"java/lang/Math", "min", "(II)I"⟩ : MethodName) jdk_29_method_69_code 2 (Option.some Jvm.ClassFile.FieldType.int) ({ frames := 0, cells := 0, slots := 0, locals := 0 } : Room) #[(.int 1), (.int 1)] h WL FL (Q_mmin_1_1 Z gC gF h) := by
  refine Ct.of (by decide +kernel) ?_
  intro p e s m below meth c s1 hx hby hml hnm hret hlk X0
  refine Wo.cast (f' := (mkF m 0 #[.val (.int 1), .val (.int 1)] [])) (by rfl) ?_
  show Wo _ _ _ _ _ _ _ _ _ _ _ s1 (mkF m 0 #[.val (.int 1), .val (.int 1)] [])
  refine P.iloadN X0 hx 1 (hb hby d14_0) rfl rfl ?_
  refine P.iloadN X0 hx 2 (hb hby d14_1) rfl rfl ?_
  refine P.icmpNo X0 hx 5 (hb hby d14_2) (by decide) rfl ?_
  refine P.iloadN X0 hx 6 (hb hby d14_5) rfl rfl ?_
  refine P.goto X0 hx 10 (hb hby d14_6) (by decide) (by decide) ?_
  exact WS.retI X0 (WL' := []) (FL' := []) hx hret hlk (hb hby d14_10) (nle rfl) (nle rfl) ⟨rfl, rfl, rfl, rfl⟩
def Q_yl11 (Z : State) (gC : Int32) (gF : Value) (u : Addr) (ku : ClassId) (c0 : Int32) (k : Int32) (h : Heap) (v : Option Value) (h' : Heap) (WL' FL' : List Addr) : Prop := ∃ r : Int32, v = some (.int r) ∧ WL' = [] ∧ FL' = [] ∧ h' = h ∧ (¬ r < 0)
theorem ct_yl11 {l : Launch} {Z : State} {a0 : Array Value} {gC : Int32} {gF : Value} (cx : Cx a0 Z gC gF) {n0 : Nat} (u : Addr) (ku : ClassId) (c0 : Int32) (k : Int32) (h : Heap) (WL FL : List Addr) (P0 : Arv Z h u ku .byte (1 : Int32) [(.int (c0.toInt8.toInt32))] (.int 0)) (hq_c0 : ¬ c0 < 0 ∧ ¬ (255 : Int32) < c0) (hk : k = 9 ∨ k = 10 ∨ k = 13) (hT : c0 = k) :
    Ct l Z EL1 n0 (⟨"java/lang/StringLatin1", "indexOf", "([BIII)I"⟩ : MethodName) jdk_43_method_22_code 4 (Option.some Jvm.ClassFile.FieldType.int) ({ frames := 1, cells := 0, slots := 0, locals := 17 } : Room) #[(.ref u), (.int k), (.int 0), (.int 1)] h WL FL (Q_yl11 Z gC gF u ku c0 k h) := by
  refine Ct.of (plainFor_of_name pn3) ?_
  intro p e s m below meth c s1 hx hby hml hnm hret hlk X0
  refine Wo.cast (f' := (mkF m 0 #[.val (.ref u), .val (.int k), .val (.int 0), .val (.int 1)] [])) (by rfl) ?_
  show Wo _ _ _ _ _ _ _ _ _ _ _ s1 (mkF m 0 #[.val (.ref u), .val (.int k), .val (.int 0), .val (.int 1)] [])
  refine P.iloadN X0 hx 1 (hb hby d11_0) rfl rfl ?_
  refine X0.callS hx (w61 cx) (w62 cx) (w59 cx) (w63 cx) (by decide) (Ct.pay (W := 0) (ct_cenk cx k h _ _ hk) (w63 cx) (w59 cx) (nle rfl) (nle rfl)) (by rw [hml]; rfl) (argsL := [.int k]) (rest := []) (lenOf pd9 rfl) rfl rfl (Nat.le_of_eq rfl) (hb hby d11_1) (nle rfl) (nle rfl) ?_
  rintro T1 h1 _ _ _ X1 ⟨rfl, rfl, rfl, J1⟩
  rw [J1] at X1
  refine P.ifYes X1 hx 9 (hb hby d11_4) (by decide) (by decide) (by decide) ?_
  refine P.iloadN X1 hx 10 (hb hby d11_9) rfl rfl ?_
  refine P.iconst X1 hx 11 0 (hb hby d11_10) rfl rfl ?_
  refine X1.callS hx (w64 cx) (w65 cx) (w66 cx) (w67 cx) (by decide) (Ct.pay (W := 0) (ct_mmax_0_0 cx  h _ _ ) (w67 cx) (w66 cx) (nle rfl) (nle rfl)) (by rw [hml]; rfl) (argsL := [.int 0, .int 0]) (rest := []) (lenOf pd10 rfl) rfl rfl (Nat.le_of_eq rfl) (hb hby d11_11) (nle rfl) (nle rfl) ?_
  rintro T2 h2 _ _ _ X2 ⟨rfl, rfl, rfl, J2⟩
  rw [J2] at X2
  refine P.istoreN X2 hx 15 #[.val (.ref u), .val (.int k), .val (.int 0), .val (.int 1)] (hb hby d11_14) rfl rfl ?_
  refine P.iloadN X2 hx 16 (hb hby d11_15) rfl rfl ?_
  refine P.aloadN X2 hx 17 (hb hby d11_16) rfl rfl rfl ?_
  refine WS.alen X2 hx P0 (hb hby d11_17) ?_
  refine X2.callS hx (w68 cx) (w69 cx) (w66 cx) (w70 cx) (by decide) (Ct.pay (W := 0) (ct_mmin_1_1 cx  h _ _ ) (w70 cx) (w66 cx) (nle rfl) (nle rfl)) (by rw [hml]; rfl) (argsL := [.int 1, .int 1]) (rest := []) (lenOf pd10 rfl) rfl rfl (Nat.le_of_eq rfl) (hb hby d11_18) (nle rfl) (nle rfl) ?_
  rintro T3 h3 _ _ _ X3 ⟨rfl, rfl, rfl, J3⟩
  rw [J3] at X3
  refine P.istoreN X3 hx 22 #[.val (.ref u), .val (.int k), .val (.int 0), .val (.int 1)] (hb hby d11_21) rfl rfl ?_
  refine P.iloadN X3 hx 23 (hb hby d11_22) rfl rfl ?_
  refine P.iloadN X3 hx 24 (hb hby d11_23) rfl rfl ?_
  refine P.icmpYes X3 hx 29 (hb hby d11_24) (by decide) (by decide) (by decide) ?_
  refine P.aloadN X3 hx 30 (hb hby d11_29) rfl rfl rfl ?_
  refine P.iloadN X3 hx 31 (hb hby d11_30) rfl rfl ?_
  refine P.iloadN X3 hx 32 (hb hby d11_31) rfl rfl ?_
  refine P.iloadN X3 hx 33 (hb hby d11_32) rfl rfl ?_
  refine X3.callS hx (w84 cx) (w85 cx) (w59 cx) (w86 cx) (by decide) (Ct.pay (W := 0) (ct_xl11 cx u ku c0 k h _ _ P0 hq_c0 hk hT) (w86 cx) (w59 cx) (nle rfl) (nle rfl)) (by rw [hml]; rfl) (argsL := [.ref u, .int k, .int 0, .int 1]) (rest := []) (lenOf pd11 rfl) rfl rfl (Nat.le_of_eq rfl) (hb hby d11_33) (nle rfl) (nle rfl) ?_
  rintro T4 h4 _ _ _ X4 ⟨x5, rfl, rfl, rfl, J4, G6⟩
  rw [J4] at X4
  exact WS.retI X4 (WL' := []) (FL' := []) hx hret hlk (hb hby d11_36) (nle rfl) (nle rfl) ⟨x5, rfl, rfl, rfl, rfl, G6⟩
def Q_zl11 (Z : State) (gC : Int32) (gF : Value) (x : Addr) (u : Addr) (c0 : Int32) (k : Int32) (h : Heap) (v : Option Value) (h' : Heap) (WL' FL' : List Addr) : Prop := ∃ r : Int32, v = some (.int r) ∧ WL' = [] ∧ FL' = [] ∧ h' = h ∧ (¬ r < 0)
theorem ct_zl11 {l : Launch} {Z : State} {a0 : Array Value} {gC : Int32} {gF : Value} (cx : Cx a0 Z gC gF) {n0 : Nat} (x : Addr) (u : Addr) (c0 : Int32) (k : Int32) (h : Heap) (WL FL : List Addr) (P0 : StrL Z h x u [c0]) (hk : k = 9 ∨ k = 10 ∨ k = 13) (hT : c0 = k) :
    Ct l Z EL1 n0 (⟨"java/lang/String", "indexOf", "(II)I"⟩ : MethodName) jdk_42_method_80_code 3 (Option.some Jvm.ClassFile.FieldType.int) ({ frames := 2, cells := 0, slots := 0, locals := 32 } : Room) #[(.ref x), (.int k), (.int 0)] h WL FL (Q_zl11 Z gC gF x u c0 k h) := by
  refine Ct.of (plainFor_of_name pn0) ?_
  intro p e s m below meth c s1 hx hby hml hnm hret hlk X0
  refine Wo.cast (f' := (mkF m 0 #[.val (.ref x), .val (.int k), .val (.int 0)] [])) (by rfl) ?_
  show Wo _ _ _ _ _ _ _ _ _ _ _ s1 (mkF m 0 #[.val (.ref x), .val (.int k), .val (.int 0)] [])
  refine P.aloadN X0 hx 1 (hb hby d7_0) rfl rfl rfl ?_
  obtain ⟨k1, A1⟩ := P0.2.2.2.1
  have V1 : Arv Z h u k1 .byte (1 : Int32) [(.int (c0.toInt8.toInt32))] (.int 0) := A1
  refine X0.callV hx (w41 cx) (w42 cx) (w44 cx) (w43 cx) (fun _ hZ => nf hZ (w44 cx)) (by decide) P0.1 (Ct.pay (W := 0) (ct_isLL cx x h _ _ P0.2.2.1) (w45 cx) (w7 cx) (nle rfl) (nle rfl)) (by rw [hml]; rfl) (argsL := []) (rest := []) (lenOf pd12 rfl) rfl rfl (Nat.le_of_eq rfl) (hb hby d7_1) (nle rfl) (nle rfl) ?_
  rintro T2 h2 _ _ _ X2 ⟨rfl, rfl, rfl, J2⟩
  rw [J2] at X2
  refine P.ifNo X2 hx 7 (hb hby d7_4) (by decide) rfl ?_
  refine P.aloadN X2 hx 8 (hb hby d7_7) rfl rfl rfl ?_
  refine X2.getF hx (host := "") (Or.inl (w25 cx)) Via.refl P0.2.1 (hb hby d7_8) ?_
  intro T3 X3
  refine P.iloadN X3 hx 12 (hb hby d7_11) rfl rfl ?_
  refine P.iloadN X3 hx 13 (hb hby d7_12) rfl rfl ?_
  refine P.aloadN X3 hx 14 (hb hby d7_13) rfl rfl rfl ?_
  refine X3.callV hx (w47 cx) (w48 cx) (w50 cx) (w49 cx) (fun _ hZ => nf hZ (w50 cx)) (by decide) P0.1 (pay_len (W := 3) (hln cx) (w6 cx) P0 (X3.sta (S_C cx)) (N_C cx) (nle rfl) (nle rfl)) (by rw [hml]; rfl) (argsL := []) (rest := [.int 0, .int k, .ref u]) (lenOf pd13 rfl) rfl rfl (Nat.le_of_eq rfl) (hb hby d7_14) (nle rfl) (nle rfl) ?_
  rintro T4 h4 _ _ _ X4 ⟨rfl, rfl, rfl, J4⟩
  rw [J4] at X4
  show Wo _ _ _ _ _ _ _ _ _ _ _ T4 (mkF m 17 #[.val (.ref x), .val (.int k), .val (.int 0)] [.int 1, .int 0, .int k, .ref u])
  refine X4.callS hx (w57 cx) (w58 cx) (w59 cx) (w60 cx) (by decide) (Ct.pay (W := 0) (ct_yl11 cx u k1 c0 k h _ _ V1 (P0.2.2.2.2.1 _ (List.mem_of_getElem? (i := 0) rfl)) hk hT) (w60 cx) (w59 cx) (nle rfl) (nle rfl)) (by rw [hml]; rfl) (argsL := [.ref u, .int k, .int 0, .int 1]) (rest := []) (lenOf pd11 rfl) rfl rfl (Nat.le_of_eq rfl) (hb hby d7_17) (nle rfl) (nle rfl) ?_
  rintro T5 h5 _ _ _ X5 ⟨x6, rfl, rfl, rfl, J5, G7⟩
  rw [J5] at X5
  refine P.goto X5 hx 36 (hb hby d7_20) (by decide) (by decide) ?_
  exact WS.retI X5 (WL' := []) (FL' := []) hx hret hlk (hb hby d7_36) (nle rfl) (nle rfl) ⟨x6, rfl, rfl, rfl, rfl, G7⟩
def Q_xu11 (Z : State) (gC : Int32) (gF : Value) (u : Addr) (ku : ClassId) (c0 : Int32) (k : Int32) (h : Heap) (v : Option Value) (h' : Heap) (WL' FL' : List Addr) : Prop := ∃ r : Int32, v = some (.int r) ∧ WL' = [] ∧ FL' = [] ∧ h' = h ∧ (¬ r < 0)
theorem ct_xu11_0 {l : Launch} {Z : State} {a0 : Array Value} {gC : Int32} {gF : Value} (cx : Cx a0 Z gC gF) {n0 : Nat} (u : Addr) (ku : ClassId) (c0 : Int32) (k : Int32) (h : Heap) (WL FL : List Addr) (P0 : Arv Z h u ku .byte (2 : Int32) [(.int (c0.toInt8.toInt32)), (.int ((c0 >>> ((8 : Int32) &&& 31)).toInt8.toInt32))] (.int 0)) (hr_c0 : ¬ c0 < 0 ∧ ¬ (65535 : Int32) < c0) (hk : k = 9 ∨ k = 10 ∨ k = 13) (hT : c0 = k) (e0 : c0 = k) :
    Ct l Z EL1 n0 (⟨"java/lang/StringUTF16", "indexOfCharUnsafe", "([BIII)I"⟩ : MethodName) jdk_52_method_48_code 5 (Option.some Jvm.ClassFile.FieldType.int) ({ frames := 1, cells := 0, slots := 0, locals := 13 } : Room) #[(.ref u), (.int k), (.int 0), (.int 1)] h WL FL (Q_xu11 Z gC gF u ku c0 k h) := by
  refine Ct.of (plainFor_of_name pn1) ?_
  intro p e s m below meth c s1 hx hby hml hnm hret hlk X0
  refine Wo.cast (f' := (mkF m 0 #[.val (.ref u), .val (.int k), .val (.int 0), .val (.int 1), .unset] [])) (by rfl) ?_
  show Wo _ _ _ _ _ _ _ _ _ _ _ s1 (mkF m 0 #[.val (.ref u), .val (.int k), .val (.int 0), .val (.int 1), .unset] [])
  refine P.iloadN X0 hx 1 (hb hby d31_0) rfl rfl ?_
  refine P.istore X0 hx 3 #[.val (.ref u), .val (.int k), .val (.int 0), .val (.int 1), .val (.int 0)] (hb hby d31_1) rfl rfl ?_
  refine P.iload X0 hx 5 (hb hby d31_3) rfl rfl ?_
  refine P.iloadN X0 hx 6 (hb hby d31_5) rfl rfl ?_
  refine P.icmpNo X0 hx 9 (hb hby d31_6) (by decide) rfl ?_
  refine P.aloadN X0 hx 10 (hb hby d31_9) rfl rfl rfl ?_
  refine P.iload X0 hx 12 (hb hby d31_10) rfl rfl ?_
  refine X0.callS hx (w103 cx) (w104 cx) (w73 cx) (w105 cx) (by decide) (Ct.pay (W := 0) (ct_getc10 cx u ku c0 h _ _ P0 hr_c0) (w105 cx) (w73 cx) (nle rfl) (nle rfl)) (by rw [hml]; rfl) (argsL := [.ref u, .int 0]) (rest := []) (lenOf pd6 rfl) rfl rfl (Nat.le_of_eq rfl) (hb hby d31_12) (nle rfl) (nle rfl) ?_
  rintro T1 h1 _ _ _ X1 ⟨rfl, rfl, rfl, J1⟩
  rw [J1] at X1
  refine P.iloadN X1 hx 16 (hb hby d31_15) rfl rfl ?_
  refine P.icmpNo X1 hx 19 (hb hby d31_16) (teq e0).2 rfl ?_
  refine P.iload X1 hx 21 (hb hby d31_19) rfl rfl ?_
  exact WS.retI X1 (WL' := []) (FL' := []) hx hret hlk (hb hby d31_21) (nle rfl) (nle rfl) ⟨(0 : Int32), rfl, rfl, rfl, rfl, (by decide)⟩
theorem ct_xu11 {l : Launch} {Z : State} {a0 : Array Value} {gC : Int32} {gF : Value} (cx : Cx a0 Z gC gF) {n0 : Nat} (u : Addr) (ku : ClassId) (c0 : Int32) (k : Int32) (h : Heap) (WL FL : List Addr) (P0 : Arv Z h u ku .byte (2 : Int32) [(.int (c0.toInt8.toInt32)), (.int ((c0 >>> ((8 : Int32) &&& 31)).toInt8.toInt32))] (.int 0)) (hr_c0 : ¬ c0 < 0 ∧ ¬ (65535 : Int32) < c0) (hk : k = 9 ∨ k = 10 ∨ k = 13) (hT : c0 = k) :
    Ct l Z EL1 n0 (⟨"java/lang/StringUTF16", "indexOfCharUnsafe", "([BIII)I"⟩ : MethodName) jdk_52_method_48_code 5 (Option.some Jvm.ClassFile.FieldType.int) ({ frames := 1, cells := 0, slots := 0, locals := 13 } : Room) #[(.ref u), (.int k), (.int 0), (.int 1)] h WL FL (Q_xu11 Z gC gF u ku c0 k h) := by
  exact ct_xu11_0 cx u ku c0 k h WL FL P0 hr_c0 hk hT  hT
def Q_cfti_0_1_1_O (Z : State) (gC : Int32) (gF : Value) (o3 : Value) (h : Heap) (v : Option Value) (h' : Heap) (WL' FL' : List Addr) : Prop := v = some (.int 0) ∧ WL' = [] ∧ FL' = [] ∧ h' = h
theorem ct_cfti_0_1_1_O {l : Launch} {Z : State} {a0 : Array Value} {gC : Int32} {gF : Value} (cx : Cx a0 Z gC gF) {n0 : Nat} (o3 : Value) (h : Heap) (WL FL : List Addr) (h_o3 : o3.isRef = true) :
    Ct l Z EL1 n0 (⟨"jdk/internal/util/Preconditions", "checkFromToIndex", "(IIILjava/util/function/BiFunction;)I"⟩ : MethodName) jdk_41_method_12_code 4 (Option.some Jvm.ClassFile.FieldType.int) ({ frames := 0, cells := 0, slots := 0, locals := 0 } : Room) #[(.int 0), (.int 1), (.int 1), o3] h WL FL (Q_cfti_0_1_1_O Z gC gF o3 h) := by
  refine Ct.of (plainFor_of_name pn4) ?_
  intro p e s m below meth c s1 hx hby hml hnm hret hlk X0
  refine Wo.cast (f' := (mkF m 0 #[.val (.int 0), .val (.int 1), .val (.int 1), .val o3] [])) (by rcases ref_cases h_o3 with rfl | ⟨_, rfl⟩ <;> first | rfl | (simp [entryFrame, mkF, argsToLocals, Value.category]; done)) ?_
  show Wo _ _ _ _ _ _ _ _ _ _ _ s1 (mkF m 0 #[.val (.int 0), .val (.int 1), .val (.int 1), .val o3] [])
  refine P.iloadN X0 hx 1 (hb hby d30_0) rfl rfl ?_
  refine P.ifNo X0 hx 4 (hb hby d30_1) (by decide) rfl ?_
  refine P.iloadN X0 hx 5 (hb hby d30_4) rfl rfl ?_
  refine P.iloadN X0 hx 6 (hb hby d30_5) rfl rfl ?_
  refine P.icmpNo X0 hx 9 (hb hby d30_6) (by decide) rfl ?_
  refine P.iloadN X0 hx 10 (hb hby d30_9) rfl rfl ?_
  refine P.iloadN X0 hx 11 (hb hby d30_10) rfl rfl ?_
  refine P.icmpYes X0 hx 22 (hb hby d30_11) (by decide) (by decide) (by decide) ?_
  refine P.iloadN X0 hx 23 (hb hby d30_22) rfl rfl ?_
  exact WS.retI X0 (WL' := []) (FL' := []) hx hret hlk (hb hby d30_23) (nle rfl) (nle rfl) ⟨rfl, rfl, rfl, rfl⟩
def Q_cbbe_0_1_1 (Z : State) (gC : Int32) (gF : Value) (h : Heap) (v : Option Value) (h' : Heap) (WL' FL' : List Addr) : Prop := v = none ∧ WL' = [] ∧ FL' = [] ∧ h' = h
theorem ct_cbbe_0_1_1 {l : Launch} {Z : State} {a0 : Array Value} {gC : Int32} {gF : Value} (cx : Cx a0 Z gC gF) {n0 : Nat} (h : Heap) (WL FL : List Addr)  :
    Ct l Z EL1 n0 (⟨"java/lang/String", "checkBoundsBeginEnd", "(III)V"⟩ : MethodName) jdk_42_method_158_code 3 (Option.none : Option Jvm.ClassFile.FieldType) ({ frames := 1, cells := 0, slots := 0, locals := 15 } : Room) #[(.int 0), (.int 1), (.int 1)] h WL FL (Q_cbbe_0_1_1 Z gC gF h) := by
  refine Ct.of (plainFor_of_name pn0) ?_
  intro p e s m below meth c s1 hx hby hml hnm hret hlk X0
  refine Wo.cast (f' := (mkF m 0 #[.val (.int 0), .val (.int 1), .val (.int 1)] [])) (by rfl) ?_
  show Wo _ _ _ _ _ _ _ _ _ _ _ s1 (mkF m 0 #[.val (.int 0), .val (.int 1), .val (.int 1)] [])
  refine P.iloadN X0 hx 1 (hb hby d29_0) rfl rfl ?_
  refine P.iloadN X0 hx 2 (hb hby d29_1) rfl rfl ?_
  refine P.iloadN X0 hx 3 (hb hby d29_2) rfl rfl ?_
  refine X0.getS hx (w124 cx) Via.refl (S_F cx) (hb hby d29_3) ?_
  intro T1 X1
  refine X1.callS hx (w126 cx) (w127 cx) (w125 cx) (w128 cx) (by decide) (Ct.pay (W := 0) (ct_cfti_0_1_1_O cx gF h _ _ (R_F cx)) (w128 cx) (w125 cx) (nle rfl) (nle rfl)) (by rw [hml]; rfl) (argsL := [.int 0, .int 1, .int 1, gF]) (rest := []) (lenOf pd15 rfl) rfl rfl (Nat.le_of_eq rfl) (hb hby d29_6) (nle rfl) (nle rfl) ?_
  rintro T2 h2 _ _ _ X2 ⟨rfl, rfl, rfl, J2⟩
  rw [J2] at X2
  refine P.pop X2 hx 10 (hb hby d29_9) rfl rfl ?_
  exact WS.retV X2 (WL' := []) (FL' := []) hx hret hlk (hb hby d29_10) (nle rfl) (nle rfl) ⟨rfl, rfl, rfl, rfl⟩
def Q_cbu1 (Z : State) (gC : Int32) (gF : Value) (u : Addr) (ku : ClassId) (vs : List Value) (h : Heap) (v : Option Value) (h' : Heap) (WL' FL' : List Addr) : Prop := v = none ∧ WL' = [] ∧ FL' = [] ∧ h' = h
theorem ct_cbu1 {l : Launch} {Z : State} {a0 : Array Value} {gC : Int32} {gF : Value} (cx : Cx a0 Z gC gF) {n0 : Nat} (u : Addr) (ku : ClassId) (vs : List Value) (h : Heap) (WL FL : List Addr) (P0 : Arv Z h u ku .byte (2 : Int32) vs (.int 0)) :
    Ct l Z EL1 n0 (⟨"java/lang/StringUTF16", "checkBoundsBeginEnd", "(II[B)V"⟩ : MethodName) jdk_52_method_93_code 3 (Option.none : Option Jvm.ClassFile.FieldType) ({ frames := 2, cells := 0, slots := 0, locals := 29 } : Room) #[(.int 0), (.int 1), (.ref u)] h WL FL (Q_cbu1 Z gC gF u ku vs h) := by
  refine Ct.of (plainFor_of_name pn1) ?_
  intro p e s m below meth c s1 hx hby hml hnm hret hlk X0
  refine Wo.cast (f' := (mkF m 0 #[.val (.int 0), .val (.int 1), .val (.ref u)] [])) (by rfl) ?_
  show Wo _ _ _ _ _ _ _ _ _ _ _ s1 (mkF m 0 #[.val (.int 0), .val (.int 1), .val (.ref u)] [])
  refine P.iloadN X0 hx 1 (hb hby d27_0) rfl rfl ?_
  refine P.iloadN X0 hx 2 (hb hby d27_1) rfl rfl ?_
  refine P.aloadN X0 hx 3 (hb hby d27_2) rfl rfl rfl ?_
  refine X0.callS hx (w118 cx) (w119 cx) (w73 cx) (w120 cx) (by decide) (Ct.pay (W := 2) (ct_ulen1 cx u ku _ h _ _ P0) (w120 cx) (w73 cx) (nle rfl) (nle rfl)) (by rw [hml]; rfl) (argsL := [.ref u]) (rest := [.int 1, .int 0]) (lenOf pd14 rfl) rfl rfl (Nat.le_of_eq rfl) (hb hby d27_3) (nle rfl) (nle rfl) ?_
  rintro T1 h1 _ _ _ X1 ⟨rfl, rfl, rfl, J1⟩
  rw [J1] at X1
  refine X1.callS hx (w121 cx) (w122 cx) (w7 cx) (w123 cx) (by decide) (Ct.pay (W := 0) (ct_cbbe_0_1_1 cx  h _ _ ) (w123 cx) (w7 cx) (nle rfl) (nle rfl)) (by rw [hml]; rfl) (argsL := [.int 0, .int 1, .int 1]) (rest := []) (lenOf pd16 rfl) rfl rfl (Nat.le_of_eq rfl) (hb hby d27_6) (nle rfl) (nle rfl) ?_
  rintro T2 h2 _ _ _ X2 ⟨rfl, rfl, rfl, J2⟩
  rw [J2] at X2
  exact WS.retV X2 (WL' := []) (FL' := []) hx hret hlk (hb hby d27_9) (nle rfl) (nle rfl) ⟨rfl, rfl, rfl, rfl⟩
def Q_wu11 (Z : State) (gC : Int32) (gF : Value) (u : Addr) (ku : ClassId) (c0 : Int32) (k : Int32) (h : Heap) (v : Option Value) (h' : Heap) (WL' FL' : List Addr) : Prop := ∃ r : Int32, v = some (.int r) ∧ WL' = [] ∧ FL' = [] ∧ h' = h ∧ (¬ r < 0)
theorem ct_wu11 {l : Launch} {Z : State} {a0 : Array Value} {gC : Int32} {gF : Value} (cx : Cx a0 Z gC gF) {n0 : Nat} (u : Addr) (ku : ClassId) (c0 : Int32) (k : Int32) (h : Heap) (WL FL : List Addr) (P0 : Arv Z h u ku .byte (2 : Int32) [(.int (c0.toInt8.toInt32)), (.int ((c0 >>> ((8 : Int32) &&& 31)).toInt8.toInt32))] (.int 0)) (hr_c0 : ¬ c0 < 0 ∧ ¬ (65535 : Int32) < c0) (hk : k = 9 ∨ k = 10 ∨ k = 13) (hT : c0 = k) :
    Ct l Z EL1 n0 (⟨"java/lang/StringUTF16", "indexOfChar", "([BIII)I"⟩ : MethodName) jdk_52_method_47_code 4 (Option.some Jvm.ClassFile.FieldType.int) ({ frames := 3, cells := 0, slots := 0, locals := 43 } : Room) #[(.ref u), (.int k), (.int 0), (.int 1)] h WL FL (Q_wu11 Z gC gF u ku c0 k h) := by
  refine Ct.of (plainFor_of_name pn1) ?_
  intro p e s m below meth c s1 hx hby hml hnm hret hlk X0
  refine Wo.cast (f' := (mkF m 0 #[.val (.ref u), .val (.int k), .val (.int 0), .val (.int 1)] [])) (by rfl) ?_
  show Wo _ _ _ _ _ _ _ _ _ _ _ s1 (mkF m 0 #[.val (.ref u), .val (.int k), .val (.int 0), .val (.int 1)] [])
  refine P.iloadN X0 hx 1 (hb hby d26_0) rfl rfl ?_
  refine P.iloadN X0 hx 2 (hb hby d26_1) rfl rfl ?_
  refine P.aloadN X0 hx 3 (hb hby d26_2) rfl rfl rfl ?_
  refine X0.callS hx (w115 cx) (w116 cx) (w73 cx) (w117 cx) (by decide) (Ct.pay (W := 0) (ct_cbu1 cx u ku _ h _ _ P0) (w117 cx) (w73 cx) (nle rfl) (nle rfl)) (by rw [hml]; rfl) (argsL := [.int 0, .int 1, .ref u]) (rest := []) (lenOf pd17 rfl) rfl rfl (Nat.le_of_eq rfl) (hb hby d26_3) (nle rfl) (nle rfl) ?_
  rintro T1 h1 _ _ _ X1 ⟨rfl, rfl, rfl, J1⟩
  rw [J1] at X1
  refine P.aloadN X1 hx 7 (hb hby d26_6) rfl rfl rfl ?_
  refine P.iloadN X1 hx 8 (hb hby d26_7) rfl rfl ?_
  refine P.iloadN X1 hx 9 (hb hby d26_8) rfl rfl ?_
  refine P.iloadN X1 hx 10 (hb hby d26_9) rfl rfl ?_
  refine X1.callS hx (w129 cx) (w130 cx) (w73 cx) (w131 cx) (by decide) (Ct.pay (W := 0) (ct_xu11 cx u ku c0 k h _ _ P0 hr_c0 hk hT) (w131 cx) (w73 cx) (nle rfl) (nle rfl)) (by rw [hml]; rfl) (argsL := [.ref u, .int k, .int 0, .int 1]) (rest := []) (lenOf pd11 rfl) rfl rfl (Nat.le_of_eq rfl) (hb hby d26_10) (nle rfl) (nle rfl) ?_
  rintro T2 h2 _ _ _ X2 ⟨x3, rfl, rfl, rfl, J2, G4⟩
  rw [J2] at X2
  exact WS.retI X2 (WL' := []) (FL' := []) hx hret hlk (hb hby d26_13) (nle rfl) (nle rfl) ⟨x3, rfl, rfl, rfl, rfl, G4⟩
def Q_yu11 (Z : State) (gC : Int32) (gF : Value) (u : Addr) (ku : ClassId) (c0 : Int32) (k : Int32) (h : Heap) (v : Option Value) (h' : Heap) (WL' FL' : List Addr) : Prop := ∃ r : Int32, v = some (.int r) ∧ WL' = [] ∧ FL' = [] ∧ h' = h ∧ (¬ r < 0)
theorem ct_yu11 {l : Launch} {Z : State} {a0 : Array Value} {gC : Int32} {gF : Value} (cx : Cx a0 Z gC gF) {n0 : Nat} (u : Addr) (ku : ClassId) (c0 : Int32) (k : Int32) (h : Heap) (WL FL : List Addr) (P0 : Arv Z h u ku .byte (2 : Int32) [(.int (c0.toInt8.toInt32)), (.int ((c0 >>> ((8 : Int32) &&& 31)).toInt8.toInt32))] (.int 0)) (hr_c0 : ¬ c0 < 0 ∧ ¬ (65535 : Int32) < c0) (hk : k = 9 ∨ k = 10 ∨ k = 13) (hT : c0 = k) :
    Ct l Z EL1 n0 (⟨"java/lang/StringUTF16", "indexOf", "([BIII)I"⟩ : MethodName) jdk_52_method_40_code 4 (Option.some Jvm.ClassFile.FieldType.int) ({ frames := 4, cells := 0, slots := 0, locals := 58 } : Room) #[(.ref u), (.int k), (.int 0), (.int 1)] h WL FL (Q_yu11 Z gC gF u ku c0 k h) := by
  refine Ct.of (plainFor_of_name pn1) ?_
  intro p e s m below meth c s1 hx hby hml hnm hret hlk X0
  refine Wo.cast (f' := (mkF m 0 #[.val (.ref u), .val (.int k), .val (.int 0), .val (.int 1)] [])) (by rfl) ?_
  show Wo _ _ _ _ _ _ _ _ _ _ _ s1 (mkF m 0 #[.val (.ref u), .val (.int k), .val (.int 0), .val (.int 1)] [])
  refine P.iloadN X0 hx 1 (hb hby d25_0) rfl rfl ?_
  refine P.iconst X0 hx 2 0 (hb hby d25_1) rfl rfl ?_
  refine X0.callS hx (w109 cx) (w65 cx) (w66 cx) (w67 cx) (by decide) (Ct.pay (W := 0) (ct_mmax_0_0 cx  h _ _ ) (w67 cx) (w66 cx) (nle rfl) (nle rfl)) (by rw [hml]; rfl) (argsL := [.int 0, .int 0]) (rest := []) (lenOf pd10 rfl) rfl rfl (Nat.le_of_eq rfl) (hb hby d25_2) (nle rfl) (nle rfl) ?_
  rintro T1 h1 _ _ _ X1 ⟨rfl, rfl, rfl, J1⟩
  rw [J1] at X1
  refine P.istoreN X1 hx 6 #[.val (.ref u), .val (.int k), .val (.int 0), .val (.int 1)] (hb hby d25_5) rfl rfl ?_
  refine P.iloadN X1 hx 7 (hb hby d25_6) rfl rfl ?_
  refine P.aloadN X1 hx 8 (hb hby d25_7) rfl rfl rfl ?_
  refine WS.alen X1 hx P0 (hb hby d25_8) ?_
  refine P.iconst X1 hx 10 1 (hb hby d25_9) rfl rfl ?_
  refine P.ishr X1 hx 11 (z := (1 : Int32)) (hb hby d25_10) rfl rfl ?_
  refine X1.callS hx (w110 cx) (w69 cx) (w66 cx) (w70 cx) (by decide) (Ct.pay (W := 0) (ct_mmin_1_1 cx  h _ _ ) (w70 cx) (w66 cx) (nle rfl) (nle rfl)) (by rw [hml]; rfl) (argsL := [.int 1, .int 1]) (rest := []) (lenOf pd10 rfl) rfl rfl (Nat.le_of_eq rfl) (hb hby d25_11) (nle rfl) (nle rfl) ?_
  rintro T2 h2 _ _ _ X2 ⟨rfl, rfl, rfl, J2⟩
  rw [J2] at X2
  refine P.istoreN X2 hx 15 #[.val (.ref u), .val (.int k), .val (.int 0), .val (.int 1)] (hb hby d25_14) rfl rfl ?_
  refine P.iloadN X2 hx 16 (hb hby d25_15) rfl rfl ?_
  refine P.iloadN X2 hx 17 (hb hby d25_16) rfl rfl ?_
  refine P.icmpYes X2 hx 22 (hb hby d25_17) (by decide) (by decide) (by decide) ?_
  refine P.iloadN X2 hx 23 (hb hby d25_22) rfl rfl ?_
  refine WS.ldcI X2 hx (w111 cx) (hb hby d25_23) ?_
  refine P.icmpNo X2 hx 28 (hb hby d25_25) (tlt (kr6 hk)).2.1 rfl ?_
  refine P.aloadN X2 hx 29 (hb hby d25_28) rfl rfl rfl ?_
  refine P.iloadN X2 hx 30 (hb hby d25_29) rfl rfl ?_
  refine P.iloadN X2 hx 31 (hb hby d25_30) rfl rfl ?_
  refine P.iloadN X2 hx 32 (hb hby d25_31) rfl rfl ?_
  refine X2.callS hx (w112 cx) (w113 cx) (w73 cx) (w114 cx) (by decide) (Ct.pay (W := 0) (ct_wu11 cx u ku c0 k h _ _ P0 hr_c0 hk hT) (w114 cx) (w73 cx) (nle rfl) (nle rfl)) (by rw [hml]; rfl) (argsL := [.ref u, .int k, .int 0, .int 1]) (rest := []) (lenOf pd11 rfl) rfl rfl (Nat.le_of_eq rfl) (hb hby d25_32) (nle rfl) (nle rfl) ?_
  rintro T3 h3 _ _ _ X3 ⟨x4, rfl, rfl, rfl, J3, G5⟩
  rw [J3] at X3
  exact WS.retI X3 (WL' := []) (FL' := []) hx hret hlk (hb hby d25_35) (nle rfl) (nle rfl) ⟨x4, rfl, rfl, rfl, rfl, G5⟩
def Q_zu11 (Z : State) (gC : Int32) (gF : Value) (x : Addr) (u : Addr) (ku : ClassId) (c0 : Int32) (k : Int32) (h : Heap) (v : Option Value) (h' : Heap) (WL' FL' : List Addr) : Prop := ∃ r : Int32, v = some (.int r) ∧ WL' = [] ∧ FL' = [] ∧ h' = h ∧ (¬ r < 0)
theorem ct_zu11 {l : Launch} {Z : State} {a0 : Array Value} {gC : Int32} {gF : Value} (cx : Cx a0 Z gC gF) {n0 : Nat} (x : Addr) (u : Addr) (ku : ClassId) (c0 : Int32) (k : Int32) (h : Heap) (WL FL : List Addr) (P0 : Exa Z h x "java/lang/String") (P1 : Fld Z h x "java/lang/String" "value" "[B" (.ref u)) (P2 : Fld Z h x "java/lang/String" "coder" "B" (.int 1)) (P3 : Arv Z h u ku .byte (2 : Int32) [(.int (c0.toInt8.toInt32)), (.int ((c0 >>> ((8 : Int32) &&& 31)).toInt8.toInt32))] (.int 0)) (hr_c0 : ¬ c0 < 0 ∧ ¬ (65535 : Int32) < c0) (hk : k = 9 ∨ k = 10 ∨ k = 13) (hT : c0 = k) :
    Ct l Z EL1 n0 (⟨"java/lang/String", "indexOf", "(II)I"⟩ : MethodName) jdk_42_method_80_code 3 (Option.some Jvm.ClassFile.FieldType.int) ({ frames := 5, cells := 0, slots := 0, locals := 73 } : Room) #[(.ref x), (.int k), (.int 0)] h WL FL (Q_zu11 Z gC gF x u ku c0 k h) := by
  refine Ct.of (plainFor_of_name pn0) ?_
  intro p e s m below meth c s1 hx hby hml hnm hret hlk X0
  refine Wo.cast (f' := (mkF m 0 #[.val (.ref x), .val (.int k), .val (.int 0)] [])) (by rfl) ?_
  show Wo _ _ _ _ _ _ _ _ _ _ _ s1 (mkF m 0 #[.val (.ref x), .val (.int k), .val (.int 0)] [])
  refine P.aloadN X0 hx 1 (hb hby d7_0) rfl rfl rfl ?_
  refine X0.callV hx (w41 cx) (w42 cx) (w44 cx) (w43 cx) (fun _ hZ => nf hZ (w44 cx)) (by decide) P0 (Ct.pay (W := 0) (ct_isLU cx x h _ _ P2) (w45 cx) (w7 cx) (nle rfl) (nle rfl)) (by rw [hml]; rfl) (argsL := []) (rest := []) (lenOf pd12 rfl) rfl rfl (Nat.le_of_eq rfl) (hb hby d7_1) (nle rfl) (nle rfl) ?_
  rintro T1 h1 _ _ _ X1 ⟨rfl, rfl, rfl, J1⟩
  rw [J1] at X1
  refine P.ifYes X1 hx 23 (hb hby d7_4) (by decide) (by decide) (by decide) ?_
  refine P.aloadN X1 hx 24 (hb hby d7_23) rfl rfl rfl ?_
  refine X1.getF hx (host := "") (Or.inl (w25 cx)) Via.refl P1 (hb hby d7_24) ?_
  intro T2 X2
  refine P.iloadN X2 hx 28 (hb hby d7_27) rfl rfl ?_
  refine P.iloadN X2 hx 29 (hb hby d7_28) rfl rfl ?_
  refine P.aloadN X2 hx 30 (hb hby d7_29) rfl rfl rfl ?_
  refine X2.callV hx (w47 cx) (w48 cx) (w50 cx) (w49 cx) (fun _ hZ => nf hZ (w50 cx)) (by decide) P0 (Ct.pay (W := 3) (ct_slen1 cx x u ku c0 h _ _ P0 P1 P2 P3) (w51 cx) (w7 cx) (nle rfl) (nle rfl)) (by rw [hml]; rfl) (argsL := []) (rest := [.int 0, .int k, .ref u]) (lenOf pd13 rfl) rfl rfl (Nat.le_of_eq rfl) (hb hby d7_30) (nle rfl) (nle rfl) ?_
  rintro T3 h3 _ _ _ X3 ⟨rfl, rfl, rfl, J3⟩
  rw [J3] at X3
  refine X3.callS hx (w106 cx) (w107 cx) (w73 cx) (w108 cx) (by decide) (Ct.pay (W := 0) (ct_yu11 cx u ku c0 k h _ _ P3 hr_c0 hk hT) (w108 cx) (w73 cx) (nle rfl) (nle rfl)) (by rw [hml]; rfl) (argsL := [.ref u, .int k, .int 0, .int 1]) (rest := []) (lenOf pd11 rfl) rfl rfl (Nat.le_of_eq rfl) (hb hby d7_33) (nle rfl) (nle rfl) ?_
  rintro T4 h4 _ _ _ X4 ⟨x5, rfl, rfl, rfl, J4, G6⟩
  rw [J4] at X4
  exact WS.retI X4 (WL' := []) (FL' := []) hx hret hlk (hb hby d7_36) (nle rfl) (nle rfl) ⟨x5, rfl, rfl, rfl, rfl, G6⟩
def Q_vl11 (Z : State) (gC : Int32) (gF : Value) (x : Addr) (u : Addr) (c0 : Int32) (k : Int32) (h : Heap) (v : Option Value) (h' : Heap) (WL' FL' : List Addr) : Prop := ∃ r : Int32, v = some (.int r) ∧ WL' = [] ∧ FL' = [] ∧ h' = h ∧ (¬ r < 0)
theorem ct_vl11 {l : Launch} {Z : State} {a0 : Array Value} {gC : Int32} {gF : Value} (cx : Cx a0 Z gC gF) {n0 : Nat} (x : Addr) (u : Addr) (c0 : Int32) (k : Int32) (h : Heap) (WL FL : List Addr) (P0 : StrL Z h x u [c0]) (hk : k = 9 ∨ k = 10 ∨ k = 13) (hT : c0 = k) :
    Ct l Z EL1 n0 (⟨"java/lang/String", "indexOf", "(I)I"⟩ : MethodName) jdk_42_method_79_code 2 (Option.some Jvm.ClassFile.FieldType.int) ({ frames := 3, cells := 0, slots := 0, locals := 46 } : Room) #[(.ref x), (.int k)] h WL FL (Q_vl11 Z gC gF x u c0 k h) := by
  refine Ct.of (plainFor_of_name pn0) ?_
  intro p e s m below meth c s1 hx hby hml hnm hret hlk X0
  refine Wo.cast (f' := (mkF m 0 #[.val (.ref x), .val (.int k)] [])) (by rfl) ?_
  show Wo _ _ _ _ _ _ _ _ _ _ _ s1 (mkF m 0 #[.val (.ref x), .val (.int k)] [])
  refine P.aloadN X0 hx 1 (hb hby d6_0) rfl rfl rfl ?_
  refine P.iloadN X0 hx 2 (hb hby d6_1) rfl rfl ?_
  refine P.iconst X0 hx 3 0 (hb hby d6_2) rfl rfl ?_
  refine X0.callV hx (w36 cx) (w37 cx) (w39 cx) (w38 cx) (fun _ hZ => nf hZ (w39 cx)) (by decide) P0.1 (Ct.pay (W := 0) (ct_zl11 cx x u c0 k h _ _ P0 hk hT) (w40 cx) (w7 cx) (nle rfl) (nle rfl)) (by rw [hml]; rfl) (argsL := [.int k, .int 0]) (rest := []) (lenOf pd10 rfl) rfl rfl (Nat.le_of_eq rfl) (hb hby d6_3) (nle rfl) (nle rfl) ?_
  rintro T1 h1 _ _ _ X1 ⟨x2, rfl, rfl, rfl, J1, G3⟩
  rw [J1] at X1
  exact WS.retI X1 (WL' := []) (FL' := []) hx hret hlk (hb hby d6_6) (nle rfl) (nle rfl) ⟨x2, rfl, rfl, rfl, rfl, G3⟩
def Q_vu11 (Z : State) (gC : Int32) (gF : Value) (x : Addr) (u : Addr) (ku : ClassId) (c0 : Int32) (k : Int32) (h : Heap) (v : Option Value) (h' : Heap) (WL' FL' : List Addr) : Prop := ∃ r : Int32, v = some (.int r) ∧ WL' = [] ∧ FL' = [] ∧ h' = h ∧ (¬ r < 0)
theorem ct_vu11 {l : Launch} {Z : State} {a0 : Array Value} {gC : Int32} {gF : Value} (cx : Cx a0 Z gC gF) {n0 : Nat} (x : Addr) (u : Addr) (ku : ClassId) (c0 : Int32) (k : Int32) (h : Heap) (WL FL : List Addr) (P0 : Exa Z h x "java/lang/String") (P1 : Fld Z h x "java/lang/String" "value" "[B" (.ref u)) (P2 : Fld Z h x "java/lang/String" "coder" "B" (.int 1)) (P3 : Arv Z h u ku .byte (2 : Int32) [(.int (c0.toInt8.toInt32)), (.int ((c0 >>> ((8 : Int32) &&& 31)).toInt8.toInt32))] (.int 0)) (hr_c0 : ¬ c0 < 0 ∧ ¬ (65535 : Int32) < c0) (hk : k = 9 ∨ k = 10 ∨ k = 13) (hT : c0 = k) :
    Ct l Z EL1 n0 (⟨"java/lang/String", "indexOf", "(I)I"⟩ : MethodName) jdk_42_method_79_code 2 (Option.some Jvm.ClassFile.FieldType.int) ({ frames := 6, cells := 0, slots := 0, locals := 87 } : Room) #[(.ref x), (.int k)] h WL FL (Q_vu11 Z gC gF x u ku c0 k h) := by
  refine Ct.of (plainFor_of_name pn0) ?_
  intro p e s m below meth c s1 hx hby hml hnm hret hlk X0
  refine Wo.cast (f' := (mkF m 0 #[.val (.ref x), .val (.int k)] [])) (by rfl) ?_
  show Wo _ _ _ _ _ _ _ _ _ _ _ s1 (mkF m 0 #[.val (.ref x), .val (.int k)] [])
  refine P.aloadN X0 hx 1 (hb hby d6_0) rfl rfl rfl ?_
  refine P.iloadN X0 hx 2 (hb hby d6_1) rfl rfl ?_
  refine P.iconst X0 hx 3 0 (hb hby d6_2) rfl rfl ?_
  refine X0.callV hx (w36 cx) (w37 cx) (w39 cx) (w38 cx) (fun _ hZ => nf hZ (w39 cx)) (by decide) P0 (Ct.pay (W := 0) (ct_zu11 cx x u ku c0 k h _ _ P0 P1 P2 P3 hr_c0 hk hT) (w40 cx) (w7 cx) (nle rfl) (nle rfl)) (by rw [hml]; rfl) (argsL := [.int k, .int 0]) (rest := []) (lenOf pd10 rfl) rfl rfl (Nat.le_of_eq rfl) (hb hby d6_3) (nle rfl) (nle rfl) ?_
  rintro T1 h1 _ _ _ X1 ⟨x2, rfl, rfl, rfl, J1, G3⟩
  rw [J1] at X1
  exact WS.retI X1 (WL' := []) (FL' := []) hx hret hlk (hb hby d6_6) (nle rfl) (nle rfl) ⟨x2, rfl, rfl, rfl, rfl, G3⟩
def Q_xl10 (Z : State) (gC : Int32) (gF : Value) (u : Addr) (ku : ClassId) (c0 : Int32) (k : Int32) (h : Heap) (v : Option Value) (h' : Heap) (WL' FL' : List Addr) : Prop := v = some (.int (-1 : Int32)) ∧ WL' = [] ∧ FL' = [] ∧ h' = h
theorem ct_xl10_1 {l : Launch} {Z : State} {a0 : Array Value} {gC : Int32} {gF : Value} (cx : Cx a0 Z gC gF) {n0 : Nat} (u : Addr) (ku : ClassId) (c0 : Int32) (k : Int32) (h : Heap) (WL FL : List Addr) (P0 : Arv Z h u ku .byte (1 : Int32) [(.int (c0.toInt8.toInt32))] (.int 0)) (hq_c0 : ¬ c0 < 0 ∧ ¬ (255 : Int32) < c0) (hk : k = 9 ∨ k = 10 ∨ k = 13) (hT : ¬ (c0 = k)) (e0 : ¬ c0 = k) :
    Ct l Z EL1 n0 (⟨"java/lang/StringLatin1", "indexOfChar", "([BIII)I"⟩ : MethodName) jdk_43_method_23_code 6 (Option.some Jvm.ClassFile.FieldType.int) ({ frames := 0, cells := 0, slots := 0, locals := 0 } : Room) #[(.ref u), (.int k), (.int 0), (.int 1)] h WL FL (Q_xl10 Z gC gF u ku c0 k h) := by
  refine Ct.of (plainFor_of_name pn3) ?_
  intro p e s m below meth c s1 hx hby hml hnm hret hlk X0
  refine Wo.cast (f' := (mkF m 0 #[.val (.ref u), .val (.int k), .val (.int 0), .val (.int 1), .unset, .unset] [])) (by rfl) ?_
  show Wo _ _ _ _ _ _ _ _ _ _ _ s1 (mkF m 0 #[.val (.ref u), .val (.int k), .val (.int 0), .val (.int 1), .unset, .unset] [])
  refine P.iloadN X0 hx 1 (hb hby d19_0) rfl rfl ?_
  refine P.i2b X0 hx 2 (z := (k.toInt8.toInt32)) (hb hby d19_1) rfl rfl ?_
  refine P.istore X0 hx 4 #[.val (.ref u), .val (.int k), .val (.int 0), .val (.int 1), .val (.int (k.toInt8.toInt32)), .unset] (hb hby d19_2) rfl rfl ?_
  refine P.iloadN X0 hx 5 (hb hby d19_4) rfl rfl ?_
  refine P.istore X0 hx 7 #[.val (.ref u), .val (.int k), .val (.int 0), .val (.int 1), .val (.int (k.toInt8.toInt32)), .val (.int 0)] (hb hby d19_5) rfl rfl ?_
  refine P.iload X0 hx 9 (hb hby d19_7) rfl rfl ?_
  refine P.iloadN X0 hx 10 (hb hby d19_9) rfl rfl ?_
  refine P.icmpNo X0 hx 13 (hb hby d19_10) (by decide) rfl ?_
  refine P.aloadN X0 hx 14 (hb hby d19_13) rfl rfl rfl ?_
  refine P.iload X0 hx 16 (hb hby d19_14) rfl rfl ?_
  refine WS.bld X0 hx P0 (j := (0 : Int32)) (x := (c0.toInt8.toInt32)) (by decide) rfl (hb hby d19_16) ?_
  refine P.iload X0 hx 19 (hb hby d19_17) rfl rfl ?_
  refine P.icmpYes X0 hx 25 (hb hby d19_19) (feq (fun q => e0 ((bk hq_c0 hk).mp q))).2 (by decide) (by decide) ?_
  refine P.iinc X0 hx 28 #[.val (.ref u), .val (.int k), .val (.int 0), .val (.int 1), .val (.int (k.toInt8.toInt32)), .val (.int 1)] (hb hby d19_25) rfl rfl rfl ?_
  refine P.goto X0 hx 7 (hb hby d19_28) (by decide) (by decide) ?_
  refine P.iload X0 hx 9 (hb hby d19_7) rfl rfl ?_
  refine P.iloadN X0 hx 10 (hb hby d19_9) rfl rfl ?_
  refine P.icmpYes X0 hx 31 (hb hby d19_10) (by decide) (by decide) (by decide) ?_
  refine P.iconst X0 hx 32 (-1) (hb hby d19_31) rfl rfl ?_
  exact WS.retI X0 (WL' := []) (FL' := []) hx hret hlk (hb hby d19_32) (nle rfl) (nle rfl) ⟨rfl, rfl, rfl, rfl⟩
theorem ct_xl10 {l : Launch} {Z : State} {a0 : Array Value} {gC : Int32} {gF : Value} (cx : Cx a0 Z gC gF) {n0 : Nat} (u : Addr) (ku : ClassId) (c0 : Int32) (k : Int32) (h : Heap) (WL FL : List Addr) (P0 : Arv Z h u ku .byte (1 : Int32) [(.int (c0.toInt8.toInt32))] (.int 0)) (hq_c0 : ¬ c0 < 0 ∧ ¬ (255 : Int32) < c0) (hk : k = 9 ∨ k = 10 ∨ k = 13) (hT : ¬ (c0 = k)) :
    Ct l Z EL1 n0 (⟨"java/lang/StringLatin1", "indexOfChar", "([BIII)I"⟩ : MethodName) jdk_43_method_23_code 6 (Option.some Jvm.ClassFile.FieldType.int) ({ frames := 0, cells := 0, slots := 0, locals := 0 } : Room) #[(.ref u), (.int k), (.int 0), (.int 1)] h WL FL (Q_xl10 Z gC gF u ku c0 k h) := by
  exact ct_xl10_1 cx u ku c0 k h WL FL P0 hq_c0 hk hT (fun q => hT q)
def Q_yl10 (Z : State) (gC : Int32) (gF : Value) (u : Addr) (ku : ClassId) (c0 : Int32) (k : Int32) (h : Heap) (v : Option Value) (h' : Heap) (WL' FL' : List Addr) : Prop := v = some (.int (-1 : Int32)) ∧ WL' = [] ∧ FL' = [] ∧ h' = h
theorem ct_yl10 {l : Launch} {Z : State} {a0 : Array Value} {gC : Int32} {gF : Value} (cx : Cx a0 Z gC gF) {n0 : Nat} (u : Addr) (ku : ClassId) (c0 : Int32) (k : Int32) (h : Heap) (WL FL : List Addr) (P0 : Arv Z h u ku .byte (1 : Int32) [(.int (c0.toInt8.toInt32))] (.int 0)) (hq_c0 : ¬ c0 < 0 ∧ ¬ (255 : Int32) < c0) (hk : k = 9 ∨ k = 10 ∨ k = 13) (hT : ¬ (c0 = k)) :
    Ct l Z EL1 n0 (⟨"java/lang/StringLatin1", "indexOf", "([BIII)I"⟩ : MethodName) jdk_43_method_22_code 4 (Option.some Jvm.ClassFile.FieldType.int) ({ frames := 1, cells := 0, slots := 0, locals := 17 } : Room) #[(.ref u), (.int k), (.int 0), (.int 1)] h WL FL (Q_yl10 Z gC gF u ku c0 k h) := by
  refine Ct.of (plainFor_of_name pn3) ?_
  intro p e s m below meth c s1 hx hby hml hnm hret hlk X0
  refine Wo.cast (f' := (mkF m 0 #[.val (.ref u), .val (.int k), .val (.int 0), .val (.int 1)] [])) (by rfl) ?_
  show Wo _ _ _ _ _ _ _ _ _ _ _ s1 (mkF m 0 #[.val (.ref u), .val (.int k), .val (.int 0), .val (.int 1)] [])
  refine P.iloadN X0 hx 1 (hb hby d11_0) rfl rfl ?_
  refine X0.callS hx (w61 cx) (w62 cx) (w59 cx) (w63 cx) (by decide) (Ct.pay (W := 0) (ct_cenk cx k h _ _ hk) (w63 cx) (w59 cx) (nle rfl) (nle rfl)) (by rw [hml]; rfl) (argsL := [.int k]) (rest := []) (lenOf pd9 rfl) rfl rfl (Nat.le_of_eq rfl) (hb hby d11_1) (nle rfl) (nle rfl) ?_
  rintro T1 h1 _ _ _ X1 ⟨rfl, rfl, rfl, J1⟩
  rw [J1] at X1
  refine P.ifYes X1 hx 9 (hb hby d11_4) (by decide) (by decide) (by decide) ?_
  refine P.iloadN X1 hx 10 (hb hby d11_9) rfl rfl ?_
  refine P.iconst X1 hx 11 0 (hb hby d11_10) rfl rfl ?_
  refine X1.callS hx (w64 cx) (w65 cx) (w66 cx) (w67 cx) (by decide) (Ct.pay (W := 0) (ct_mmax_0_0 cx  h _ _ ) (w67 cx) (w66 cx) (nle rfl) (nle rfl)) (by rw [hml]; rfl) (argsL := [.int 0, .int 0]) (rest := []) (lenOf pd10 rfl) rfl rfl (Nat.le_of_eq rfl) (hb hby d11_11) (nle rfl) (nle rfl) ?_
  rintro T2 h2 _ _ _ X2 ⟨rfl, rfl, rfl, J2⟩
  rw [J2] at X2
  refine P.istoreN X2 hx 15 #[.val (.ref u), .val (.int k), .val (.int 0), .val (.int 1)] (hb hby d11_14) rfl rfl ?_
  refine P.iloadN X2 hx 16 (hb hby d11_15) rfl rfl ?_
  refine P.aloadN X2 hx 17 (hb hby d11_16) rfl rfl rfl ?_
  refine WS.alen X2 hx P0 (hb hby d11_17) ?_
  refine X2.callS hx (w68 cx) (w69 cx) (w66 cx) (w70 cx) (by decide) (Ct.pay (W := 0) (ct_mmin_1_1 cx  h _ _ ) (w70 cx) (w66 cx) (nle rfl) (nle rfl)) (by rw [hml]; rfl) (argsL := [.int 1, .int 1]) (rest := []) (lenOf pd10 rfl) rfl rfl (Nat.le_of_eq rfl) (hb hby d11_18) (nle rfl) (nle rfl) ?_
  rintro T3 h3 _ _ _ X3 ⟨rfl, rfl, rfl, J3⟩
  rw [J3] at X3
  refine P.istoreN X3 hx 22 #[.val (.ref u), .val (.int k), .val (.int 0), .val (.int 1)] (hb hby d11_21) rfl rfl ?_
  refine P.iloadN X3 hx 23 (hb hby d11_22) rfl rfl ?_
  refine P.iloadN X3 hx 24 (hb hby d11_23) rfl rfl ?_
  refine P.icmpYes X3 hx 29 (hb hby d11_24) (by decide) (by decide) (by decide) ?_
  refine P.aloadN X3 hx 30 (hb hby d11_29) rfl rfl rfl ?_
  refine P.iloadN X3 hx 31 (hb hby d11_30) rfl rfl ?_
  refine P.iloadN X3 hx 32 (hb hby d11_31) rfl rfl ?_
  refine P.iloadN X3 hx 33 (hb hby d11_32) rfl rfl ?_
  refine X3.callS hx (w84 cx) (w85 cx) (w59 cx) (w86 cx) (by decide) (Ct.pay (W := 0) (ct_xl10 cx u ku c0 k h _ _ P0 hq_c0 hk hT) (w86 cx) (w59 cx) (nle rfl) (nle rfl)) (by rw [hml]; rfl) (argsL := [.ref u, .int k, .int 0, .int 1]) (rest := []) (lenOf pd11 rfl) rfl rfl (Nat.le_of_eq rfl) (hb hby d11_33) (nle rfl) (nle rfl) ?_
  rintro T4 h4 _ _ _ X4 ⟨rfl, rfl, rfl, J4⟩
  rw [J4] at X4
  exact WS.retI X4 (WL' := []) (FL' := []) hx hret hlk (hb hby d11_36) (nle rfl) (nle rfl) ⟨rfl, rfl, rfl, rfl⟩
def Q_zl10 (Z : State) (gC : Int32) (gF : Value) (x : Addr) (u : Addr) (c0 : Int32) (k : Int32) (h : Heap) (v : Option Value) (h' : Heap) (WL' FL' : List Addr) : Prop := v = some (.int (-1 : Int32)) ∧ WL' = [] ∧ FL' = [] ∧ h' = h
theorem ct_zl10 {l : Launch} {Z : State} {a0 : Array Value} {gC : Int32} {gF : Value} (cx : Cx a0 Z gC gF) {n0 : Nat} (x : Addr) (u : Addr) (c0 : Int32) (k : Int32) (h : Heap) (WL FL : List Addr) (P0 : StrL Z h x u [c0]) (hk : k = 9 ∨ k = 10 ∨ k = 13) (hT : ¬ (c0 = k)) :
    Ct l Z EL1 n0 (⟨"java/lang/String", "indexOf", "(II)I"⟩ : MethodName) jdk_42_method_80_code 3 (Option.some Jvm.ClassFile.FieldType.int) ({ frames := 2, cells := 0, slots := 0, locals := 32 } : Room) #[(.ref x), (.int k), (.int 0)] h WL FL (Q_zl10 Z gC gF x u c0 k h) := by
  refine Ct.of (plainFor_of_name pn0) ?_
  intro p e s m below meth c s1 hx hby hml hnm hret hlk X0
  refine Wo.cast (f' := (mkF m 0 #[.val (.ref x), .val (.int k), .val (.int 0)] [])) (by rfl) ?_
  show Wo _ _ _ _ _ _ _ _ _ _ _ s1 (mkF m 0 #[.val (.ref x), .val (.int k), .val (.int 0)] [])
  refine P.aloadN X0 hx 1 (hb hby d7_0) rfl rfl rfl ?_
  obtain ⟨k1, A1⟩ := P0.2.2.2.1
  have V1 : Arv Z h u k1 .byte (1 : Int32) [(.int (c0.toInt8.toInt32))] (.int 0) := A1
  refine X0.callV hx (w41 cx) (w42 cx) (w44 cx) (w43 cx) (fun _ hZ => nf hZ (w44 cx)) (by decide) P0.1 (Ct.pay (W := 0) (ct_isLL cx x h _ _ P0.2.2.1) (w45 cx) (w7 cx) (nle rfl) (nle rfl)) (by rw [hml]; rfl) (argsL := []) (rest := []) (lenOf pd12 rfl) rfl rfl (Nat.le_of_eq rfl) (hb hby d7_1) (nle rfl) (nle rfl) ?_
  rintro T2 h2 _ _ _ X2 ⟨rfl, rfl, rfl, J2⟩
  rw [J2] at X2
  refine P.ifNo X2 hx 7 (hb hby d7_4) (by decide) rfl ?_
  refine P.aloadN X2 hx 8 (hb hby d7_7) rfl rfl rfl ?_
  refine X2.getF hx (host := "") (Or.inl (w25 cx)) Via.refl P0.2.1 (hb hby d7_8) ?_
  intro T3 X3
  refine P.iloadN X3 hx 12 (hb hby d7_11) rfl rfl ?_
  refine P.iloadN X3 hx 13 (hb hby d7_12) rfl rfl ?_
  refine P.aloadN X3 hx 14 (hb hby d7_13) rfl rfl rfl ?_
  refine X3.callV hx (w47 cx) (w48 cx) (w50 cx) (w49 cx) (fun _ hZ => nf hZ (w50 cx)) (by decide) P0.1 (pay_len (W := 3) (hln cx) (w6 cx) P0 (X3.sta (S_C cx)) (N_C cx) (nle rfl) (nle rfl)) (by rw [hml]; rfl) (argsL := []) (rest := [.int 0, .int k, .ref u]) (lenOf pd13 rfl) rfl rfl (Nat.le_of_eq rfl) (hb hby d7_14) (nle rfl) (nle rfl) ?_
  rintro T4 h4 _ _ _ X4 ⟨rfl, rfl, rfl, J4⟩
  rw [J4] at X4
  show Wo _ _ _ _ _ _ _ _ _ _ _ T4 (mkF m 17 #[.val (.ref x), .val (.int k), .val (.int 0)] [.int 1, .int 0, .int k, .ref u])
  refine X4.callS hx (w57 cx) (w58 cx) (w59 cx) (w60 cx) (by decide) (Ct.pay (W := 0) (ct_yl10 cx u k1 c0 k h _ _ V1 (P0.2.2.2.2.1 _ (List.mem_of_getElem? (i := 0) rfl)) hk hT) (w60 cx) (w59 cx) (nle rfl) (nle rfl)) (by rw [hml]; rfl) (argsL := [.ref u, .int k, .int 0, .int 1]) (rest := []) (lenOf pd11 rfl) rfl rfl (Nat.le_of_eq rfl) (hb hby d7_17) (nle rfl) (nle rfl) ?_
  rintro T5 h5 _ _ _ X5 ⟨rfl, rfl, rfl, J5⟩
  rw [J5] at X5
  refine P.goto X5 hx 36 (hb hby d7_20) (by decide) (by decide) ?_
  exact WS.retI X5 (WL' := []) (FL' := []) hx hret hlk (hb hby d7_36) (nle rfl) (nle rfl) ⟨rfl, rfl, rfl, rfl⟩
def Q_xu10 (Z : State) (gC : Int32) (gF : Value) (u : Addr) (ku : ClassId) (c0 : Int32) (k : Int32) (h : Heap) (v : Option Value) (h' : Heap) (WL' FL' : List Addr) : Prop := v = some (.int (-1 : Int32)) ∧ WL' = [] ∧ FL' = [] ∧ h' = h
theorem ct_xu10_1 {l : Launch} {Z : State} {a0 : Array Value} {gC : Int32} {gF : Value} (cx : Cx a0 Z gC gF) {n0 : Nat} (u : Addr) (ku : ClassId) (c0 : Int32) (k : Int32) (h : Heap) (WL FL : List Addr) (P0 : Arv Z h u ku .byte (2 : Int32) [(.int (c0.toInt8.toInt32)), (.int ((c0 >>> ((8 : Int32) &&& 31)).toInt8.toInt32))] (.int 0)) (hr_c0 : ¬ c0 < 0 ∧ ¬ (65535 : Int32) < c0) (hk : k = 9 ∨ k = 10 ∨ k = 13) (hT : ¬ (c0 = k)) (e0 : ¬ c0 = k) :
    Ct l Z EL1 n0 (⟨"java/lang/StringUTF16", "indexOfCharUnsafe", "([BIII)I"⟩ : MethodName) jdk_52_method_48_code 5 (Option.some Jvm.ClassFile.FieldType.int) ({ frames := 1, cells := 0, slots := 0, locals := 13 } : Room) #[(.ref u), (.int k), (.int 0), (.int 1)] h WL FL (Q_xu10 Z gC gF u ku c0 k h) := by
  refine Ct.of (plainFor_of_name pn1) ?_
  intro p e s m below meth c s1 hx hby hml hnm hret hlk X0
  refine Wo.cast (f' := (mkF m 0 #[.val (.ref u), .val (.int k), .val (.int 0), .val (.int 1), .unset] [])) (by rfl) ?_
  show Wo _ _ _ _ _ _ _ _ _ _ _ s1 (mkF m 0 #[.val (.ref u), .val (.int k), .val (.int 0), .val (.int 1), .unset] [])
  refine P.iloadN X0 hx 1 (hb hby d31_0) rfl rfl ?_
  refine P.istore X0 hx 3 #[.val (.ref u), .val (.int k), .val (.int 0), .val (.int 1), .val (.int 0)] (hb hby d31_1) rfl rfl ?_
  refine P.iload X0 hx 5 (hb hby d31_3) rfl rfl ?_
  refine P.iloadN X0 hx 6 (hb hby d31_5) rfl rfl ?_
  refine P.icmpNo X0 hx 9 (hb hby d31_6) (by decide) rfl ?_
  refine P.aloadN X0 hx 10 (hb hby d31_9) rfl rfl rfl ?_
  refine P.iload X0 hx 12 (hb hby d31_10) rfl rfl ?_
  refine X0.callS hx (w103 cx) (w104 cx) (w73 cx) (w105 cx) (by decide) (Ct.pay (W := 0) (ct_getc10 cx u ku c0 h _ _ P0 hr_c0) (w105 cx) (w73 cx) (nle rfl) (nle rfl)) (by rw [hml]; rfl) (argsL := [.ref u, .int 0]) (rest := []) (lenOf pd6 rfl) rfl rfl (Nat.le_of_eq rfl) (hb hby d31_12) (nle rfl) (nle rfl) ?_
  rintro T1 h1 _ _ _ X1 ⟨rfl, rfl, rfl, J1⟩
  rw [J1] at X1
  refine P.iloadN X1 hx 16 (hb hby d31_15) rfl rfl ?_
  refine P.icmpYes X1 hx 22 (hb hby d31_16) (feq e0).2 (by decide) (by decide) ?_
  refine P.iinc X1 hx 25 #[.val (.ref u), .val (.int k), .val (.int 0), .val (.int 1), .val (.int 1)] (hb hby d31_22) rfl rfl rfl ?_
  refine P.goto X1 hx 3 (hb hby d31_25) (by decide) (by decide) ?_
  refine P.iload X1 hx 5 (hb hby d31_3) rfl rfl ?_
  refine P.iloadN X1 hx 6 (hb hby d31_5) rfl rfl ?_
  refine P.icmpYes X1 hx 28 (hb hby d31_6) (by decide) (by decide) (by decide) ?_
  refine P.iconst X1 hx 29 (-1) (hb hby d31_28) rfl rfl ?_
  exact WS.retI X1 (WL' := []) (FL' := []) hx hret hlk (hb hby d31_29) (nle rfl) (nle rfl) ⟨rfl, rfl, rfl, rfl⟩
theorem ct_xu10 {l : Launch} {Z : State} {a0 : Array Value} {gC : Int32} {gF : Value} (cx : Cx a0 Z gC gF) {n0 : Nat} (u : Addr) (ku : ClassId) (c0 : Int32) (k : Int32) (h : Heap) (WL FL : List Addr) (P0 : Arv Z h u ku .byte (2 : Int32) [(.int (c0.toInt8.toInt32)), (.int ((c0 >>> ((8 : Int32) &&& 31)).toInt8.toInt32))] (.int 0)) (hr_c0 : ¬ c0 < 0 ∧ ¬ (65535 : Int32) < c0) (hk : k = 9 ∨ k = 10 ∨ k = 13) (hT : ¬ (c0 = k)) :
    Ct l Z EL1 n0 (⟨"java/lang/StringUTF16", "indexOfCharUnsafe", "([BIII)I"⟩ : MethodName) jdk_52_method_48_code 5 (Option.some Jvm.ClassFile.FieldType.int) ({ frames := 1, cells := 0, slots := 0, locals := 13 } : Room) #[(.ref u), (.int k), (.int 0), (.int 1)] h WL FL (Q_xu10 Z gC gF u ku c0 k h) := by
  exact ct_xu10_1 cx u ku c0 k h WL FL P0 hr_c0 hk hT (fun q => hT q)
def Q_wu10 (Z : State) (gC : Int32) (gF : Value) (u : Addr) (ku : ClassId) (c0 : Int32) (k : Int32) (h : Heap) (v : Option Value) (h' : Heap) (WL' FL' : List Addr) : Prop := v = some (.int (-1 : Int32)) ∧ WL' = [] ∧ FL' = [] ∧ h' = h
theorem ct_wu10 {l : Launch} {Z : State} {a0 : Array Value} {gC : Int32} {gF : Value} (cx : Cx a0 Z gC gF) {n0 : Nat} (u : Addr) (ku : ClassId) (c0 : Int32) (k : Int32) (h : Heap) (WL FL : List Addr) (P0 : Arv Z h u ku .byte (2 : Int32) [(.int (c0.toInt8.toInt32)), (.int ((c0 >>> ((8 : Int32) &&& 31)).toInt8.toInt32))] (.int 0)) (hr_c0 : ¬ c0 < 0 ∧ ¬ (65535 : Int32) < c0) (hk : k = 9 ∨ k = 10 ∨ k = 13) (hT : ¬ (c0 = k)) :
    Ct l Z EL1 n0 (⟨"java/lang/StringUTF16", "indexOfChar", "([BIII)I"⟩ : MethodName) jdk_52_method_47_code 4 (Option.some Jvm.ClassFile.FieldType.int) ({ frames := 3, cells := 0, slots := 0, locals := 43 } : Room) #[(.ref u), (.int k), (.int 0), (.int 1)] h WL FL (Q_wu10 Z gC gF u ku c0 k h) := by
  refine Ct.of (plainFor_of_name pn1) ?_
  intro p e s m below meth c s1 hx hby hml hnm hret hlk X0
  refine Wo.cast (f' := (mkF m 0 #[.val (.ref u), .val (.int k), .val (.int 0), .val (.int 1)] [])) (by rfl) ?_
  show Wo _ _ _ _ _ _ _ _ _ _ _ s1 (mkF m 0 #[.val (.ref u), .val (.int k), .val (.int 0), .val (.int 1)] [])
  refine P.iloadN X0 hx 1 (hb hby d26_0) rfl rfl ?_
  refine P.iloadN X0 hx 2 (hb hby d26_1) rfl rfl ?_
  refine P.aloadN X0 hx 3 (hb hby d26_2) rfl rfl rfl ?_
  refine X0.callS hx (w115 cx) (w116 cx) (w73 cx) (w117 cx) (by decide) (Ct.pay (W := 0) (ct_cbu1 cx u ku _ h _ _ P0) (w117 cx) (w73 cx) (nle rfl) (nle rfl)) (by rw [hml]; rfl) (argsL := [.int 0, .int 1, .ref u]) (rest := []) (lenOf pd17 rfl) rfl rfl (Nat.le_of_eq rfl) (hb hby d26_3) (nle rfl) (nle rfl) ?_
  rintro T1 h1 _ _ _ X1 ⟨rfl, rfl, rfl, J1⟩
  rw [J1] at X1
  refine P.aloadN X1 hx 7 (hb hby d26_6) rfl rfl rfl ?_
  refine P.iloadN X1 hx 8 (hb hby d26_7) rfl rfl ?_
  refine P.iloadN X1 hx 9 (hb hby d26_8) rfl rfl ?_
  refine P.iloadN X1 hx 10 (hb hby d26_9) rfl rfl ?_
  refine X1.callS hx (w129 cx) (w130 cx) (w73 cx) (w131 cx) (by decide) (Ct.pay (W := 0) (ct_xu10 cx u ku c0 k h _ _ P0 hr_c0 hk hT) (w131 cx) (w73 cx) (nle rfl) (nle rfl)) (by rw [hml]; rfl) (argsL := [.ref u, .int k, .int 0, .int 1]) (rest := []) (lenOf pd11 rfl) rfl rfl (Nat.le_of_eq rfl) (hb hby d26_10) (nle rfl) (nle rfl) ?_
  rintro T2 h2 _ _ _ X2 ⟨rfl, rfl, rfl, J2⟩
  rw [J2] at X2
  exact WS.retI X2 (WL' := []) (FL' := []) hx hret hlk (hb hby d26_13) (nle rfl) (nle rfl) ⟨rfl, rfl, rfl, rfl⟩
def Q_yu10 (Z : State) (gC : Int32) (gF : Value) (u : Addr) (ku : ClassId) (c0 : Int32) (k : Int32) (h : Heap) (v : Option Value) (h' : Heap) (WL' FL' : List Addr) : Prop := v = some (.int (-1 : Int32)) ∧ WL' = [] ∧ FL' = [] ∧ h' = h
theorem ct_yu10 {l : Launch} {Z : State} {a0 : Array Value} {gC : Int32} {gF : Value} (cx : Cx a0 Z gC gF) {n0 : Nat} (u : Addr) (ku : ClassId) (c0 : Int32) (k : Int32) (h : Heap) (WL FL : List Addr) (P0 : Arv Z h u ku .byte (2 : Int32) [(.int (c0.toInt8.toInt32)), (.int ((c0 >>> ((8 : Int32) &&& 31)).toInt8.toInt32))] (.int 0)) (hr_c0 : ¬ c0 < 0 ∧ ¬ (65535 : Int32) < c0) (hk : k = 9 ∨ k = 10 ∨ k = 13) (hT : ¬ (c0 = k)) :
    Ct l Z EL1 n0 (⟨"java/lang/StringUTF16", "indexOf", "([BIII)I"⟩ : MethodName) jdk_52_method_40_code 4 (Option.some Jvm.ClassFile.FieldType.int) ({ frames := 4, cells := 0, slots := 0, locals := 58 } : Room) #[(.ref u), (.int k), (.int 0), (.int 1)] h WL FL (Q_yu10 Z gC gF u ku c0 k h) := by
  refine Ct.of (plainFor_of_name pn1) ?_
  intro p e s m below meth c s1 hx hby hml hnm hret hlk X0
  refine Wo.cast (f' := (mkF m 0 #[.val (.ref u), .val (.int k), .val (.int 0), .val (.int 1)] [])) (by rfl) ?_
  show Wo _ _ _ _ _ _ _ _ _ _ _ s1 (mkF m 0 #[.val (.ref u), .val (.int k), .val (.int 0), .val (.int 1)] [])
  refine P.iloadN X0 hx 1 (hb hby d25_0) rfl rfl ?_
  refine P.iconst X0 hx 2 0 (hb hby d25_1) rfl rfl ?_
  refine X0.callS hx (w109 cx) (w65 cx) (w66 cx) (w67 cx) (by decide) (Ct.pay (W := 0) (ct_mmax_0_0 cx  h _ _ ) (w67 cx) (w66 cx) (nle rfl) (nle rfl)) (by rw [hml]; rfl) (argsL := [.int 0, .int 0]) (rest := []) (lenOf pd10 rfl) rfl rfl (Nat.le_of_eq rfl) (hb hby d25_2) (nle rfl) (nle rfl) ?_
  rintro T1 h1 _ _ _ X1 ⟨rfl, rfl, rfl, J1⟩
  rw [J1] at X1
  refine P.istoreN X1 hx 6 #[.val (.ref u), .val (.int k), .val (.int 0), .val (.int 1)] (hb hby d25_5) rfl rfl ?_
  refine P.iloadN X1 hx 7 (hb hby d25_6) rfl rfl ?_
  refine P.aloadN X1 hx 8 (hb hby d25_7) rfl rfl rfl ?_
  refine WS.alen X1 hx P0 (hb hby d25_8) ?_
  refine P.iconst X1 hx 10 1 (hb hby d25_9) rfl rfl ?_
  refine P.ishr X1 hx 11 (z := (1 : Int32)) (hb hby d25_10) rfl rfl ?_
  refine X1.callS hx (w110 cx) (w69 cx) (w66 cx) (w70 cx) (by decide) (Ct.pay (W := 0) (ct_mmin_1_1 cx  h _ _ ) (w70 cx) (w66 cx) (nle rfl) (nle rfl)) (by rw [hml]; rfl) (argsL := [.int 1, .int 1]) (rest := []) (lenOf pd10 rfl) rfl rfl (Nat.le_of_eq rfl) (hb hby d25_11) (nle rfl) (nle rfl) ?_
  rintro T2 h2 _ _ _ X2 ⟨rfl, rfl, rfl, J2⟩
  rw [J2] at X2
  refine P.istoreN X2 hx 15 #[.val (.ref u), .val (.int k), .val (.int 0), .val (.int 1)] (hb hby d25_14) rfl rfl ?_
  refine P.iloadN X2 hx 16 (hb hby d25_15) rfl rfl ?_
  refine P.iloadN X2 hx 17 (hb hby d25_16) rfl rfl ?_
  refine P.icmpYes X2 hx 22 (hb hby d25_17) (by decide) (by decide) (by decide) ?_
  refine P.iloadN X2 hx 23 (hb hby d25_22) rfl rfl ?_
  refine WS.ldcI X2 hx (w111 cx) (hb hby d25_23) ?_
  refine P.icmpNo X2 hx 28 (hb hby d25_25) (tlt (kr6 hk)).2.1 rfl ?_
  refine P.aloadN X2 hx 29 (hb hby d25_28) rfl rfl rfl ?_
  refine P.iloadN X2 hx 30 (hb hby d25_29) rfl rfl ?_
  refine P.iloadN X2 hx 31 (hb hby d25_30) rfl rfl ?_
  refine P.iloadN X2 hx 32 (hb hby d25_31) rfl rfl ?_
  refine X2.callS hx (w112 cx) (w113 cx) (w73 cx) (w114 cx) (by decide) (Ct.pay (W := 0) (ct_wu10 cx u ku c0 k h _ _ P0 hr_c0 hk hT) (w114 cx) (w73 cx) (nle rfl) (nle rfl)) (by rw [hml]; rfl) (argsL := [.ref u, .int k, .int 0, .int 1]) (rest := []) (lenOf pd11 rfl) rfl rfl (Nat.le_of_eq rfl) (hb hby d25_32) (nle rfl) (nle rfl) ?_
  rintro T3 h3 _ _ _ X3 ⟨rfl, rfl, rfl, J3⟩
  rw [J3] at X3
  exact WS.retI X3 (WL' := []) (FL' := []) hx hret hlk (hb hby d25_35) (nle rfl) (nle rfl) ⟨rfl, rfl, rfl, rfl⟩
def Q_zu10 (Z : State) (gC : Int32) (gF : Value) (x : Addr) (u : Addr) (ku : ClassId) (c0 : Int32) (k : Int32) (h : Heap) (v : Option Value) (h' : Heap) (WL' FL' : List Addr) : Prop := v = some (.int (-1 : Int32)) ∧ WL' = [] ∧ FL' = [] ∧ h' = h
theorem ct_zu10 {l : Launch} {Z : State} {a0 : Array Value} {gC : Int32} {gF : Value} (cx : Cx a0 Z gC gF) {n0 : Nat} (x : Addr) (u : Addr) (ku : ClassId) (c0 : Int32) (k : Int32) (h : Heap) (WL FL : List Addr) (P0 : Exa Z h x "java/lang/String") (P1 : Fld Z h x "java/lang/String" "value" "[B" (.ref u)) (P2 : Fld Z h x "java/lang/String" "coder" "B" (.int 1)) (P3 : Arv Z h u ku .byte (2 : Int32) [(.int (c0.toInt8.toInt32)), (.int ((c0 >>> ((8 : Int32) &&& 31)).toInt8.toInt32))] (.int 0)) (hr_c0 : ¬ c0 < 0 ∧ ¬ (65535 : Int32) < c0) (hk : k = 9 ∨ k = 10 ∨ k = 13) (hT : ¬ (c0 = k)) :
    Ct l Z EL1 n0 (⟨"java/lang/String", "indexOf", "(II)I"⟩ : MethodName) jdk_42_method_80_code 3 (Option.some Jvm.ClassFile.FieldType.int) ({ frames := 5, cells := 0, slots := 0, locals := 73 } : Room) #[(.ref x), (.int k), (.int 0)] h WL FL (Q_zu10 Z gC gF x u ku c0 k h) := by
  refine Ct.of (plainFor_of_name pn0) ?_
  intro p e s m below meth c s1 hx hby hml hnm hret hlk X0
  refine Wo.cast (f' := (mkF m 0 #[.val (.ref x), .val (.int k), .val (.int 0)] [])) (by rfl) ?_
  show Wo _ _ _ _ _ _ _ _ _ _ _ s1 (mkF m 0 #[.val (.ref x), .val (.int k), .val (.int 0)] [])
  refine P.aloadN X0 hx 1 (hb hby d7_0) rfl rfl rfl ?_
  refine X0.callV hx (w41 cx) (w42 cx) (w44 cx) (w43 cx) (fun _ hZ => nf hZ (w44 cx)) (by decide) P0 (Ct.pay (W := 0) (ct_isLU cx x h _ _ P2) (w45 cx) (w7 cx) (nle rfl) (nle rfl)) (by rw [hml]; rfl) (argsL := []) (rest := []) (lenOf pd12 rfl) rfl rfl (Nat.le_of_eq rfl) (hb hby d7_1) (nle rfl) (nle rfl) ?_
  rintro T1 h1 _ _ _ X1 ⟨rfl, rfl, rfl, J1⟩
  rw [J1] at X1
  refine P.ifYes X1 hx 23 (hb hby d7_4) (by decide) (by decide) (by decide) ?_
  refine P.aloadN X1 hx 24 (hb hby d7_23) rfl rfl rfl ?_
  refine X1.getF hx (host := "") (Or.inl (w25 cx)) Via.refl P1 (hb hby d7_24) ?_
  intro T2 X2
  refine P.iloadN X2 hx 28 (hb hby d7_27) rfl rfl ?_
  refine P.iloadN X2 hx 29 (hb hby d7_28) rfl rfl ?_
  refine P.aloadN X2 hx 30 (hb hby d7_29) rfl rfl rfl ?_
  refine X2.callV hx (w47 cx) (w48 cx) (w50 cx) (w49 cx) (fun _ hZ => nf hZ (w50 cx)) (by decide) P0 (Ct.pay (W := 3) (ct_slen1 cx x u ku c0 h _ _ P0 P1 P2 P3) (w51 cx) (w7 cx) (nle rfl) (nle rfl)) (by rw [hml]; rfl) (argsL := []) (rest := [.int 0, .int k, .ref u]) (lenOf pd13 rfl) rfl rfl (Nat.le_of_eq rfl) (hb hby d7_30) (nle rfl) (nle rfl) ?_
  rintro T3 h3 _ _ _ X3 ⟨rfl, rfl, rfl, J3⟩
  rw [J3] at X3
  refine X3.callS hx (w106 cx) (w107 cx) (w73 cx) (w108 cx) (by decide) (Ct.pay (W := 0) (ct_yu10 cx u ku c0 k h _ _ P3 hr_c0 hk hT) (w108 cx) (w73 cx) (nle rfl) (nle rfl)) (by rw [hml]; rfl) (argsL := [.ref u, .int k, .int 0, .int 1]) (rest := []) (lenOf pd11 rfl) rfl rfl (Nat.le_of_eq rfl) (hb hby d7_33) (nle rfl) (nle rfl) ?_
  rintro T4 h4 _ _ _ X4 ⟨rfl, rfl, rfl, J4⟩
  rw [J4] at X4
  exact WS.retI X4 (WL' := []) (FL' := []) hx hret hlk (hb hby d7_36) (nle rfl) (nle rfl) ⟨rfl, rfl, rfl, rfl⟩
def Q_vl10 (Z : State) (gC : Int32) (gF : Value) (x : Addr) (u : Addr) (c0 : Int32) (k : Int32) (h : Heap) (v : Option Value) (h' : Heap) (WL' FL' : List Addr) : Prop := v = some (.int (-1 : Int32)) ∧ WL' = [] ∧ FL' = [] ∧ h' = h
theorem ct_vl10 {l : Launch} {Z : State} {a0 : Array Value} {gC : Int32} {gF : Value} (cx : Cx a0 Z gC gF) {n0 : Nat} (x : Addr) (u : Addr) (c0 : Int32) (k : Int32) (h : Heap) (WL FL : List Addr) (P0 : StrL Z h x u [c0]) (hk : k = 9 ∨ k = 10 ∨ k = 13) (hT : ¬ (c0 = k)) :
    Ct l Z EL1 n0 (⟨"java/lang/String", "indexOf", "(I)I"⟩ : MethodName) jdk_42_method_79_code 2 (Option.some Jvm.ClassFile.FieldType.int) ({ frames := 3, cells := 0, slots := 0, locals := 46 } : Room) #[(.ref x), (.int k)] h WL FL (Q_vl10 Z gC gF x u c0 k h) := by
  refine Ct.of (plainFor_of_name pn0) ?_
  intro p e s m below meth c s1 hx hby hml hnm hret hlk X0
  refine Wo.cast (f' := (mkF m 0 #[.val (.ref x), .val (.int k)] [])) (by rfl) ?_
  show Wo _ _ _ _ _ _ _ _ _ _ _ s1 (mkF m 0 #[.val (.ref x), .val (.int k)] [])
  refine P.aloadN X0 hx 1 (hb hby d6_0) rfl rfl rfl ?_
  refine P.iloadN X0 hx 2 (hb hby d6_1) rfl rfl ?_
  refine P.iconst X0 hx 3 0 (hb hby d6_2) rfl rfl ?_
  refine X0.callV hx (w36 cx) (w37 cx) (w39 cx) (w38 cx) (fun _ hZ => nf hZ (w39 cx)) (by decide) P0.1 (Ct.pay (W := 0) (ct_zl10 cx x u c0 k h _ _ P0 hk hT) (w40 cx) (w7 cx) (nle rfl) (nle rfl)) (by rw [hml]; rfl) (argsL := [.int k, .int 0]) (rest := []) (lenOf pd10 rfl) rfl rfl (Nat.le_of_eq rfl) (hb hby d6_3) (nle rfl) (nle rfl) ?_
  rintro T1 h1 _ _ _ X1 ⟨rfl, rfl, rfl, J1⟩
  rw [J1] at X1
  exact WS.retI X1 (WL' := []) (FL' := []) hx hret hlk (hb hby d6_6) (nle rfl) (nle rfl) ⟨rfl, rfl, rfl, rfl⟩
def Q_vu10 (Z : State) (gC : Int32) (gF : Value) (x : Addr) (u : Addr) (ku : ClassId) (c0 : Int32) (k : Int32) (h : Heap) (v : Option Value) (h' : Heap) (WL' FL' : List Addr) : Prop := v = some (.int (-1 : Int32)) ∧ WL' = [] ∧ FL' = [] ∧ h' = h
theorem ct_vu10 {l : Launch} {Z : State} {a0 : Array Value} {gC : Int32} {gF : Value} (cx : Cx a0 Z gC gF) {n0 : Nat} (x : Addr) (u : Addr) (ku : ClassId) (c0 : Int32) (k : Int32) (h : Heap) (WL FL : List Addr) (P0 : Exa Z h x "java/lang/String") (P1 : Fld Z h x "java/lang/String" "value" "[B" (.ref u)) (P2 : Fld Z h x "java/lang/String" "coder" "B" (.int 1)) (P3 : Arv Z h u ku .byte (2 : Int32) [(.int (c0.toInt8.toInt32)), (.int ((c0 >>> ((8 : Int32) &&& 31)).toInt8.toInt32))] (.int 0)) (hr_c0 : ¬ c0 < 0 ∧ ¬ (65535 : Int32) < c0) (hk : k = 9 ∨ k = 10 ∨ k = 13) (hT : ¬ (c0 = k)) :
    Ct l Z EL1 n0 (⟨"java/lang/String", "indexOf", "(I)I"⟩ : MethodName) jdk_42_method_79_code 2 (Option.some Jvm.ClassFile.FieldType.int) ({ frames := 6, cells := 0, slots := 0, locals := 87 } : Room) #[(.ref x), (.int k)] h WL FL (Q_vu10 Z gC gF x u ku c0 k h) := by
  refine Ct.of (plainFor_of_name pn0) ?_
  intro p e s m below meth c s1 hx hby hml hnm hret hlk X0
  refine Wo.cast (f' := (mkF m 0 #[.val (.ref x), .val (.int k)] [])) (by rfl) ?_
  show Wo _ _ _ _ _ _ _ _ _ _ _ s1 (mkF m 0 #[.val (.ref x), .val (.int k)] [])
  refine P.aloadN X0 hx 1 (hb hby d6_0) rfl rfl rfl ?_
  refine P.iloadN X0 hx 2 (hb hby d6_1) rfl rfl ?_
  refine P.iconst X0 hx 3 0 (hb hby d6_2) rfl rfl ?_
  refine X0.callV hx (w36 cx) (w37 cx) (w39 cx) (w38 cx) (fun _ hZ => nf hZ (w39 cx)) (by decide) P0 (Ct.pay (W := 0) (ct_zu10 cx x u ku c0 k h _ _ P0 P1 P2 P3 hr_c0 hk hT) (w40 cx) (w7 cx) (nle rfl) (nle rfl)) (by rw [hml]; rfl) (argsL := [.int k, .int 0]) (rest := []) (lenOf pd10 rfl) rfl rfl (Nat.le_of_eq rfl) (hb hby d6_3) (nle rfl) (nle rfl) ?_
  rintro T1 h1 _ _ _ X1 ⟨rfl, rfl, rfl, J1⟩
  rw [J1] at X1
  exact WS.retI X1 (WL' := []) (FL' := []) hx hret hlk (hb hby d6_6) (nle rfl) (nle rfl) ⟨rfl, rfl, rfl, rfl⟩
def Q_xl21 (Z : State) (gC : Int32) (gF : Value) (u : Addr) (ku : ClassId) (c0 : Int32) (c1 : Int32) (k : Int32) (h : Heap) (v : Option Value) (h' : Heap) (WL' FL' : List Addr) : Prop := ∃ r : Int32, v = some (.int r) ∧ WL' = [] ∧ FL' = [] ∧ h' = h ∧ (¬ r < 0)
theorem ct_xl21_0 {l : Launch} {Z : State} {a0 : Array Value} {gC : Int32} {gF : Value} (cx : Cx a0 Z gC gF) {n0 : Nat} (u : Addr) (ku : ClassId) (c0 : Int32) (c1 : Int32) (k : Int32) (h : Heap) (WL FL : List Addr) (P0 : Arv Z h u ku .byte (2 : Int32) [(.int (c0.toInt8.toInt32)), (.int (c1.toInt8.toInt32))] (.int 0)) (hq_c0 : ¬ c0 < 0 ∧ ¬ (255 : Int32) < c0) (hq_c1 : ¬ c1 < 0 ∧ ¬ (255 : Int32) < c1) (hk : k = 9 ∨ k = 10 ∨ k = 13) (hT : c0 = k ∨ c1 = k) (e0 : c0 = k) :
    Ct l Z EL1 n0 (⟨"java/lang/StringLatin1", "indexOfChar", "([BIII)I"⟩ : MethodName) jdk_43_method_23_code 6 (Option.some Jvm.ClassFile.FieldType.int) ({ frames := 0, cells := 0, slots := 0, locals := 0 } : Room) #[(.ref u), (.int k), (.int 0), (.int 2)] h WL FL (Q_xl21 Z gC gF u ku c0 c1 k h) := by
  refine Ct.of (plainFor_of_name pn3) ?_
  intro p e s m below meth c s1 hx hby hml hnm hret hlk X0
  refine Wo.cast (f' := (mkF m 0 #[.val (.ref u), .val (.int k), .val (.int 0), .val (.int 2), .unset, .unset] [])) (by rfl) ?_
  show Wo _ _ _ _ _ _ _ _ _ _ _ s1 (mkF m 0 #[.val (.ref u), .val (.int k), .val (.int 0), .val (.int 2), .unset, .unset] [])
  refine P.iloadN X0 hx 1 (hb hby d19_0) rfl rfl ?_
  refine P.i2b X0 hx 2 (z := (k.toInt8.toInt32)) (hb hby d19_1) rfl rfl ?_
  refine P.istore X0 hx 4 #[.val (.ref u), .val (.int k), .val (.int 0), .val (.int 2), .val (.int (k.toInt8.toInt32)), .unset] (hb hby d19_2) rfl rfl ?_
  refine P.iloadN X0 hx 5 (hb hby d19_4) rfl rfl ?_
  refine P.istore X0 hx 7 #[.val (.ref u), .val (.int k), .val (.int 0), .val (.int 2), .val (.int (k.toInt8.toInt32)), .val (.int 0)] (hb hby d19_5) rfl rfl ?_
  refine P.iload X0 hx 9 (hb hby d19_7) rfl rfl ?_
  refine P.iloadN X0 hx 10 (hb hby d19_9) rfl rfl ?_
  refine P.icmpNo X0 hx 13 (hb hby d19_10) (by decide) rfl ?_
  refine P.aloadN X0 hx 14 (hb hby d19_13) rfl rfl rfl ?_
  refine P.iload X0 hx 16 (hb hby d19_14) rfl rfl ?_
  refine WS.bld X0 hx P0 (j := (0 : Int32)) (x := (c0.toInt8.toInt32)) (by decide) rfl (hb hby d19_16) ?_
  refine P.iload X0 hx 19 (hb hby d19_17) rfl rfl ?_
  refine P.icmpNo X0 hx 22 (hb hby d19_19) (teq ((bk hq_c0 hk).mpr e0)).2 rfl ?_
  refine P.iload X0 hx 24 (hb hby d19_22) rfl rfl ?_
  exact WS.retI X0 (WL' := []) (FL' := []) hx hret hlk (hb hby d19_24) (nle rfl) (nle rfl) ⟨(0 : Int32), rfl, rfl, rfl, rfl, (by decide)⟩
theorem ct_xl21_1 {l : Launch} {Z : State} {a0 : Array Value} {gC : Int32} {gF : Value} (cx : Cx a0 Z gC gF) {n0 : Nat} (u : Addr) (ku : ClassId) (c0 : Int32) (c1 : Int32) (k : Int32) (h : Heap) (WL FL : List Addr) (P0 : Arv Z h u ku .byte (2 : Int32) [(.int (c0.toInt8.toInt32)), (.int (c1.toInt8.toInt32))] (.int 0)) (hq_c0 : ¬ c0 < 0 ∧ ¬ (255 : Int32) < c0) (hq_c1 : ¬ c1 < 0 ∧ ¬ (255 : Int32) < c1) (hk : k = 9 ∨ k = 10 ∨ k = 13) (hT : c0 = k ∨ c1 = k) (e0 : ¬ c0 = k) (e1 : c1 = k) :
    Ct l Z EL1 n0 (⟨"java/lang/StringLatin1", "indexOfChar", "([BIII)I"⟩ : MethodName) jdk_43_method_23_code 6 (Option.some Jvm.ClassFile.FieldType.int) ({ frames := 0, cells := 0, slots := 0, locals := 0 } : Room) #[(.ref u), (.int k), (.int 0), (.int 2)] h WL FL (Q_xl21 Z gC gF u ku c0 c1 k h) := by
  refine Ct.of (plainFor_of_name pn3) ?_
  intro p e s m below meth c s1 hx hby hml hnm hret hlk X0
  refine Wo.cast (f' := (mkF m 0 #[.val (.ref u), .val (.int k), .val (.int 0), .val (.int 2), .unset, .unset] [])) (by rfl) ?_
  show Wo _ _ _ _ _ _ _ _ _ _ _ s1 (mkF m 0 #[.val (.ref u), .val (.int k), .val (.int 0), .val (.int 2), .unset, .unset] [])
  refine P.iloadN X0 hx 1 (hb hby d19_0) rfl rfl ?_
  refine P.i2b X0 hx 2 (z := (k.toInt8.toInt32)) (hb hby d19_1) rfl rfl ?_
  refine P.istore X0 hx 4 #[.val (.ref u), .val (.int k), .val (.int 0), .val (.int 2), .val (.int (k.toInt8.toInt32)), .unset] (hb hby d19_2) rfl rfl ?_
  refine P.iloadN X0 hx 5 (hb hby d19_4) rfl rfl ?_
  refine P.istore X0 hx 7 #[.val (.ref u), .val (.int k), .val (.int 0), .val (.int 2), .val (.int (k.toInt8.toInt32)), .val (.int 0)] (hb hby d19_5) rfl rfl ?_
  refine P.iload X0 hx 9 (hb hby d19_7) rfl rfl ?_
  refine P.iloadN X0 hx 10 (hb hby d19_9) rfl rfl ?_
  refine P.icmpNo X0 hx 13 (hb hby d19_10) (by decide) rfl ?_
  refine P.aloadN X0 hx 14 (hb hby d19_13) rfl rfl rfl ?_
  refine P.iload X0 hx 16 (hb hby d19_14) rfl rfl ?_
  refine WS.bld X0 hx P0 (j := (0 : Int32)) (x := (c0.toInt8.toInt32)) (by decide) rfl (hb hby d19_16) ?_
  refine P.iload X0 hx 19 (hb hby d19_17) rfl rfl ?_
  refine P.icmpYes X0 hx 25 (hb hby d19_19) (feq (fun q => e0 ((bk hq_c0 hk).mp q))).2 (by decide) (by decide) ?_
  refine P.iinc X0 hx 28 #[.val (.ref u), .val (.int k), .val (.int 0), .val (.int 2), .val (.int (k.toInt8.toInt32)), .val (.int 1)] (hb hby d19_25) rfl rfl rfl ?_
  refine P.goto X0 hx 7 (hb hby d19_28) (by decide) (by decide) ?_
  refine P.iload X0 hx 9 (hb hby d19_7) rfl rfl ?_
  refine P.iloadN X0 hx 10 (hb hby d19_9) rfl rfl ?_
  refine P.icmpNo X0 hx 13 (hb hby d19_10) (by decide) rfl ?_
  refine P.aloadN X0 hx 14 (hb hby d19_13) rfl rfl rfl ?_
  refine P.iload X0 hx 16 (hb hby d19_14) rfl rfl ?_
  refine WS.bld X0 hx P0 (j := (1 : Int32)) (x := (c1.toInt8.toInt32)) (by decide) rfl (hb hby d19_16) ?_
  refine P.iload X0 hx 19 (hb hby d19_17) rfl rfl ?_
  refine P.icmpNo X0 hx 22 (hb hby d19_19) (teq ((bk hq_c1 hk).mpr e1)).2 rfl ?_
  refine P.iload X0 hx 24 (hb hby d19_22) rfl rfl ?_
  exact WS.retI X0 (WL' := []) (FL' := []) hx hret hlk (hb hby d19_24) (nle rfl) (nle rfl) ⟨(1 : Int32), rfl, rfl, rfl, rfl, (by decide)⟩
theorem ct_xl21 {l : Launch} {Z : State} {a0 : Array Value} {gC : Int32} {gF : Value} (cx : Cx a0 Z gC gF) {n0 : Nat} (u : Addr) (ku : ClassId) (c0 : Int32) (c1 : Int32) (k : Int32) (h : Heap) (WL FL : List Addr) (P0 : Arv Z h u ku .byte (2 : Int32) [(.int (c0.toInt8.toInt32)), (.int (c1.toInt8.toInt32))] (.int 0)) (hq_c0 : ¬ c0 < 0 ∧ ¬ (255 : Int32) < c0) (hq_c1 : ¬ c1 < 0 ∧ ¬ (255 : Int32) < c1) (hk : k = 9 ∨ k = 10 ∨ k = 13) (hT : c0 = k ∨ c1 = k) :
    Ct l Z EL1 n0 (⟨"java/lang/StringLatin1", "indexOfChar", "([BIII)I"⟩ : MethodName) jdk_43_method_23_code 6 (Option.some Jvm.ClassFile.FieldType.int) ({ frames := 0, cells := 0, slots := 0, locals := 0 } : Room) #[(.ref u), (.int k), (.int 0), (.int 2)] h WL FL (Q_xl21 Z gC gF u ku c0 c1 k h) := by
  by_cases e0 : c0 = k
  · exact ct_xl21_0 cx u ku c0 c1 k h WL FL P0 hq_c0 hq_c1 hk hT e0
  exact ct_xl21_1 cx u ku c0 c1 k h WL FL P0 hq_c0 hq_c1 hk hT e0 (hT.resolve_left e0)
def Q_mmin_2_2 (Z : State) (gC : Int32) (gF : Value) (h : Heap) (v : Option Value) (h' : Heap) (WL' FL' : List Addr) : Prop := v = some (.int 2) ∧ WL' = [] ∧ FL' = [] ∧ h' = h
theorem ct_mmin_2_2 {l : Launch} {Z : State} {a0 : Array Value} {gC : Int32} {gF : Value} (cx : Cx a0 Z gC gF) {n0 : Nat} (h : Heap) (WL FL : List Addr)  :
    Ct l Z EL1 n0 (⟨"java/lang/Math", "min", "(II)I"⟩ : MethodName) jdk_29_method_69_code 2 (Option.some Jvm.ClassFile.FieldType.int) ({ frames := 0, cells := 0, slots := 0, locals := 0 } : Room) #[(.int 2), (.int 2)] h WL FL (Q_mmin_2_2 Z gC gF h) := by
  refine Ct.of (by decide +kernel) ?_
  intro p e s m below meth c s1 hx hby hml hnm hret hlk X0
  refine Wo.cast (f' := (mkF m 0 #[.val (.int 2), .val (.int 2)] [])) (by rfl) ?_
  show Wo _ _ _ _ _ _ _ _ _ _ _ s1 (mkF m 0 #[.val (.int 2), .val (.int 2)] [])
  refine P.iloadN X0 hx 1 (hb hby d14_0) rfl rfl ?_
  refine P.iloadN X0 hx 2 (hb hby d14_1) rfl rfl ?_
  refine P.icmpNo X0 hx 5 (hb hby d14_2) (by decide) rfl ?_
  refine P.iloadN X0 hx 6 (hb hby d14_5) rfl rfl ?_
  refine P.goto X0 hx 10 (hb hby d14_6) (by decide) (by decide) ?_
  exact WS.retI X0 (WL' := []) (FL' := []) hx hret hlk (hb hby d14_10) (nle rfl) (nle rfl) ⟨rfl, rfl, rfl, rfl⟩
def Q_yl21 (Z : State) (gC : Int32) (gF : Value) (u : Addr) (ku : ClassId) (c0 : Int32) (c1 : Int32) (k : Int32) (h : Heap) (v : Option Value) (h' : Heap) (WL' FL' : List Addr) : Prop := ∃ r : Int32, v = some (.int r) ∧ WL' = [] ∧ FL' = [] ∧ h' = h ∧ (¬ r < 0)
theorem ct_yl21 {l : Launch} {Z : State} {a0 : Array Value} {gC : Int32} {gF : Value} (cx : Cx a0 Z gC gF) {n0 : Nat} (u : Addr) (ku : ClassId) (c0 : Int32) (c1 : Int32) (k : Int32) (h : Heap) (WL FL : List Addr) (P0 : Arv Z h u ku .byte (2 : Int32) [(.int (c0.toInt8.toInt32)), (.int (c1.toInt8.toInt32))] (.int 0)) (hq_c0 : ¬ c0 < 0 ∧ ¬ (255 : Int32) < c0) (hq_c1 : ¬ c1 < 0 ∧ ¬ (255 : Int32) < c1) (hk : k = 9 ∨ k = 10 ∨ k = 13) (hT : c0 = k ∨ c1 = k) :
    Ct l Z EL1 n0 (⟨"java/lang/StringLatin1", "indexOf", "([BIII)I"⟩ : MethodName) jdk_43_method_22_code 4 (Option.some Jvm.ClassFile.FieldType.int) ({ frames := 1, cells := 0, slots := 0, locals := 17 } : Room) #[(.ref u), (.int k), (.int 0), (.int 2)] h WL FL (Q_yl21 Z gC gF u ku c0 c1 k h) := by
  refine Ct.of (plainFor_of_name pn3) ?_
  intro p e s m below meth c s1 hx hby hml hnm hret hlk X0
  refine Wo.cast (f' := (mkF m 0 #[.val (.ref u), .val (.int k), .val (.int 0), .val (.int 2)] [])) (by rfl) ?_
  show Wo _ _ _ _ _ _ _ _ _ _ _ s1 (mkF m 0 #[.val (.ref u), .val (.int k), .val (.int 0), .val (.int 2)] [])
  refine P.iloadN X0 hx 1 (hb hby d11_0) rfl rfl ?_
  refine X0.callS hx (w61 cx) (w62 cx) (w59 cx) (w63 cx) (by decide) (Ct.pay (W := 0) (ct_cenk cx k h _ _ hk) (w63 cx) (w59 cx) (nle rfl) (nle rfl)) (by rw [hml]; rfl) (argsL := [.int k]) (rest := []) (lenOf pd9 rfl) rfl rfl (Nat.le_of_eq rfl) (hb hby d11_1) (nle rfl) (nle rfl) ?_
  rintro T1 h1 _ _ _ X1 ⟨rfl, rfl, rfl, J1⟩
  rw [J1] at X1
  refine P.ifYes X1 hx 9 (hb hby d11_4) (by decide) (by decide) (by decide) ?_
  refine P.iloadN X1 hx 10 (hb hby d11_9) rfl rfl ?_
  refine P.iconst X1 hx 11 0 (hb hby d11_10) rfl rfl ?_
  refine X1.callS hx (w64 cx) (w65 cx) (w66 cx) (w67 cx) (by decide) (Ct.pay (W := 0) (ct_mmax_0_0 cx  h _ _ ) (w67 cx) (w66 cx) (nle rfl) (nle rfl)) (by rw [hml]; rfl) (argsL := [.int 0, .int 0]) (rest := []) (lenOf pd10 rfl) rfl rfl (Nat.le_of_eq rfl) (hb hby d11_11) (nle rfl) (nle rfl) ?_
  rintro T2 h2 _ _ _ X2 ⟨rfl, rfl, rfl, J2⟩
  rw [J2] at X2
  refine P.istoreN X2 hx 15 #[.val (.ref u), .val (.int k), .val (.int 0), .val (.int 2)] (hb hby d11_14) rfl rfl ?_
  refine P.iloadN X2 hx 16 (hb hby d11_15) rfl rfl ?_
  refine P.aloadN X2 hx 17 (hb hby d11_16) rfl rfl rfl ?_
  refine WS.alen X2 hx P0 (hb hby d11_17) ?_
  refine X2.callS hx (w68 cx) (w69 cx) (w66 cx) (w70 cx) (by decide) (Ct.pay (W := 0) (ct_mmin_2_2 cx  h _ _ ) (w70 cx) (w66 cx) (nle rfl) (nle rfl)) (by rw [hml]; rfl) (argsL := [.int 2, .int 2]) (rest := []) (lenOf pd10 rfl) rfl rfl (Nat.le_of_eq rfl) (hb hby d11_18) (nle rfl) (nle rfl) ?_
  rintro T3 h3 _ _ _ X3 ⟨rfl, rfl, rfl, J3⟩
  rw [J3] at X3
  refine P.istoreN X3 hx 22 #[.val (.ref u), .val (.int k), .val (.int 0), .val (.int 2)] (hb hby d11_21) rfl rfl ?_
  refine P.iloadN X3 hx 23 (hb hby d11_22) rfl rfl ?_
  refine P.iloadN X3 hx 24 (hb hby d11_23) rfl rfl ?_
  refine P.icmpYes X3 hx 29 (hb hby d11_24) (by decide) (by decide) (by decide) ?_
  refine P.aloadN X3 hx 30 (hb hby d11_29) rfl rfl rfl ?_
  refine P.iloadN X3 hx 31 (hb hby d11_30) rfl rfl ?_
  refine P.iloadN X3 hx 32 (hb hby d11_31) rfl rfl ?_
  refine P.iloadN X3 hx 33 (hb hby d11_32) rfl rfl ?_
  refine X3.callS hx (w84 cx) (w85 cx) (w59 cx) (w86 cx) (by decide) (Ct.pay (W := 0) (ct_xl21 cx u ku c0 c1 k h _ _ P0 hq_c0 hq_c1 hk hT) (w86 cx) (w59 cx) (nle rfl) (nle rfl)) (by rw [hml]; rfl) (argsL := [.ref u, .int k, .int 0, .int 2]) (rest := []) (lenOf pd11 rfl) rfl rfl (Nat.le_of_eq rfl) (hb hby d11_33) (nle rfl) (nle rfl) ?_
  rintro T4 h4 _ _ _ X4 ⟨x5, rfl, rfl, rfl, J4, G6⟩
  rw [J4] at X4
  exact WS.retI X4 (WL' := []) (FL' := []) hx hret hlk (hb hby d11_36) (nle rfl) (nle rfl) ⟨x5, rfl, rfl, rfl, rfl, G6⟩
def Q_zl21 (Z : State) (gC : Int32) (gF : Value) (x : Addr) (u : Addr) (c0 : Int32) (c1 : Int32) (k : Int32) (h : Heap) (v : Option Value) (h' : Heap) (WL' FL' : List Addr) : Prop := ∃ r : Int32, v = some (.int r) ∧ WL' = [] ∧ FL' = [] ∧ h' = h ∧ (¬ r < 0)
theorem ct_zl21 {l : Launch} {Z : State} {a0 : Array Value} {gC : Int32} {gF : Value} (cx : Cx a0 Z gC gF) {n0 : Nat} (x : Addr) (u : Addr) (c0 : Int32) (c1 : Int32) (k : Int32) (h : Heap) (WL FL : List Addr) (P0 : StrL Z h x u [c0, c1]) (hk : k = 9 ∨ k = 10 ∨ k = 13) (hT : c0 = k ∨ c1 = k) :
    Ct l Z EL1 n0 (⟨"java/lang/String", "indexOf", "(II)I"⟩ : MethodName) jdk_42_method_80_code 3 (Option.some Jvm.ClassFile.FieldType.int) ({ frames := 2, cells := 0, slots := 0, locals := 32 } : Room) #[(.ref x), (.int k), (.int 0)] h WL FL (Q_zl21 Z gC gF x u c0 c1 k h) := by
  refine Ct.of (plainFor_of_name pn0) ?_
  intro p e s m below meth c s1 hx hby hml hnm hret hlk X0
  refine Wo.cast (f' := (mkF m 0 #[.val (.ref x), .val (.int k), .val (.int 0)] [])) (by rfl) ?_
  show Wo _ _ _ _ _ _ _ _ _ _ _ s1 (mkF m 0 #[.val (.ref x), .val (.int k), .val (.int 0)] [])
  refine P.aloadN X0 hx 1 (hb hby d7_0) rfl rfl rfl ?_
  obtain ⟨k1, A1⟩ := P0.2.2.2.1
  have V1 : Arv Z h u k1 .byte (2 : Int32) [(.int (c0.toInt8.toInt32)), (.int (c1.toInt8.toInt32))] (.int 0) := A1
  refine X0.callV hx (w41 cx) (w42 cx) (w44 cx) (w43 cx) (fun _ hZ => nf hZ (w44 cx)) (by decide) P0.1 (Ct.pay (W := 0) (ct_isLL cx x h _ _ P0.2.2.1) (w45 cx) (w7 cx) (nle rfl) (nle rfl)) (by rw [hml]; rfl) (argsL := []) (rest := []) (lenOf pd12 rfl) rfl rfl (Nat.le_of_eq rfl) (hb hby d7_1) (nle rfl) (nle rfl) ?_
  rintro T2 h2 _ _ _ X2 ⟨rfl, rfl, rfl, J2⟩
  rw [J2] at X2
  refine P.ifNo X2 hx 7 (hb hby d7_4) (by decide) rfl ?_
  refine P.aloadN X2 hx 8 (hb hby d7_7) rfl rfl rfl ?_
  refine X2.getF hx (host := "") (Or.inl (w25 cx)) Via.refl P0.2.1 (hb hby d7_8) ?_
  intro T3 X3
  refine P.iloadN X3 hx 12 (hb hby d7_11) rfl rfl ?_
  refine P.iloadN X3 hx 13 (hb hby d7_12) rfl rfl ?_
  refine P.aloadN X3 hx 14 (hb hby d7_13) rfl rfl rfl ?_
  refine X3.callV hx (w47 cx) (w48 cx) (w50 cx) (w49 cx) (fun _ hZ => nf hZ (w50 cx)) (by decide) P0.1 (pay_len (W := 3) (hln cx) (w6 cx) P0 (X3.sta (S_C cx)) (N_C cx) (nle rfl) (nle rfl)) (by rw [hml]; rfl) (argsL := []) (rest := [.int 0, .int k, .ref u]) (lenOf pd13 rfl) rfl rfl (Nat.le_of_eq rfl) (hb hby d7_14) (nle rfl) (nle rfl) ?_
  rintro T4 h4 _ _ _ X4 ⟨rfl, rfl, rfl, J4⟩
  rw [J4] at X4
  show Wo _ _ _ _ _ _ _ _ _ _ _ T4 (mkF m 17 #[.val (.ref x), .val (.int k), .val (.int 0)] [.int 2, .int 0, .int k, .ref u])
  refine X4.callS hx (w57 cx) (w58 cx) (w59 cx) (w60 cx) (by decide) (Ct.pay (W := 0) (ct_yl21 cx u k1 c0 c1 k h _ _ V1 (P0.2.2.2.2.1 _ (List.mem_of_getElem? (i := 0) rfl)) (P0.2.2.2.2.1 _ (List.mem_of_getElem? (i := 1) rfl)) hk hT) (w60 cx) (w59 cx) (nle rfl) (nle rfl)) (by rw [hml]; rfl) (argsL := [.ref u, .int k, .int 0, .int 2]) (rest := []) (lenOf pd11 rfl) rfl rfl (Nat.le_of_eq rfl) (hb hby d7_17) (nle rfl) (nle rfl) ?_
  rintro T5 h5 _ _ _ X5 ⟨x6, rfl, rfl, rfl, J5, G7⟩
  rw [J5] at X5
  refine P.goto X5 hx 36 (hb hby d7_20) (by decide) (by decide) ?_
  exact WS.retI X5 (WL' := []) (FL' := []) hx hret hlk (hb hby d7_36) (nle rfl) (nle rfl) ⟨x6, rfl, rfl, rfl, rfl, G7⟩
def Q_xu21 (Z : State) (gC : Int32) (gF : Value) (u : Addr) (ku : ClassId) (c0 : Int32) (c1 : Int32) (k : Int32) (h : Heap) (v : Option Value) (h' : Heap) (WL' FL' : List Addr) : Prop := ∃ r : Int32, v = some (.int r) ∧ WL' = [] ∧ FL' = [] ∧ h' = h ∧ (¬ r < 0)
theorem ct_xu21_0 {l : Launch} {Z : State} {a0 : Array Value} {gC : Int32} {gF : Value} (cx : Cx a0 Z gC gF) {n0 : Nat} (u : Addr) (ku : ClassId) (c0 : Int32) (c1 : Int32) (k : Int32) (h : Heap) (WL FL : List Addr) (P0 : Arv Z h u ku .byte (4 : Int32) [(.int (c0.toInt8.toInt32)), (.int ((c0 >>> ((8 : Int32) &&& 31)).toInt8.toInt32)), (.int (c1.toInt8.toInt32)), (.int ((c1 >>> ((8 : Int32) &&& 31)).toInt8.toInt32))] (.int 0)) (hr_c0 : ¬ c0 < 0 ∧ ¬ (65535 : Int32) < c0) (hr_c1 : ¬ c1 < 0 ∧ ¬ (65535 : Int32) < c1) (hk : k = 9 ∨ k = 10 ∨ k = 13) (hT : c0 = k ∨ c1 = k) (e0 : c0 = k) :
    Ct l Z EL1 n0 (⟨"java/lang/StringUTF16", "indexOfCharUnsafe", "([BIII)I"⟩ : MethodName) jdk_52_method_48_code 5 (Option.some Jvm.ClassFile.FieldType.int) ({ frames := 1, cells := 0, slots := 0, locals := 13 } : Room) #[(.ref u), (.int k), (.int 0), (.int 2)] h WL FL (Q_xu21 Z gC gF u ku c0 c1 k h) := by
  refine Ct.of (plainFor_of_name pn1) ?_
  intro p e s m below meth c s1 hx hby hml hnm hret hlk X0
  refine Wo.cast (f' := (mkF m 0 #[.val (.ref u), .val (.int k), .val (.int 0), .val (.int 2), .unset] [])) (by rfl) ?_
  show Wo _ _ _ _ _ _ _ _ _ _ _ s1 (mkF m 0 #[.val (.ref u), .val (.int k), .val (.int 0), .val (.int 2), .unset] [])
  refine P.iloadN X0 hx 1 (hb hby d31_0) rfl rfl ?_
  refine P.istore X0 hx 3 #[.val (.ref u), .val (.int k), .val (.int 0), .val (.int 2), .val (.int 0)] (hb hby d31_1) rfl rfl ?_
  refine P.iload X0 hx 5 (hb hby d31_3) rfl rfl ?_
  refine P.iloadN X0 hx 6 (hb hby d31_5) rfl rfl ?_
  refine P.icmpNo X0 hx 9 (hb hby d31_6) (by decide) rfl ?_
  refine P.aloadN X0 hx 10 (hb hby d31_9) rfl rfl rfl ?_
  refine P.iload X0 hx 12 (hb hby d31_10) rfl rfl ?_
  refine X0.callS hx (w103 cx) (w104 cx) (w73 cx) (w105 cx) (by decide) (Ct.pay (W := 0) (ct_getc20 cx u ku c0 c1 h _ _ P0 hr_c0) (w105 cx) (w73 cx) (nle rfl) (nle rfl)) (by rw [hml]; rfl) (argsL := [.ref u, .int 0]) (rest := []) (lenOf pd6 rfl) rfl rfl (Nat.le_of_eq rfl) (hb hby d31_12) (nle rfl) (nle rfl) ?_
  rintro T1 h1 _ _ _ X1 ⟨rfl, rfl, rfl, J1⟩
  rw [J1] at X1
  refine P.iloadN X1 hx 16 (hb hby d31_15) rfl rfl ?_
  refine P.icmpNo X1 hx 19 (hb hby d31_16) (teq e0).2 rfl ?_
  refine P.iload X1 hx 21 (hb hby d31_19) rfl rfl ?_
  exact WS.retI X1 (WL' := []) (FL' := []) hx hret hlk (hb hby d31_21) (nle rfl) (nle rfl) ⟨(0 : Int32), rfl, rfl, rfl, rfl, (by decide)⟩
theorem ct_xu21_1 {l : Launch} {Z : State} {a0 : Array Value} {gC : Int32} {gF : Value} (cx : Cx a0 Z gC gF) {n0 : Nat} (u : Addr) (ku : ClassId) (c0 : Int32) (c1 : Int32) (k : Int32) (h : Heap) (WL FL : List Addr) (P0 : Arv Z h u ku .byte (4 : Int32) [(.int (c0.toInt8.toInt32)), (.int ((c0 >>> ((8 : Int32) &&& 31)).toInt8.toInt32)), (.int (c1.toInt8.toInt32)), (.int ((c1 >>> ((8 : Int32) &&& 31)).toInt8.toInt32))] (.int 0)) (hr_c0 : ¬ c0 < 0 ∧ ¬ (65535 : Int32) < c0) (hr_c1 : ¬ c1 < 0 ∧ ¬ (65535 : Int32) < c1) (hk : k = 9 ∨ k = 10 ∨ k = 13) (hT : c0 = k ∨ c1 = k) (e0 : ¬ c0 = k) (e1 : c1 = k) :
    Ct l Z EL1 n0 (⟨"java/lang/StringUTF16", "indexOfCharUnsafe", "([BIII)I"⟩ : MethodName) jdk_52_method_48_code 5 (Option.some Jvm.ClassFile.FieldType.int) ({ frames := 1, cells := 0, slots := 0, locals := 13 } : Room) #[(.ref u), (.int k), (.int 0), (.int 2)] h WL FL (Q_xu21 Z gC gF u ku c0 c1 k h) := by
  refine Ct.of (plainFor_of_name pn1) ?_
  intro p e s m below meth c s1 hx hby hml hnm hret hlk X0
  refine Wo.cast (f' := (mkF m 0 #[.val (.ref u), .val (.int k), .val (.int 0), .val (.int 2), .unset] [])) (by rfl) ?_
  show Wo _ _ _ _ _ _ _ _ _ _ _ s1 (mkF m 0 #[.val (.ref u), .val (.int k), .val (.int 0), .val (.int 2), .unset] [])
  refine P.iloadN X0 hx 1 (hb hby d31_0) rfl rfl ?_
  refine P.istore X0 hx 3 #[.val (.ref u), .val (.int k), .val (.int 0), .val (.int 2), .val (.int 0)] (hb hby d31_1) rfl rfl ?_
  refine P.iload X0 hx 5 (hb hby d31_3) rfl rfl ?_
  refine P.iloadN X0 hx 6 (hb hby d31_5) rfl rfl ?_
  refine P.icmpNo X0 hx 9 (hb hby d31_6) (by decide) rfl ?_
  refine P.aloadN X0 hx 10 (hb hby d31_9) rfl rfl rfl ?_
  refine P.iload X0 hx 12 (hb hby d31_10) rfl rfl ?_
  refine X0.callS hx (w103 cx) (w104 cx) (w73 cx) (w105 cx) (by decide) (Ct.pay (W := 0) (ct_getc20 cx u ku c0 c1 h _ _ P0 hr_c0) (w105 cx) (w73 cx) (nle rfl) (nle rfl)) (by rw [hml]; rfl) (argsL := [.ref u, .int 0]) (rest := []) (lenOf pd6 rfl) rfl rfl (Nat.le_of_eq rfl) (hb hby d31_12) (nle rfl) (nle rfl) ?_
  rintro T1 h1 _ _ _ X1 ⟨rfl, rfl, rfl, J1⟩
  rw [J1] at X1
  refine P.iloadN X1 hx 16 (hb hby d31_15) rfl rfl ?_
  refine P.icmpYes X1 hx 22 (hb hby d31_16) (feq e0).2 (by decide) (by decide) ?_
  refine P.iinc X1 hx 25 #[.val (.ref u), .val (.int k), .val (.int 0), .val (.int 2), .val (.int 1)] (hb hby d31_22) rfl rfl rfl ?_
  refine P.goto X1 hx 3 (hb hby d31_25) (by decide) (by decide) ?_
  refine P.iload X1 hx 5 (hb hby d31_3) rfl rfl ?_
  refine P.iloadN X1 hx 6 (hb hby d31_5) rfl rfl ?_
  refine P.icmpNo X1 hx 9 (hb hby d31_6) (by decide) rfl ?_
  refine P.aloadN X1 hx 10 (hb hby d31_9) rfl rfl rfl ?_
  refine P.iload X1 hx 12 (hb hby d31_10) rfl rfl ?_
  refine X1.callS hx (w103 cx) (w104 cx) (w73 cx) (w105 cx) (by decide) (Ct.pay (W := 0) (ct_getc21 cx u ku c0 c1 h _ _ P0 hr_c1) (w105 cx) (w73 cx) (nle rfl) (nle rfl)) (by rw [hml]; rfl) (argsL := [.ref u, .int 1]) (rest := []) (lenOf pd6 rfl) rfl rfl (Nat.le_of_eq rfl) (hb hby d31_12) (nle rfl) (nle rfl) ?_
  rintro T2 h2 _ _ _ X2 ⟨rfl, rfl, rfl, J2⟩
  rw [J2] at X2
  refine P.iloadN X2 hx 16 (hb hby d31_15) rfl rfl ?_
  refine P.icmpNo X2 hx 19 (hb hby d31_16) (teq e1).2 rfl ?_
  refine P.iload X2 hx 21 (hb hby d31_19) rfl rfl ?_
  exact WS.retI X2 (WL' := []) (FL' := []) hx hret hlk (hb hby d31_21) (nle rfl) (nle rfl) ⟨(1 : Int32), rfl, rfl, rfl, rfl, (by decide)⟩
theorem ct_xu21 {l : Launch} {Z : State} {a0 : Array Value} {gC : Int32} {gF : Value} (cx : Cx a0 Z gC gF) {n0 : Nat} (u : Addr) (ku : ClassId) (c0 : Int32) (c1 : Int32) (k : Int32) (h : Heap) (WL FL : List Addr) (P0 : Arv Z h u ku .byte (4 : Int32) [(.int (c0.toInt8.toInt32)), (.int ((c0 >>> ((8 : Int32) &&& 31)).toInt8.toInt32)), (.int (c1.toInt8.toInt32)), (.int ((c1 >>> ((8 : Int32) &&& 31)).toInt8.toInt32))] (.int 0)) (hr_c0 : ¬ c0 < 0 ∧ ¬ (65535 : Int32) < c0) (hr_c1 : ¬ c1 < 0 ∧ ¬ (65535 : Int32) < c1) (hk : k = 9 ∨ k = 10 ∨ k = 13) (hT : c0 = k ∨ c1 = k) :
    Ct l Z EL1 n0 (⟨"java/lang/StringUTF16", "indexOfCharUnsafe", "([BIII)I"⟩ : MethodName) jdk_52_method_48_code 5 (Option.some Jvm.ClassFile.FieldType.int) ({ frames := 1, cells := 0, slots := 0, locals := 13 } : Room) #[(.ref u), (.int k), (.int 0), (.int 2)] h WL FL (Q_xu21 Z gC gF u ku c0 c1 k h) := by
  by_cases e0 : c0 = k
  · exact ct_xu21_0 cx u ku c0 c1 k h WL FL P0 hr_c0 hr_c1 hk hT e0
  exact ct_xu21_1 cx u ku c0 c1 k h WL FL P0 hr_c0 hr_c1 hk hT e0 (hT.resolve_left e0)
def Q_cfti_0_2_2_O (Z : State) (gC : Int32) (gF : Value) (o3 : Value) (h : Heap) (v : Option Value) (h' : Heap) (WL' FL' : List Addr) : Prop := v = some (.int 0) ∧ WL' = [] ∧ FL' = [] ∧ h' = h
theorem ct_cfti_0_2_2_O {l : Launch} {Z : State} {a0 : Array Value} {gC : Int32} {gF : Value} (cx : Cx a0 Z gC gF) {n0 : Nat} (o3 : Value) (h : Heap) (WL FL : List Addr) (h_o3 : o3.isRef = true) :
    Ct l Z EL1 n0 (⟨"jdk/internal/util/Preconditions", "checkFromToIndex", "(IIILjava/util/function/BiFunction;)I"⟩ : MethodName) jdk_41_method_12_code 4 (Option.some Jvm.ClassFile.FieldType.int) ({ frames := 0, cells := 0, slots := 0, locals := 0 } : Room) #[(.int 0), (.int 2), (.int 2), o3] h WL FL (Q_cfti_0_2_2_O Z gC gF o3 h) := by
  refine Ct.of (plainFor_of_name pn4) ?_
  intro p e s m below meth c s1 hx hby hml hnm hret hlk X0
  refine Wo.cast (f' := (mkF m 0 #[.val (.int 0), .val (.int 2), .val (.int 2), .val o3] [])) (by rcases ref_cases h_o3 with rfl | ⟨_, rfl⟩ <;> first | rfl | (simp [entryFrame, mkF, argsToLocals, Value.category]; done)) ?_
  show Wo _ _ _ _ _ _ _ _ _ _ _ s1 (mkF m 0 #[.val (.int 0), .val (.int 2), .val (.int 2), .val o3] [])
  refine P.iloadN X0 hx 1 (hb hby d30_0) rfl rfl ?_
  refine P.ifNo X0 hx 4 (hb hby d30_1) (by decide) rfl ?_
  refine P.iloadN X0 hx 5 (hb hby d30_4) rfl rfl ?_
  refine P.iloadN X0 hx 6 (hb hby d30_5) rfl rfl ?_
  refine P.icmpNo X0 hx 9 (hb hby d30_6) (by decide) rfl ?_
  refine P.iloadN X0 hx 10 (hb hby d30_9) rfl rfl ?_
  refine P.iloadN X0 hx 11 (hb hby d30_10) rfl rfl ?_
  refine P.icmpYes X0 hx 22 (hb hby d30_11) (by decide) (by decide) (by decide) ?_
  refine P.iloadN X0 hx 23 (hb hby d30_22) rfl rfl ?_
  exact WS.retI X0 (WL' := []) (FL' := []) hx hret hlk (hb hby d30_23) (nle rfl) (nle rfl) ⟨rfl, rfl, rfl, rfl⟩
def Q_cbbe_0_2_2 (Z : State) (gC : Int32) (gF : Value) (h : Heap) (v : Option Value) (h' : Heap) (WL' FL' : List Addr) : Prop := v = none ∧ WL' = [] ∧ FL' = [] ∧ h' = h
theorem ct_cbbe_0_2_2 {l : Launch} {Z : State} {a0 : Array Value} {gC : Int32} {gF : Value} (cx : Cx a0 Z gC gF) {n0 : Nat} (h : Heap) (WL FL : List Addr)  :
    Ct l Z EL1 n0 (⟨"java/lang/String", "checkBoundsBeginEnd", "(III)V"⟩ : MethodName) jdk_42_method_158_code 3 (Option.none : Option Jvm.ClassFile.FieldType) ({ frames := 1, cells := 0, slots := 0, locals := 15 } : Room) #[(.int 0), (.int 2), (.int 2)] h WL FL (Q_cbbe_0_2_2 Z gC gF h) := by
  refine Ct.of (plainFor_of_name pn0) ?_
  intro p e s m below meth c s1 hx hby hml hnm hret hlk X0
  refine Wo.cast (f' := (mkF m 0 #[.val (.int 0), .val (.int 2), .val (.int 2)] [])) (by rfl) ?_
  show Wo _ _ _ _ _ _ _ _ _ _ _ s1 (mkF m 0 #[.val (.int 0), .val (.int 2), .val (.int 2)] [])
  refine P.iloadN X0 hx 1 (hb hby d29_0) rfl rfl ?_
  refine P.iloadN X0 hx 2 (hb hby d29_1) rfl rfl ?_
  refine P.iloadN X0 hx 3 (hb hby d29_2) rfl rfl ?_
  refine X0.getS hx (w124 cx) Via.refl (S_F cx) (hb hby d29_3) ?_
  intro T1 X1
  refine X1.callS hx (w126 cx) (w127 cx) (w125 cx) (w128 cx) (by decide) (Ct.pay (W := 0) (ct_cfti_0_2_2_O cx gF h _ _ (R_F cx)) (w128 cx) (w125 cx) (nle rfl) (nle rfl)) (by rw [hml]; rfl) (argsL := [.int 0, .int 2, .int 2, gF]) (rest := []) (lenOf pd15 rfl) rfl rfl (Nat.le_of_eq rfl) (hb hby d29_6) (nle rfl) (nle rfl) ?_
  rintro T2 h2 _ _ _ X2 ⟨rfl, rfl, rfl, J2⟩
  rw [J2] at X2
  refine P.pop X2 hx 10 (hb hby d29_9) rfl rfl ?_
  exact WS.retV X2 (WL' := []) (FL' := []) hx hret hlk (hb hby d29_10) (nle rfl) (nle rfl) ⟨rfl, rfl, rfl, rfl⟩
def Q_cbu2 (Z : State) (gC : Int32) (gF : Value) (u : Addr) (ku : ClassId) (vs : List Value) (h : Heap) (v : Option Value) (h' : Heap) (WL' FL' : List Addr) : Prop := v = none ∧ WL' = [] ∧ FL' = [] ∧ h' = h
theorem ct_cbu2 {l : Launch} {Z : State} {a0 : Array Value} {gC : Int32} {gF : Value} (cx : Cx a0 Z gC gF) {n0 : Nat} (u : Addr) (ku : ClassId) (vs : List Value) (h : Heap) (WL FL : List Addr) (P0 : Arv Z h u ku .byte (4 : Int32) vs (.int 0)) :
    Ct l Z EL1 n0 (⟨"java/lang/StringUTF16", "checkBoundsBeginEnd", "(II[B)V"⟩ : MethodName) jdk_52_method_93_code 3 (Option.none : Option Jvm.ClassFile.FieldType) ({ frames := 2, cells := 0, slots := 0, locals := 29 } : Room) #[(.int 0), (.int 2), (.ref u)] h WL FL (Q_cbu2 Z gC gF u ku vs h) := by
  refine Ct.of (plainFor_of_name pn1) ?_
  intro p e s m below meth c s1 hx hby hml hnm hret hlk X0
  refine Wo.cast (f' := (mkF m 0 #[.val (.int 0), .val (.int 2), .val (.ref u)] [])) (by rfl) ?_
  show Wo _ _ _ _ _ _ _ _ _ _ _ s1 (mkF m 0 #[.val (.int 0), .val (.int 2), .val (.ref u)] [])
  refine P.iloadN X0 hx 1 (hb hby d27_0) rfl rfl ?_
  refine P.iloadN X0 hx 2 (hb hby d27_1) rfl rfl ?_
  refine P.aloadN X0 hx 3 (hb hby d27_2) rfl rfl rfl ?_
  refine X0.callS hx (w118 cx) (w119 cx) (w73 cx) (w120 cx) (by decide) (Ct.pay (W := 2) (ct_ulen2 cx u ku _ h _ _ P0) (w120 cx) (w73 cx) (nle rfl) (nle rfl)) (by rw [hml]; rfl) (argsL := [.ref u]) (rest := [.int 2, .int 0]) (lenOf pd14 rfl) rfl rfl (Nat.le_of_eq rfl) (hb hby d27_3) (nle rfl) (nle rfl) ?_
  rintro T1 h1 _ _ _ X1 ⟨rfl, rfl, rfl, J1⟩
  rw [J1] at X1
  refine X1.callS hx (w121 cx) (w122 cx) (w7 cx) (w123 cx) (by decide) (Ct.pay (W := 0) (ct_cbbe_0_2_2 cx  h _ _ ) (w123 cx) (w7 cx) (nle rfl) (nle rfl)) (by rw [hml]; rfl) (argsL := [.int 0, .int 2, .int 2]) (rest := []) (lenOf pd16 rfl) rfl rfl (Nat.le_of_eq rfl) (hb hby d27_6) (nle rfl) (nle rfl) ?_
  rintro T2 h2 _ _ _ X2 ⟨rfl, rfl, rfl, J2⟩
  rw [J2] at X2
  exact WS.retV X2 (WL' := []) (FL' := []) hx hret hlk (hb hby d27_9) (nle rfl) (nle rfl) ⟨rfl, rfl, rfl, rfl⟩
def Q_wu21 (Z : State) (gC : Int32) (gF : Value) (u : Addr) (ku : ClassId) (c0 : Int32) (c1 : Int32) (k : Int32) (h : Heap) (v : Option Value) (h' : Heap) (WL' FL' : List Addr) : Prop := ∃ r : Int32, v = some (.int r) ∧ WL' = [] ∧ FL' = [] ∧ h' = h ∧ (¬ r < 0)
theorem ct_wu21 {l : Launch} {Z : State} {a0 : Array Value} {gC : Int32} {gF : Value} (cx : Cx a0 Z gC gF) {n0 : Nat} (u : Addr) (ku : ClassId) (c0 : Int32) (c1 : Int32) (k : Int32) (h : Heap) (WL FL : List Addr) (P0 : Arv Z h u ku .byte (4 : Int32) [(.int (c0.toInt8.toInt32)), (.int ((c0 >>> ((8 : Int32) &&& 31)).toInt8.toInt32)), (.int (c1.toInt8.toInt32)), (.int ((c1 >>> ((8 : Int32) &&& 31)).toInt8.toInt32))] (.int 0)) (hr_c0 : ¬ c0 < 0 ∧ ¬ (65535 : Int32) < c0) (hr_c1 : ¬ c1 < 0 ∧ ¬ (65535 : Int32) < c1) (hk : k = 9 ∨ k = 10 ∨ k = 13) (hT : c0 = k ∨ c1 = k) :
    Ct l Z EL1 n0 (⟨"java/lang/StringUTF16", "indexOfChar", "([BIII)I"⟩ : MethodName) jdk_52_method_47_code 4 (Option.some Jvm.ClassFile.FieldType.int) ({ frames := 3, cells := 0, slots := 0, locals := 43 } : Room) #[(.ref u), (.int k), (.int 0), (.int 2)] h WL FL (Q_wu21 Z gC gF u ku c0 c1 k h) := by
  refine Ct.of (plainFor_of_name pn1) ?_
  intro p e s m below meth c s1 hx hby hml hnm hret hlk X0
  refine Wo.cast (f' := (mkF m 0 #[.val (.ref u), .val (.int k), .val (.int 0), .val (.int 2)] [])) (by rfl) ?_
  show Wo _ _ _ _ _ _ _ _ _ _ _ s1 (mkF m 0 #[.val (.ref u), .val (.int k), .val (.int 0), .val (.int 2)] [])
  refine P.iloadN X0 hx 1 (hb hby d26_0) rfl rfl ?_
  refine P.iloadN X0 hx 2 (hb hby d26_1) rfl rfl ?_
  refine P.aloadN X0 hx 3 (hb hby d26_2) rfl rfl rfl ?_
  refine X0.callS hx (w115 cx) (w116 cx) (w73 cx) (w117 cx) (by decide) (Ct.pay (W := 0) (ct_cbu2 cx u ku _ h _ _ P0) (w117 cx) (w73 cx) (nle rfl) (nle rfl)) (by rw [hml]; rfl) (argsL := [.int 0, .int 2, .ref u]) (rest := []) (lenOf pd17 rfl) rfl rfl (Nat.le_of_eq rfl) (hb hby d26_3) (nle rfl) (nle rfl) ?_
  rintro T1 h1 _ _ _ X1 ⟨rfl, rfl, rfl, J1⟩
  rw [J1] at X1
  refine P.aloadN X1 hx 7 (hb hby d26_6) rfl rfl rfl ?_
  refine P.iloadN X1 hx 8 (hb hby d26_7) rfl rfl ?_
  refine P.iloadN X1 hx 9 (hb hby d26_8) rfl rfl ?_
  refine P.iloadN X1 hx 10 (hb hby d26_9) rfl rfl ?_
  refine X1.callS hx (w129 cx) (w130 cx) (w73 cx) (w131 cx) (by decide) (Ct.pay (W := 0) (ct_xu21 cx u ku c0 c1 k h _ _ P0 hr_c0 hr_c1 hk hT) (w131 cx) (w73 cx) (nle rfl) (nle rfl)) (by rw [hml]; rfl) (argsL := [.ref u, .int k, .int 0, .int 2]) (rest := []) (lenOf pd11 rfl) rfl rfl (Nat.le_of_eq rfl) (hb hby d26_10) (nle rfl) (nle rfl) ?_
  rintro T2 h2 _ _ _ X2 ⟨x3, rfl, rfl, rfl, J2, G4⟩
  rw [J2] at X2
  exact WS.retI X2 (WL' := []) (FL' := []) hx hret hlk (hb hby d26_13) (nle rfl) (nle rfl) ⟨x3, rfl, rfl, rfl, rfl, G4⟩
def Q_yu21 (Z : State) (gC : Int32) (gF : Value) (u : Addr) (ku : ClassId) (c0 : Int32) (c1 : Int32) (k : Int32) (h : Heap) (v : Option Value) (h' : Heap) (WL' FL' : List Addr) : Prop := ∃ r : Int32, v = some (.int r) ∧ WL' = [] ∧ FL' = [] ∧ h' = h ∧ (¬ r < 0)
theorem ct_yu21 {l : Launch} {Z : State} {a0 : Array Value} {gC : Int32} {gF : Value} (cx : Cx a0 Z gC gF) {n0 : Nat} (u : Addr) (ku : ClassId) (c0 : Int32) (c1 : Int32) (k : Int32) (h : Heap) (WL FL : List Addr) (P0 : Arv Z h u ku .byte (4 : Int32) [(.int (c0.toInt8.toInt32)), (.int ((c0 >>> ((8 : Int32) &&& 31)).toInt8.toInt32)), (.int (c1.toInt8.toInt32)), (.int ((c1 >>> ((8 : Int32) &&& 31)).toInt8.toInt32))] (.int 0)) (hr_c0 : ¬ c0 < 0 ∧ ¬ (65535 : Int32) < c0) (hr_c1 : ¬ c1 < 0 ∧ ¬ (65535 : Int32) < c1) (hk : k = 9 ∨ k = 10 ∨ k = 13) (hT : c0 = k ∨ c1 = k) :
    Ct l Z EL1 n0 (⟨"java/lang/StringUTF16", "indexOf", "([BIII)I"⟩ : MethodName) jdk_52_method_40_code 4 (Option.some Jvm.ClassFile.FieldType.int) ({ frames := 4, cells := 0, slots := 0, locals := 58 } : Room) #[(.ref u), (.int k), (.int 0), (.int 2)] h WL FL (Q_yu21 Z gC gF u ku c0 c1 k h) := by
  refine Ct.of (plainFor_of_name pn1) ?_
  intro p e s m below meth c s1 hx hby hml hnm hret hlk X0
  refine Wo.cast (f' := (mkF m 0 #[.val (.ref u), .val (.int k), .val (.int 0), .val (.int 2)] [])) (by rfl) ?_
  show Wo _ _ _ _ _ _ _ _ _ _ _ s1 (mkF m 0 #[.val (.ref u), .val (.int k), .val (.int 0), .val (.int 2)] [])
  refine P.iloadN X0 hx 1 (hb hby d25_0) rfl rfl ?_
  refine P.iconst X0 hx 2 0 (hb hby d25_1) rfl rfl ?_
  refine X0.callS hx (w109 cx) (w65 cx) (w66 cx) (w67 cx) (by decide) (Ct.pay (W := 0) (ct_mmax_0_0 cx  h _ _ ) (w67 cx) (w66 cx) (nle rfl) (nle rfl)) (by rw [hml]; rfl) (argsL := [.int 0, .int 0]) (rest := []) (lenOf pd10 rfl) rfl rfl (Nat.le_of_eq rfl) (hb hby d25_2) (nle rfl) (nle rfl) ?_
  rintro T1 h1 _ _ _ X1 ⟨rfl, rfl, rfl, J1⟩
  rw [J1] at X1
  refine P.istoreN X1 hx 6 #[.val (.ref u), .val (.int k), .val (.int 0), .val (.int 2)] (hb hby d25_5) rfl rfl ?_
  refine P.iloadN X1 hx 7 (hb hby d25_6) rfl rfl ?_
  refine P.aloadN X1 hx 8 (hb hby d25_7) rfl rfl rfl ?_
  refine WS.alen X1 hx P0 (hb hby d25_8) ?_
  refine P.iconst X1 hx 10 1 (hb hby d25_9) rfl rfl ?_
  refine P.ishr X1 hx 11 (z := (2 : Int32)) (hb hby d25_10) rfl rfl ?_
  refine X1.callS hx (w110 cx) (w69 cx) (w66 cx) (w70 cx) (by decide) (Ct.pay (W := 0) (ct_mmin_2_2 cx  h _ _ ) (w70 cx) (w66 cx) (nle rfl) (nle rfl)) (by rw [hml]; rfl) (argsL := [.int 2, .int 2]) (rest := []) (lenOf pd10 rfl) rfl rfl (Nat.le_of_eq rfl) (hb hby d25_11) (nle rfl) (nle rfl) ?_
  rintro T2 h2 _ _ _ X2 ⟨rfl, rfl, rfl, J2⟩
  rw [J2] at X2
  refine P.istoreN X2 hx 15 #[.val (.ref u), .val (.int k), .val (.int 0), .val (.int 2)] (hb hby d25_14) rfl rfl ?_
  refine P.iloadN X2 hx 16 (hb hby d25_15) rfl rfl ?_
  refine P.iloadN X2 hx 17 (hb hby d25_16) rfl rfl ?_
  refine P.icmpYes X2 hx 22 (hb hby d25_17) (by decide) (by decide) (by decide) ?_
  refine P.iloadN X2 hx 23 (hb hby d25_22) rfl rfl ?_
  refine WS.ldcI X2 hx (w111 cx) (hb hby d25_23) ?_
  refine P.icmpNo X2 hx 28 (hb hby d25_25) (tlt (kr6 hk)).2.1 rfl ?_
  refine P.aloadN X2 hx 29 (hb hby d25_28) rfl rfl rfl ?_
  refine P.iloadN X2 hx 30 (hb hby d25_29) rfl rfl ?_
  refine P.iloadN X2 hx 31 (hb hby d25_30) rfl rfl ?_
  refine P.iloadN X2 hx 32 (hb hby d25_31) rfl rfl ?_
  refine X2.callS hx (w112 cx) (w113 cx) (w73 cx) (w114 cx) (by decide) (Ct.pay (W := 0) (ct_wu21 cx u ku c0 c1 k h _ _ P0 hr_c0 hr_c1 hk hT) (w114 cx) (w73 cx) (nle rfl) (nle rfl)) (by rw [hml]; rfl) (argsL := [.ref u, .int k, .int 0, .int 2]) (rest := []) (lenOf pd11 rfl) rfl rfl (Nat.le_of_eq rfl) (hb hby d25_32) (nle rfl) (nle rfl) ?_
  rintro T3 h3 _ _ _ X3 ⟨x4, rfl, rfl, rfl, J3, G5⟩
  rw [J3] at X3
  exact WS.retI X3 (WL' := []) (FL' := []) hx hret hlk (hb hby d25_35) (nle rfl) (nle rfl) ⟨x4, rfl, rfl, rfl, rfl, G5⟩
def Q_zu21 (Z : State) (gC : Int32) (gF : Value) (x : Addr) (u : Addr) (ku : ClassId) (c0 : Int32) (c1 : Int32) (k : Int32) (h : Heap) (v : Option Value) (h' : Heap) (WL' FL' : List Addr) : Prop := ∃ r : Int32, v = some (.int r) ∧ WL' = [] ∧ FL' = [] ∧ h' = h ∧ (¬ r < 0)
theorem ct_zu21 {l : Launch} {Z : State} {a0 : Array Value} {gC : Int32} {gF : Value} (cx : Cx a0 Z gC gF) {n0 : Nat} (x : Addr) (u : Addr) (ku : ClassId) (c0 : Int32) (c1 : Int32) (k : Int32) (h : Heap) (WL FL : List Addr) (P0 : Exa Z h x "java/lang/String") (P1 : Fld Z h x "java/lang/String" "value" "[B" (.ref u)) (P2 : Fld Z h x "java/lang/String" "coder" "B" (.int 1)) (P3 : Arv Z h u ku .byte (4 : Int32) [(.int (c0.toInt8.toInt32)), (.int ((c0 >>> ((8 : Int32) &&& 31)).toInt8.toInt32)), (.int (c1.toInt8.toInt32)), (.int ((c1 >>> ((8 : Int32) &&& 31)).toInt8.toInt32))] (.int 0)) (hr_c0 : ¬ c0 < 0 ∧ ¬ (65535 : Int32) < c0) (hr_c1 : ¬ c1 < 0 ∧ ¬ (65535 : Int32) < c1) (hk : k = 9 ∨ k = 10 ∨ k = 13) (hT : c0 = k ∨ c1 = k) :
    Ct l Z EL1 n0 (⟨"java/lang/String", "indexOf", "(II)I"⟩ : MethodName) jdk_42_method_80_code 3 (Option.some Jvm.ClassFile.FieldType.int) ({ frames := 5, cells := 0, slots := 0, locals := 73 } : Room) #[(.ref x), (.int k), (.int 0)] h WL FL (Q_zu21 Z gC gF x u ku c0 c1 k h) := by
  refine Ct.of (plainFor_of_name pn0) ?_
  intro p e s m below meth c s1 hx hby hml hnm hret hlk X0
  refine Wo.cast (f' := (mkF m 0 #[.val (.ref x), .val (.int k), .val (.int 0)] [])) (by rfl) ?_
  show Wo _ _ _ _ _ _ _ _ _ _ _ s1 (mkF m 0 #[.val (.ref x), .val (.int k), .val (.int 0)] [])
  refine P.aloadN X0 hx 1 (hb hby d7_0) rfl rfl rfl ?_
  refine X0.callV hx (w41 cx) (w42 cx) (w44 cx) (w43 cx) (fun _ hZ => nf hZ (w44 cx)) (by decide) P0 (Ct.pay (W := 0) (ct_isLU cx x h _ _ P2) (w45 cx) (w7 cx) (nle rfl) (nle rfl)) (by rw [hml]; rfl) (argsL := []) (rest := []) (lenOf pd12 rfl) rfl rfl (Nat.le_of_eq rfl) (hb hby d7_1) (nle rfl) (nle rfl) ?_
  rintro T1 h1 _ _ _ X1 ⟨rfl, rfl, rfl, J1⟩
  rw [J1] at X1
  refine P.ifYes X1 hx 23 (hb hby d7_4) (by decide) (by decide) (by decide) ?_
  refine P.aloadN X1 hx 24 (hb hby d7_23) rfl rfl rfl ?_
  refine X1.getF hx (host := "") (Or.inl (w25 cx)) Via.refl P1 (hb hby d7_24) ?_
  intro T2 X2
  refine P.iloadN X2 hx 28 (hb hby d7_27) rfl rfl ?_
  refine P.iloadN X2 hx 29 (hb hby d7_28) rfl rfl ?_
  refine P.aloadN X2 hx 30 (hb hby d7_29) rfl rfl rfl ?_
  refine X2.callV hx (w47 cx) (w48 cx) (w50 cx) (w49 cx) (fun _ hZ => nf hZ (w50 cx)) (by decide) P0 (Ct.pay (W := 3) (ct_slen2 cx x u ku c0 c1 h _ _ P0 P1 P2 P3) (w51 cx) (w7 cx) (nle rfl) (nle rfl)) (by rw [hml]; rfl) (argsL := []) (rest := [.int 0, .int k, .ref u]) (lenOf pd13 rfl) rfl rfl (Nat.le_of_eq rfl) (hb hby d7_30) (nle rfl) (nle rfl) ?_
  rintro T3 h3 _ _ _ X3 ⟨rfl, rfl, rfl, J3⟩
  rw [J3] at X3
  refine X3.callS hx (w106 cx) (w107 cx) (w73 cx) (w108 cx) (by decide) (Ct.pay (W := 0) (ct_yu21 cx u ku c0 c1 k h _ _ P3 hr_c0 hr_c1 hk hT) (w108 cx) (w73 cx) (nle rfl) (nle rfl)) (by rw [hml]; rfl) (argsL := [.ref u, .int k, .int 0, .int 2]) (rest := []) (lenOf pd11 rfl) rfl rfl (Nat.le_of_eq rfl) (hb hby d7_33) (nle rfl) (nle rfl) ?_
  rintro T4 h4 _ _ _ X4 ⟨x5, rfl, rfl, rfl, J4, G6⟩
  rw [J4] at X4
  exact WS.retI X4 (WL' := []) (FL' := []) hx hret hlk (hb hby d7_36) (nle rfl) (nle rfl) ⟨x5, rfl, rfl, rfl, rfl, G6⟩
def Q_vl21 (Z : State) (gC : Int32) (gF : Value) (x : Addr) (u : Addr) (c0 : Int32) (c1 : Int32) (k : Int32) (h : Heap) (v : Option Value) (h' : Heap) (WL' FL' : List Addr) : Prop := ∃ r : Int32, v = some (.int r) ∧ WL' = [] ∧ FL' = [] ∧ h' = h ∧ (¬ r < 0)
theorem ct_vl21 {l : Launch} {Z : State} {a0 : Array Value} {gC : Int32} {gF : Value} (cx : Cx a0 Z gC gF) {n0 : Nat} (x : Addr) (u : Addr) (c0 : Int32) (c1 : Int32) (k : Int32) (h : Heap) (WL FL : List Addr) (P0 : StrL Z h x u [c0, c1]) (hk : k = 9 ∨ k = 10 ∨ k = 13) (hT : c0 = k ∨ c1 = k) :
    Ct l Z EL1 n0 (⟨"java/lang/String", "indexOf", "(I)I"⟩ : MethodName) jdk_42_method_79_code 2 (Option.some Jvm.ClassFile.FieldType.int) ({ frames := 3, cells := 0, slots := 0, locals := 46 } : Room) #[(.ref x), (.int k)] h WL FL (Q_vl21 Z gC gF x u c0 c1 k h) := by
  refine Ct.of (plainFor_of_name pn0) ?_
  intro p e s m below meth c s1 hx hby hml hnm hret hlk X0
  refine Wo.cast (f' := (mkF m 0 #[.val (.ref x), .val (.int k)] [])) (by rfl) ?_
  show Wo _ _ _ _ _ _ _ _ _ _ _ s1 (mkF m 0 #[.val (.ref x), .val (.int k)] [])
  refine P.aloadN X0 hx 1 (hb hby d6_0) rfl rfl rfl ?_
  refine P.iloadN X0 hx 2 (hb hby d6_1) rfl rfl ?_
  refine P.iconst X0 hx 3 0 (hb hby d6_2) rfl rfl ?_
  refine X0.callV hx (w36 cx) (w37 cx) (w39 cx) (w38 cx) (fun _ hZ => nf hZ (w39 cx)) (by decide) P0.1 (Ct.pay (W := 0) (ct_zl21 cx x u c0 c1 k h _ _ P0 hk hT) (w40 cx) (w7 cx) (nle rfl) (nle rfl)) (by rw [hml]; rfl) (argsL := [.int k, .int 0]) (rest := []) (lenOf pd10 rfl) rfl rfl (Nat.le_of_eq rfl) (hb hby d6_3) (nle rfl) (nle rfl) ?_
  rintro T1 h1 _ _ _ X1 ⟨x2, rfl, rfl, rfl, J1, G3⟩
  rw [J1] at X1
  exact WS.retI X1 (WL' := []) (FL' := []) hx hret hlk (hb hby d6_6) (nle rfl) (nle rfl) ⟨x2, rfl, rfl, rfl, rfl, G3⟩
def Q_vu21 (Z : State) (gC : Int32) (gF : Value) (x : Addr) (u : Addr) (ku : ClassId) (c0 : Int32) (c1 : Int32) (k : Int32) (h : Heap) (v : Option Value) (h' : Heap) (WL' FL' : List Addr) : Prop := ∃ r : Int32, v = some (.int r) ∧ WL' = [] ∧ FL' = [] ∧ h' = h ∧ (¬ r < 0)
theorem ct_vu21 {l : Launch} {Z : State} {a0 : Array Value} {gC : Int32} {gF : Value} (cx : Cx a0 Z gC gF) {n0 : Nat} (x : Addr) (u : Addr) (ku : ClassId) (c0 : Int32) (c1 : Int32) (k : Int32) (h : Heap) (WL FL : List Addr) (P0 : Exa Z h x "java/lang/String") (P1 : Fld Z h x "java/lang/String" "value" "[B" (.ref u)) (P2 : Fld Z h x "java/lang/String" "coder" "B" (.int 1)) (P3 : Arv Z h u ku .byte (4 : Int32) [(.int (c0.toInt8.toInt32)), (.int ((c0 >>> ((8 : Int32) &&& 31)).toInt8.toInt32)), (.int (c1.toInt8.toInt32)), (.int ((c1 >>> ((8 : Int32) &&& 31)).toInt8.toInt32))] (.int 0)) (hr_c0 : ¬ c0 < 0 ∧ ¬ (65535 : Int32) < c0) (hr_c1 : ¬ c1 < 0 ∧ ¬ (65535 : Int32) < c1) (hk : k = 9 ∨ k = 10 ∨ k = 13) (hT : c0 = k ∨ c1 = k) :
    Ct l Z EL1 n0 (⟨"java/lang/String", "indexOf", "(I)I"⟩ : MethodName) jdk_42_method_79_code 2 (Option.some Jvm.ClassFile.FieldType.int) ({ frames := 6, cells := 0, slots := 0, locals := 87 } : Room) #[(.ref x), (.int k)] h WL FL (Q_vu21 Z gC gF x u ku c0 c1 k h) := by
  refine Ct.of (plainFor_of_name pn0) ?_
  intro p e s m below meth c s1 hx hby hml hnm hret hlk X0
  refine Wo.cast (f' := (mkF m 0 #[.val (.ref x), .val (.int k)] [])) (by rfl) ?_
  show Wo _ _ _ _ _ _ _ _ _ _ _ s1 (mkF m 0 #[.val (.ref x), .val (.int k)] [])
  refine P.aloadN X0 hx 1 (hb hby d6_0) rfl rfl rfl ?_
  refine P.iloadN X0 hx 2 (hb hby d6_1) rfl rfl ?_
  refine P.iconst X0 hx 3 0 (hb hby d6_2) rfl rfl ?_
  refine X0.callV hx (w36 cx) (w37 cx) (w39 cx) (w38 cx) (fun _ hZ => nf hZ (w39 cx)) (by decide) P0 (Ct.pay (W := 0) (ct_zu21 cx x u ku c0 c1 k h _ _ P0 P1 P2 P3 hr_c0 hr_c1 hk hT) (w40 cx) (w7 cx) (nle rfl) (nle rfl)) (by rw [hml]; rfl) (argsL := [.int k, .int 0]) (rest := []) (lenOf pd10 rfl) rfl rfl (Nat.le_of_eq rfl) (hb hby d6_3) (nle rfl) (nle rfl) ?_
  rintro T1 h1 _ _ _ X1 ⟨x2, rfl, rfl, rfl, J1, G3⟩
  rw [J1] at X1
  exact WS.retI X1 (WL' := []) (FL' := []) hx hret hlk (hb hby d6_6) (nle rfl) (nle rfl) ⟨x2, rfl, rfl, rfl, rfl, G3⟩
def Q_xl20 (Z : State) (gC : Int32) (gF : Value) (u : Addr) (ku : ClassId) (c0 : Int32) (c1 : Int32) (k : Int32) (h : Heap) (v : Option Value) (h' : Heap) (WL' FL' : List Addr) : Prop := v = some (.int (-1 : Int32)) ∧ WL' = [] ∧ FL' = [] ∧ h' = h
theorem ct_xl20_2 {l : Launch} {Z : State} {a0 : Array Value} {gC : Int32} {gF : Value} (cx : Cx a0 Z gC gF) {n0 : Nat} (u : Addr) (ku : ClassId) (c0 : Int32) (c1 : Int32) (k : Int32) (h : Heap) (WL FL : List Addr) (P0 : Arv Z h u ku .byte (2 : Int32) [(.int (c0.toInt8.toInt32)), (.int (c1.toInt8.toInt32))] (.int 0)) (hq_c0 : ¬ c0 < 0 ∧ ¬ (255 : Int32) < c0) (hq_c1 : ¬ c1 < 0 ∧ ¬ (255 : Int32) < c1) (hk : k = 9 ∨ k = 10 ∨ k = 13) (hT : ¬ (c0 = k ∨ c1 = k)) (e0 : ¬ c0 = k) (e1 : ¬ c1 = k) :
    Ct l Z EL1 n0 (⟨"java/lang/StringLatin1", "indexOfChar", "([BIII)I"⟩ : MethodName) jdk_43_method_23_code 6 (Option.some Jvm.ClassFile.FieldType.int) ({ frames := 0, cells := 0, slots := 0, locals := 0 } : Room) #[(.ref u), (.int k), (.int 0), (.int 2)] h WL FL (Q_xl20 Z gC gF u ku c0 c1 k h) := by
  refine Ct.of (plainFor_of_name pn3) ?_
  intro p e s m below meth c s1 hx hby hml hnm hret hlk X0
  refine Wo.cast (f' := (mkF m 0 #[.val (.ref u), .val (.int k), .val (.int 0), .val (.int 2), .unset, .unset] [])) (by rfl) ?_
  show Wo _ _ _ _ _ _ _ _ _ _ _ s1 (mkF m 0 #[.val (.ref u), .val (.int k), .val (.int 0), .val (.int 2), .unset, .unset] [])
  refine P.iloadN X0 hx 1 (hb hby d19_0) rfl rfl ?_
  refine P.i2b X0 hx 2 (z := (k.toInt8.toInt32)) (hb hby d19_1) rfl rfl ?_
  refine P.istore X0 hx 4 #[.val (.ref u), .val (.int k), .val (.int 0), .val (.int 2), .val (.int (k.toInt8.toInt32)), .unset] (hb hby d19_2) rfl rfl ?_
  refine P.iloadN X0 hx 5 (hb hby d19_4) rfl rfl ?_
  refine P.istore X0 hx 7 #[.val (.ref u), .val (.int k), .val (.int 0), .val (.int 2), .val (.int (k.toInt8.toInt32)), .val (.int 0)] (hb hby d19_5) rfl rfl ?_
  refine P.iload X0 hx 9 (hb hby d19_7) rfl rfl ?_
  refine P.iloadN X0 hx 10 (hb hby d19_9) rfl rfl ?_
  refine P.icmpNo X0 hx 13 (hb hby d19_10) (by decide) rfl ?_
  refine P.aloadN X0 hx 14 (hb hby d19_13) rfl rfl rfl ?_
  refine P.iload X0 hx 16 (hb hby d19_14) rfl rfl ?_
  refine WS.bld X0 hx P0 (j := (0 : Int32)) (x := (c0.toInt8.toInt32)) (by decide) rfl (hb hby d19_16) ?_
  refine P.iload X0 hx 19 (hb hby d19_17) rfl rfl ?_
  refine P.icmpYes X0 hx 25 (hb hby d19_19) (feq (fun q => e0 ((bk hq_c0 hk).mp q))).2 (by decide) (by decide) ?_
  refine P.iinc X0 hx 28 #[.val (.ref u), .val (.int k), .val (.int 0), .val (.int 2), .val (.int (k.toInt8.toInt32)), .val (.int 1)] (hb hby d19_25) rfl rfl rfl ?_
  refine P.goto X0 hx 7 (hb hby d19_28) (by decide) (by decide) ?_
  refine P.iload X0 hx 9 (hb hby d19_7) rfl rfl ?_
  refine P.iloadN X0 hx 10 (hb hby d19_9) rfl rfl ?_
  refine P.icmpNo X0 hx 13 (hb hby d19_10) (by decide) rfl ?_
  refine P.aloadN X0 hx 14 (hb hby d19_13) rfl rfl rfl ?_
  refine P.iload X0 hx 16 (hb hby d19_14) rfl rfl ?_
  refine WS.bld X0 hx P0 (j := (1 : Int32)) (x := (c1.toInt8.toInt32)) (by decide) rfl (hb hby d19_16) ?_
  refine P.iload X0 hx 19 (hb hby d19_17) rfl rfl ?_
  refine P.icmpYes X0 hx 25 (hb hby d19_19) (feq (fun q => e1 ((bk hq_c1 hk).mp q))).2 (by decide) (by decide) ?_
  refine P.iinc X0 hx 28 #[.val (.ref u), .val (.int k), .val (.int 0), .val (.int 2), .val (.int (k.toInt8.toInt32)), .val (.int 2)] (hb hby d19_25) rfl rfl rfl ?_
  refine P.goto X0 hx 7 (hb hby d19_28) (by decide) (by decide) ?_
  refine P.iload X0 hx 9 (hb hby d19_7) rfl rfl ?_
  refine P.iloadN X0 hx 10 (hb hby d19_9) rfl rfl ?_
  refine P.icmpYes X0 hx 31 (hb hby d19_10) (by decide) (by decide) (by decide) ?_
  refine P.iconst X0 hx 32 (-1) (hb hby d19_31) rfl rfl ?_
  exact WS.retI X0 (WL' := []) (FL' := []) hx hret hlk (hb hby d19_32) (nle rfl) (nle rfl) ⟨rfl, rfl, rfl, rfl⟩
theorem ct_xl20 {l : Launch} {Z : State} {a0 : Array Value} {gC : Int32} {gF : Value} (cx : Cx a0 Z gC gF) {n0 : Nat} (u : Addr) (ku : ClassId) (c0 : Int32) (c1 : Int32) (k : Int32) (h : Heap) (WL FL : List Addr) (P0 : Arv Z h u ku .byte (2 : Int32) [(.int (c0.toInt8.toInt32)), (.int (c1.toInt8.toInt32))] (.int 0)) (hq_c0 : ¬ c0 < 0 ∧ ¬ (255 : Int32) < c0) (hq_c1 : ¬ c1 < 0 ∧ ¬ (255 : Int32) < c1) (hk : k = 9 ∨ k = 10 ∨ k = 13) (hT : ¬ (c0 = k ∨ c1 = k)) :
    Ct l Z EL1 n0 (⟨"java/lang/StringLatin1", "indexOfChar", "([BIII)I"⟩ : MethodName) jdk_43_method_23_code 6 (Option.some Jvm.ClassFile.FieldType.int) ({ frames := 0, cells := 0, slots := 0, locals := 0 } : Room) #[(.ref u), (.int k), (.int 0), (.int 2)] h WL FL (Q_xl20 Z gC gF u ku c0 c1 k h) := by
  exact ct_xl20_2 cx u ku c0 c1 k h WL FL P0 hq_c0 hq_c1 hk hT (fun q => hT (Or.inl q)) (fun q => hT (Or.inr q))
def Q_yl20 (Z : State) (gC : Int32) (gF : Value) (u : Addr) (ku : ClassId) (c0 : Int32) (c1 : Int32) (k : Int32) (h : Heap) (v : Option Value) (h' : Heap) (WL' FL' : List Addr) : Prop := v = some (.int (-1 : Int32)) ∧ WL' = [] ∧ FL' = [] ∧ h' = h
theorem ct_yl20 {l : Launch} {Z : State} {a0 : Array Value} {gC : Int32} {gF : Value} (cx : Cx a0 Z gC gF) {n0 : Nat} (u : Addr) (ku : ClassId) (c0 : Int32) (c1 : Int32) (k : Int32) (h : Heap) (WL FL : List Addr) (P0 : Arv Z h u ku .byte (2 : Int32) [(.int (c0.toInt8.toInt32)), (.int (c1.toInt8.toInt32))] (.int 0)) (hq_c0 : ¬ c0 < 0 ∧ ¬ (255 : Int32) < c0) (hq_c1 : ¬ c1 < 0 ∧ ¬ (255 : Int32) < c1) (hk : k = 9 ∨ k = 10 ∨ k = 13) (hT : ¬ (c0 = k ∨ c1 = k)) :
    Ct l Z EL1 n0 (⟨"java/lang/StringLatin1", "indexOf", "([BIII)I"⟩ : MethodName) jdk_43_method_22_code 4 (Option.some Jvm.ClassFile.FieldType.int) ({ frames := 1, cells := 0, slots := 0, locals := 17 } : Room) #[(.ref u), (.int k), (.int 0), (.int 2)] h WL FL (Q_yl20 Z gC gF u ku c0 c1 k h) := by
  refine Ct.of (plainFor_of_name pn3) ?_
  intro p e s m below meth c s1 hx hby hml hnm hret hlk X0
  refine Wo.cast (f' := (mkF m 0 #[.val (.ref u), .val (.int k), .val (.int 0), .val (.int 2)] [])) (by rfl) ?_
  show Wo _ _ _ _ _ _ _ _ _ _ _ s1 (mkF m 0 #[.val (.ref u), .val (.int k), .val (.int 0), .val (.int 2)] [])
  refine P.iloadN X0 hx 1 (hb hby d11_0) rfl rfl ?_
  refine X0.callS hx (w61 cx) (w62 cx) (w59 cx) (w63 cx) (by decide) (Ct.pay (W := 0) (ct_cenk cx k h _ _ hk) (w63 cx) (w59 cx) (nle rfl) (nle rfl)) (by rw [hml]; rfl) (argsL := [.int k]) (rest := []) (lenOf pd9 rfl) rfl rfl (Nat.le_of_eq rfl) (hb hby d11_1) (nle rfl) (nle rfl) ?_
  rintro T1 h1 _ _ _ X1 ⟨rfl, rfl, rfl, J1⟩
  rw [J1] at X1
  refine P.ifYes X1 hx 9 (hb hby d11_4) (by decide) (by decide) (by decide) ?_
  refine P.iloadN X1 hx 10 (hb hby d11_9) rfl rfl ?_
  refine P.iconst X1 hx 11 0 (hb hby d11_10) rfl rfl ?_
  refine X1.callS hx (w64 cx) (w65 cx) (w66 cx) (w67 cx) (by decide) (Ct.pay (W := 0) (ct_mmax_0_0 cx  h _ _ ) (w67 cx) (w66 cx) (nle rfl) (nle rfl)) (by rw [hml]; rfl) (argsL := [.int 0, .int 0]) (rest := []) (lenOf pd10 rfl) rfl rfl (Nat.le_of_eq rfl) (hb hby d11_11) (nle rfl) (nle rfl) ?_
  rintro T2 h2 _ _ _ X2 ⟨rfl, rfl, rfl, J2⟩
  rw [J2] at X2
  refine P.istoreN X2 hx 15 #[.val (.ref u), .val (.int k), .val (.int 0), .val (.int 2)] (hb hby d11_14) rfl rfl ?_
  refine P.iloadN X2 hx 16 (hb hby d11_15) rfl rfl ?_
  refine P.aloadN X2 hx 17 (hb hby d11_16) rfl rfl rfl ?_
  refine WS.alen X2 hx P0 (hb hby d11_17) ?_
  refine X2.callS hx (w68 cx) (w69 cx) (w66 cx) (w70 cx) (by decide) (Ct.pay (W := 0) (ct_mmin_2_2 cx  h _ _ ) (w70 cx) (w66 cx) (nle rfl) (nle rfl)) (by rw [hml]; rfl) (argsL := [.int 2, .int 2]) (rest := []) (lenOf pd10 rfl) rfl rfl (Nat.le_of_eq rfl) (hb hby d11_18) (nle rfl) (nle rfl) ?_
  rintro T3 h3 _ _ _ X3 ⟨rfl, rfl, rfl, J3⟩
  rw [J3] at X3
  refine P.istoreN X3 hx 22 #[.val (.ref u), .val (.int k), .val (.int 0), .val (.int 2)] (hb hby d11_21) rfl rfl ?_
  refine P.iloadN X3 hx 23 (hb hby d11_22) rfl rfl ?_
  refine P.iloadN X3 hx 24 (hb hby d11_23) rfl rfl ?_
  refine P.icmpYes X3 hx 29 (hb hby d11_24) (by decide) (by decide) (by decide) ?_
  refine P.aloadN X3 hx 30 (hb hby d11_29) rfl rfl rfl ?_
  refine P.iloadN X3 hx 31 (hb hby d11_30) rfl rfl ?_
  refine P.iloadN X3 hx 32 (hb hby d11_31) rfl rfl ?_
  refine P.iloadN X3 hx 33 (hb hby d11_32) rfl rfl ?_
  refine X3.callS hx (w84 cx) (w85 cx) (w59 cx) (w86 cx) (by decide) (Ct.pay (W := 0) (ct_xl20 cx u ku c0 c1 k h _ _ P0 hq_c0 hq_c1 hk hT) (w86 cx) (w59 cx) (nle rfl) (nle rfl)) (by rw [hml]; rfl) (argsL := [.ref u, .int k, .int 0, .int 2]) (rest := []) (lenOf pd11 rfl) rfl rfl (Nat.le_of_eq rfl) (hb hby d11_33) (nle rfl) (nle rfl) ?_
  rintro T4 h4 _ _ _ X4 ⟨rfl, rfl, rfl, J4⟩
  rw [J4] at X4
  exact WS.retI X4 (WL' := []) (FL' := []) hx hret hlk (hb hby d11_36) (nle rfl) (nle rfl) ⟨rfl, rfl, rfl, rfl⟩
def Q_zl20 (Z : State) (gC : Int32) (gF : Value) (x : Addr) (u : Addr) (c0 : Int32) (c1 : Int32) (k : Int32) (h : Heap) (v : Option Value) (h' : Heap) (WL' FL' : List Addr) : Prop := v = some (.int (-1 : Int32)) ∧ WL' = [] ∧ FL' = [] ∧ h' = h
theorem ct_zl20 {l : Launch} {Z : State} {a0 : Array Value} {gC : Int32} {gF : Value} (cx : Cx a0 Z gC gF) {n0 : Nat} (x : Addr) (u : Addr) (c0 : Int32) (c1 : Int32) (k : Int32) (h : Heap) (WL FL : List Addr) (P0 : StrL Z h x u [c0, c1]) (hk : k = 9 ∨ k = 10 ∨ k = 13) (hT : ¬ (c0 = k ∨ c1 = k)) :
    Ct l Z EL1 n0 (⟨"java/lang/String", "indexOf", "(II)I"⟩ : MethodName) jdk_42_method_80_code 3 (Option.some Jvm.ClassFile.FieldType.int) ({ frames := 2, cells := 0, slots := 0, locals := 32 } : Room) #[(.ref x), (.int k), (.int 0)] h WL FL (Q_zl20 Z gC gF x u c0 c1 k h) := by
  refine Ct.of (plainFor_of_name pn0) ?_
  intro p e s m below meth c s1 hx hby hml hnm hret hlk X0
  refine Wo.cast (f' := (mkF m 0 #[.val (.ref x), .val (.int k), .val (.int 0)] [])) (by rfl) ?_
  show Wo _ _ _ _ _ _ _ _ _ _ _ s1 (mkF m 0 #[.val (.ref x), .val (.int k), .val (.int 0)] [])
  refine P.aloadN X0 hx 1 (hb hby d7_0) rfl rfl rfl ?_
  obtain ⟨k1, A1⟩ := P0.2.2.2.1
  have V1 : Arv Z h u k1 .byte (2 : Int32) [(.int (c0.toInt8.toInt32)), (.int (c1.toInt8.toInt32))] (.int 0) := A1
  refine X0.callV hx (w41 cx) (w42 cx) (w44 cx) (w43 cx) (fun _ hZ => nf hZ (w44 cx)) (by decide) P0.1 (Ct.pay (W := 0) (ct_isLL cx x h _ _ P0.2.2.1) (w45 cx) (w7 cx) (nle rfl) (nle rfl)) (by rw [hml]; rfl) (argsL := []) (rest := []) (lenOf pd12 rfl) rfl rfl (Nat.le_of_eq rfl) (hb hby d7_1) (nle rfl) (nle rfl) ?_
  rintro T2 h2 _ _ _ X2 ⟨rfl, rfl, rfl, J2⟩
  rw [J2] at X2
  refine P.ifNo X2 hx 7 (hb hby d7_4) (by decide) rfl ?_
  refine P.aloadN X2 hx 8 (hb hby d7_7) rfl rfl rfl ?_
  refine X2.getF hx (host := "") (Or.inl (w25 cx)) Via.refl P0.2.1 (hb hby d7_8) ?_
  intro T3 X3
  refine P.iloadN X3 hx 12 (hb hby d7_11) rfl rfl ?_
  refine P.iloadN X3 hx 13 (hb hby d7_12) rfl rfl ?_
  refine P.aloadN X3 hx 14 (hb hby d7_13) rfl rfl rfl ?_
  refine X3.callV hx (w47 cx) (w48 cx) (w50 cx) (w49 cx) (fun _ hZ => nf hZ (w50 cx)) (by decide) P0.1 (pay_len (W := 3) (hln cx) (w6 cx) P0 (X3.sta (S_C cx)) (N_C cx) (nle rfl) (nle rfl)) (by rw [hml]; rfl) (argsL := []) (rest := [.int 0, .int k, .ref u]) (lenOf pd13 rfl) rfl rfl (Nat.le_of_eq rfl) (hb hby d7_14) (nle rfl) (nle rfl) ?_
  rintro T4 h4 _ _ _ X4 ⟨rfl, rfl, rfl, J4⟩
  rw [J4] at X4
  show Wo _ _ _ _ _ _ _ _ _ _ _ T4 (mkF m 17 #[.val (.ref x), .val (.int k), .val (.int 0)] [.int 2, .int 0, .int k, .ref u])
  refine X4.callS hx (w57 cx) (w58 cx) (w59 cx) (w60 cx) (by decide) (Ct.pay (W := 0) (ct_yl20 cx u k1 c0 c1 k h _ _ V1 (P0.2.2.2.2.1 _ (List.mem_of_getElem? (i := 0) rfl)) (P0.2.2.2.2.1 _ (List.mem_of_getElem? (i := 1) rfl)) hk hT) (w60 cx) (w59 cx) (nle rfl) (nle rfl)) (by rw [hml]; rfl) (argsL := [.ref u, .int k, .int 0, .int 2]) (rest := []) (lenOf pd11 rfl) rfl rfl (Nat.le_of_eq rfl) (hb hby d7_17) (nle rfl) (nle rfl) ?_
  rintro T5 h5 _ _ _ X5 ⟨rfl, rfl, rfl, J5⟩
  rw [J5] at X5
  refine P.goto X5 hx 36 (hb hby d7_20) (by decide) (by decide) ?_
  exact WS.retI X5 (WL' := []) (FL' := []) hx hret hlk (hb hby d7_36) (nle rfl) (nle rfl) ⟨rfl, rfl, rfl, rfl⟩
def Q_xu20 (Z : State) (gC : Int32) (gF : Value) (u : Addr) (ku : ClassId) (c0 : Int32) (c1 : Int32) (k : Int32) (h : Heap) (v : Option Value) (h' : Heap) (WL' FL' : List Addr) : Prop := v = some (.int (-1 : Int32)) ∧ WL' = [] ∧ FL' = [] ∧ h' = h
theorem ct_xu20_2 {l : Launch} {Z : State} {a0 : Array Value} {gC : Int32} {gF : Value} (cx : Cx a0 Z gC gF) {n0 : Nat} (u : Addr) (ku : ClassId) (c0 : Int32) (c1 : Int32) (k : Int32) (h : Heap) (WL FL : List Addr) (P0 : Arv Z h u ku .byte (4 : Int32) [(.int (c0.toInt8.toInt32)), (.int ((c0 >>> ((8 : Int32) &&& 31)).toInt8.toInt32)), (.int (c1.toInt8.toInt32)), (.int ((c1 >>> ((8 : Int32) &&& 31)).toInt8.toInt32))] (.int 0)) (hr_c0 : ¬ c0 < 0 ∧ ¬ (65535 : Int32) < c0) (hr_c1 : ¬ c1 < 0 ∧ ¬ (65535 : Int32) < c1) (hk : k = 9 ∨ k = 10 ∨ k = 13) (hT : ¬ (c0 = k ∨ c1 = k)) (e0 : ¬ c0 = k) (e1 : ¬ c1 = k) :
    Ct l Z EL1 n0 (⟨"java/lang/StringUTF16", "indexOfCharUnsafe", "([BIII)I"⟩ : MethodName) jdk_52_method_48_code 5 (Option.some Jvm.ClassFile.FieldType.int) ({ frames := 1, cells := 0, slots := 0, locals := 13 } : Room) #[(.ref u), (.int k), (.int 0), (.int 2)] h WL FL (Q_xu20 Z gC gF u ku c0 c1 k h) := by
  refine Ct.of (plainFor_of_name pn1) ?_
  intro p e s m below meth c s1 hx hby hml hnm hret hlk X0
  refine Wo.cast (f' := (mkF m 0 #[.val (.ref u), .val (.int k), .val (.int 0), .val (.int 2), .unset] [])) (by rfl) ?_
  show Wo _ _ _ _ _ _ _ _ _ _ _ s1 (mkF m 0 #[.val (.ref u), .val (.int k), .val (.int 0), .val (.int 2), .unset] [])
  refine P.iloadN X0 hx 1 (hb hby d31_0) rfl rfl ?_
  refine P.istore X0 hx 3 #[.val (.ref u), .val (.int k), .val (.int 0), .val (.int 2), .val (.int 0)] (hb hby d31_1) rfl rfl ?_
  refine P.iload X0 hx 5 (hb hby d31_3) rfl rfl ?_
  refine P.iloadN X0 hx 6 (hb hby d31_5) rfl rfl ?_
  refine P.icmpNo X0 hx 9 (hb hby d31_6) (by decide) rfl ?_
  refine P.aloadN X0 hx 10 (hb hby d31_9) rfl rfl rfl ?_
  refine P.iload X0 hx 12 (hb hby d31_10) rfl rfl ?_
  refine X0.callS hx (w103 cx) (w104 cx) (w73 cx) (w105 cx) (by decide) (Ct.pay (W := 0) (ct_getc20 cx u ku c0 c1 h _ _ P0 hr_c0) (w105 cx) (w73 cx) (nle rfl) (nle rfl)) (by rw [hml]; rfl) (argsL := [.ref u, .int 0]) (rest := []) (lenOf pd6 rfl) rfl rfl (Nat.le_of_eq rfl) (hb hby d31_12) (nle rfl) (nle rfl) ?_
  rintro T1 h1 _ _ _ X1 ⟨rfl, rfl, rfl, J1⟩
  rw [J1] at X1
  refine P.iloadN X1 hx 16 (hb hby d31_15) rfl rfl ?_
  refine P.icmpYes X1 hx 22 (hb hby d31_16) (feq e0).2 (by decide) (by decide) ?_
  refine P.iinc X1 hx 25 #[.val (.ref u), .val (.int k), .val (.int 0), .val (.int 2), .val (.int 1)] (hb hby d31_22) rfl rfl rfl ?_
  refine P.goto X1 hx 3 (hb hby d31_25) (by decide) (by decide) ?_
  refine P.iload X1 hx 5 (hb hby d31_3) rfl rfl ?_
  refine P.iloadN X1 hx 6 (hb hby d31_5) rfl rfl ?_
  refine P.icmpNo X1 hx 9 (hb hby d31_6) (by decide) rfl ?_
  refine P.aloadN X1 hx 10 (hb hby d31_9) rfl rfl rfl ?_
  refine P.iload X1 hx 12 (hb hby d31_10) rfl rfl ?_
  refine X1.callS hx (w103 cx) (w104 cx) (w73 cx) (w105 cx) (by decide) (Ct.pay (W := 0) (ct_getc21 cx u ku c0 c1 h _ _ P0 hr_c1) (w105 cx) (w73 cx) (nle rfl) (nle rfl)) (by rw [hml]; rfl) (argsL := [.ref u, .int 1]) (rest := []) (lenOf pd6 rfl) rfl rfl (Nat.le_of_eq rfl) (hb hby d31_12) (nle rfl) (nle rfl) ?_
  rintro T2 h2 _ _ _ X2 ⟨rfl, rfl, rfl, J2⟩
  rw [J2] at X2
  refine P.iloadN X2 hx 16 (hb hby d31_15) rfl rfl ?_
  refine P.icmpYes X2 hx 22 (hb hby d31_16) (feq e1).2 (by decide) (by decide) ?_
  refine P.iinc X2 hx 25 #[.val (.ref u), .val (.int k), .val (.int 0), .val (.int 2), .val (.int 2)] (hb hby d31_22) rfl rfl rfl ?_
  refine P.goto X2 hx 3 (hb hby d31_25) (by decide) (by decide) ?_
  refine P.iload X2 hx 5 (hb hby d31_3) rfl rfl ?_
  refine P.iloadN X2 hx 6 (hb hby d31_5) rfl rfl ?_
  refine P.icmpYes X2 hx 28 (hb hby d31_6) (by decide) (by decide) (by decide) ?_
  refine P.iconst X2 hx 29 (-1) (hb hby d31_28) rfl rfl ?_
  exact WS.retI X2 (WL' := []) (FL' := []) hx hret hlk (hb hby d31_29) (nle rfl) (nle rfl) ⟨rfl, rfl, rfl, rfl⟩
theorem ct_xu20 {l : Launch} {Z : State} {a0 : Array Value} {gC : Int32} {gF : Value} (cx : Cx a0 Z gC gF) {n0 : Nat} (u : Addr) (ku : ClassId) (c0 : Int32) (c1 : Int32) (k : Int32) (h : Heap) (WL FL : List Addr) (P0 : Arv Z h u ku .byte (4 : Int32) [(.int (c0.toInt8.toInt32)), (.int ((c0 >>> ((8 : Int32) &&& 31)).toInt8.toInt32)), (.int (c1.toInt8.toInt32)), (.int ((c1 >>> ((8 : Int32) &&& 31)).toInt8.toInt32))] (.int 0)) (hr_c0 : ¬ c0 < 0 ∧ ¬ (65535 : Int32) < c0) (hr_c1 : ¬ c1 < 0 ∧ ¬ (65535 : Int32) < c1) (hk : k = 9 ∨ k = 10 ∨ k = 13) (hT : ¬ (c0 = k ∨ c1 = k)) :
    Ct l Z EL1 n0 (⟨"java/lang/StringUTF16", "indexOfCharUnsafe", "([BIII)I"⟩ : MethodName) jdk_52_method_48_code 5 (Option.some Jvm.ClassFile.FieldType.int) ({ frames := 1, cells := 0, slots := 0, locals := 13 } : Room) #[(.ref u), (.int k), (.int 0), (.int 2)] h WL FL (Q_xu20 Z gC gF u ku c0 c1 k h) := by
  exact ct_xu20_2 cx u ku c0 c1 k h WL FL P0 hr_c0 hr_c1 hk hT (fun q => hT (Or.inl q)) (fun q => hT (Or.inr q))
def Q_wu20 (Z : State) (gC : Int32) (gF : Value) (u : Addr) (ku : ClassId) (c0 : Int32) (c1 : Int32) (k : Int32) (h : Heap) (v : Option Value) (h' : Heap) (WL' FL' : List Addr) : Prop := v = some (.int (-1 : Int32)) ∧ WL' = [] ∧ FL' = [] ∧ h' = h
theorem ct_wu20 {l : Launch} {Z : State} {a0 : Array Value} {gC : Int32} {gF : Value} (cx : Cx a0 Z gC gF) {n0 : Nat} (u : Addr) (ku : ClassId) (c0 : Int32) (c1 : Int32) (k : Int32) (h : Heap) (WL FL : List Addr) (P0 : Arv Z h u ku .byte (4 : Int32) [(.int (c0.toInt8.toInt32)), (.int ((c0 >>> ((8 : Int32) &&& 31)).toInt8.toInt32)), (.int (c1.toInt8.toInt32)), (.int ((c1 >>> ((8 : Int32) &&& 31)).toInt8.toInt32))] (.int 0)) (hr_c0 : ¬ c0 < 0 ∧ ¬ (65535 : Int32) < c0) (hr_c1 : ¬ c1 < 0 ∧ ¬ (65535 : Int32) < c1) (hk : k = 9 ∨ k = 10 ∨ k = 13) (hT : ¬ (c0 = k ∨ c1 = k)) :
    Ct l Z EL1 n0 (⟨"java/lang/StringUTF16", "indexOfChar", "([BIII)I"⟩ : MethodName) jdk_52_method_47_code 4 (Option.some Jvm.ClassFile.FieldType.int) ({ frames := 3, cells := 0, slots := 0, locals := 43 } : Room) #[(.ref u), (.int k), (.int 0), (.int 2)] h WL FL (Q_wu20 Z gC gF u ku c0 c1 k h) := by
  refine Ct.of (plainFor_of_name pn1) ?_
  intro p e s m below meth c s1 hx hby hml hnm hret hlk X0
  refine Wo.cast (f' := (mkF m 0 #[.val (.ref u), .val (.int k), .val (.int 0), .val (.int 2)] [])) (by rfl) ?_
  show Wo _ _ _ _ _ _ _ _ _ _ _ s1 (mkF m 0 #[.val (.ref u), .val (.int k), .val (.int 0), .val (.int 2)] [])
  refine P.iloadN X0 hx 1 (hb hby d26_0) rfl rfl ?_
  refine P.iloadN X0 hx 2 (hb hby d26_1) rfl rfl ?_
  refine P.aloadN X0 hx 3 (hb hby d26_2) rfl rfl rfl ?_
  refine X0.callS hx (w115 cx) (w116 cx) (w73 cx) (w117 cx) (by decide) (Ct.pay (W := 0) (ct_cbu2 cx u ku _ h _ _ P0) (w117 cx) (w73 cx) (nle rfl) (nle rfl)) (by rw [hml]; rfl) (argsL := [.int 0, .int 2, .ref u]) (rest := []) (lenOf pd17 rfl) rfl rfl (Nat.le_of_eq rfl) (hb hby d26_3) (nle rfl) (nle rfl) ?_
  rintro T1 h1 _ _ _ X1 ⟨rfl, rfl, rfl, J1⟩
  rw [J1] at X1
  refine P.aloadN X1 hx 7 (hb hby d26_6) rfl rfl rfl ?_
  refine P.iloadN X1 hx 8 (hb hby d26_7) rfl rfl ?_
  refine P.iloadN X1 hx 9 (hb hby d26_8) rfl rfl ?_
  refine P.iloadN X1 hx 10 (hb hby d26_9) rfl rfl ?_
  refine X1.callS hx (w129 cx) (w130 cx) (w73 cx) (w131 cx) (by decide) (Ct.pay (W := 0) (ct_xu20 cx u ku c0 c1 k h _ _ P0 hr_c0 hr_c1 hk hT) (w131 cx) (w73 cx) (nle rfl) (nle rfl)) (by rw [hml]; rfl) (argsL := [.ref u, .int k, .int 0, .int 2]) (rest := []) (lenOf pd11 rfl) rfl rfl (Nat.le_of_eq rfl) (hb hby d26_10) (nle rfl) (nle rfl) ?_
  rintro T2 h2 _ _ _ X2 ⟨rfl, rfl, rfl, J2⟩
  rw [J2] at X2
  exact WS.retI X2 (WL' := []) (FL' := []) hx hret hlk (hb hby d26_13) (nle rfl) (nle rfl) ⟨rfl, rfl, rfl, rfl⟩
def Q_yu20 (Z : State) (gC : Int32) (gF : Value) (u : Addr) (ku : ClassId) (c0 : Int32) (c1 : Int32) (k : Int32) (h : Heap) (v : Option Value) (h' : Heap) (WL' FL' : List Addr) : Prop := v = some (.int (-1 : Int32)) ∧ WL' = [] ∧ FL' = [] ∧ h' = h
theorem ct_yu20 {l : Launch} {Z : State} {a0 : Array Value} {gC : Int32} {gF : Value} (cx : Cx a0 Z gC gF) {n0 : Nat} (u : Addr) (ku : ClassId) (c0 : Int32) (c1 : Int32) (k : Int32) (h : Heap) (WL FL : List Addr) (P0 : Arv Z h u ku .byte (4 : Int32) [(.int (c0.toInt8.toInt32)), (.int ((c0 >>> ((8 : Int32) &&& 31)).toInt8.toInt32)), (.int (c1.toInt8.toInt32)), (.int ((c1 >>> ((8 : Int32) &&& 31)).toInt8.toInt32))] (.int 0)) (hr_c0 : ¬ c0 < 0 ∧ ¬ (65535 : Int32) < c0) (hr_c1 : ¬ c1 < 0 ∧ ¬ (65535 : Int32) < c1) (hk : k = 9 ∨ k = 10 ∨ k = 13) (hT : ¬ (c0 = k ∨ c1 = k)) :
    Ct l Z EL1 n0 (⟨"java/lang/StringUTF16", "indexOf", "([BIII)I"⟩ : MethodName) jdk_52_method_40_code 4 (Option.some Jvm.ClassFile.FieldType.int) ({ frames := 4, cells := 0, slots := 0, locals := 58 } : Room) #[(.ref u), (.int k), (.int 0), (.int 2)] h WL FL (Q_yu20 Z gC gF u ku c0 c1 k h) := by
  refine Ct.of (plainFor_of_name pn1) ?_
  intro p e s m below meth c s1 hx hby hml hnm hret hlk X0
  refine Wo.cast (f' := (mkF m 0 #[.val (.ref u), .val (.int k), .val (.int 0), .val (.int 2)] [])) (by rfl) ?_
  show Wo _ _ _ _ _ _ _ _ _ _ _ s1 (mkF m 0 #[.val (.ref u), .val (.int k), .val (.int 0), .val (.int 2)] [])
  refine P.iloadN X0 hx 1 (hb hby d25_0) rfl rfl ?_
  refine P.iconst X0 hx 2 0 (hb hby d25_1) rfl rfl ?_
  refine X0.callS hx (w109 cx) (w65 cx) (w66 cx) (w67 cx) (by decide) (Ct.pay (W := 0) (ct_mmax_0_0 cx  h _ _ ) (w67 cx) (w66 cx) (nle rfl) (nle rfl)) (by rw [hml]; rfl) (argsL := [.int 0, .int 0]) (rest := []) (lenOf pd10 rfl) rfl rfl (Nat.le_of_eq rfl) (hb hby d25_2) (nle rfl) (nle rfl) ?_
  rintro T1 h1 _ _ _ X1 ⟨rfl, rfl, rfl, J1⟩
  rw [J1] at X1
  refine P.istoreN X1 hx 6 #[.val (.ref u), .val (.int k), .val (.int 0), .val (.int 2)] (hb hby d25_5) rfl rfl ?_
  refine P.iloadN X1 hx 7 (hb hby d25_6) rfl rfl ?_
  refine P.aloadN X1 hx 8 (hb hby d25_7) rfl rfl rfl ?_
  refine WS.alen X1 hx P0 (hb hby d25_8) ?_
  refine P.iconst X1 hx 10 1 (hb hby d25_9) rfl rfl ?_
  refine P.ishr X1 hx 11 (z := (2 : Int32)) (hb hby d25_10) rfl rfl ?_
  refine X1.callS hx (w110 cx) (w69 cx) (w66 cx) (w70 cx) (by decide) (Ct.pay (W := 0) (ct_mmin_2_2 cx  h _ _ ) (w70 cx) (w66 cx) (nle rfl) (nle rfl)) (by rw [hml]; rfl) (argsL := [.int 2, .int 2]) (rest := []) (lenOf pd10 rfl) rfl rfl (Nat.le_of_eq rfl) (hb hby d25_11) (nle rfl) (nle rfl) ?_
  rintro T2 h2 _ _ _ X2 ⟨rfl, rfl, rfl, J2⟩
  rw [J2] at X2
  refine P.istoreN X2 hx 15 #[.val (.ref u), .val (.int k), .val (.int 0), .val (.int 2)] (hb hby d25_14) rfl rfl ?_
  refine P.iloadN X2 hx 16 (hb hby d25_15) rfl rfl ?_
  refine P.iloadN X2 hx 17 (hb hby d25_16) rfl rfl ?_
  refine P.icmpYes X2 hx 22 (hb hby d25_17) (by decide) (by decide) (by decide) ?_
  refine P.iloadN X2 hx 23 (hb hby d25_22) rfl rfl ?_
  refine WS.ldcI X2 hx (w111 cx) (hb hby d25_23) ?_
  refine P.icmpNo X2 hx 28 (hb hby d25_25) (tlt (kr6 hk)).2.1 rfl ?_
  refine P.aloadN X2 hx 29 (hb hby d25_28) rfl rfl rfl ?_
  refine P.iloadN X2 hx 30 (hb hby d25_29) rfl rfl ?_
  refine P.iloadN X2 hx 31 (hb hby d25_30) rfl rfl ?_
  refine P.iloadN X2 hx 32 (hb hby d25_31) rfl rfl ?_
  refine X2.callS hx (w112 cx) (w113 cx) (w73 cx) (w114 cx) (by decide) (Ct.pay (W := 0) (ct_wu20 cx u ku c0 c1 k h _ _ P0 hr_c0 hr_c1 hk hT) (w114 cx) (w73 cx) (nle rfl) (nle rfl)) (by rw [hml]; rfl) (argsL := [.ref u, .int k, .int 0, .int 2]) (rest := []) (lenOf pd11 rfl) rfl rfl (Nat.le_of_eq rfl) (hb hby d25_32) (nle rfl) (nle rfl) ?_
  rintro T3 h3 _ _ _ X3 ⟨rfl, rfl, rfl, J3⟩
  rw [J3] at X3
  exact WS.retI X3 (WL' := []) (FL' := []) hx hret hlk (hb hby d25_35) (nle rfl) (nle rfl) ⟨rfl, rfl, rfl, rfl⟩
def Q_zu20 (Z : State) (gC : Int32) (gF : Value) (x : Addr) (u : Addr) (ku : ClassId) (c0 : Int32) (c1 : Int32) (k : Int32) (h : Heap) (v : Option Value) (h' : Heap) (WL' FL' : List Addr) : Prop := v = some (.int (-1 : Int32)) ∧ WL' = [] ∧ FL' = [] ∧ h' = h
theorem ct_zu20 {l : Launch} {Z : State} {a0 : Array Value} {gC : Int32} {gF : Value} (cx : Cx a0 Z gC gF) {n0 : Nat} (x : Addr) (u : Addr) (ku : ClassId) (c0 : Int32) (c1 : Int32) (k : Int32) (h : Heap) (WL FL : List Addr) (P0 : Exa Z h x "java/lang/String") (P1 : Fld Z h x "java/lang/String" "value" "[B" (.ref u)) (P2 : Fld Z h x "java/lang/String" "coder" "B" (.int 1)) (P3 : Arv Z h u ku .byte (4 : Int32) [(.int (c0.toInt8.toInt32)), (.int ((c0 >>> ((8 : Int32) &&& 31)).toInt8.toInt32)), (.int (c1.toInt8.toInt32)), (.int ((c1 >>> ((8 : Int32) &&& 31)).toInt8.toInt32))] (.int 0)) (hr_c0 : ¬ c0 < 0 ∧ ¬ (65535 : Int32) < c0) (hr_c1 : ¬ c1 < 0 ∧ ¬ (65535 : Int32) < c1) (hk : k = 9 ∨ k = 10 ∨ k = 13) (hT : ¬ (c0 = k ∨ c1 = k)) :
    Ct l Z EL1 n0 (⟨"java/lang/String", "indexOf", "(II)I"⟩ : MethodName) jdk_42_method_80_code 3 (Option.some Jvm.ClassFile.FieldType.int) ({ frames := 5, cells := 0, slots := 0, locals := 73 } : Room) #[(.ref x), (.int k), (.int 0)] h WL FL (Q_zu20 Z gC gF x u ku c0 c1 k h) := by
  refine Ct.of (plainFor_of_name pn0) ?_
  intro p e s m below meth c s1 hx hby hml hnm hret hlk X0
  refine Wo.cast (f' := (mkF m 0 #[.val (.ref x), .val (.int k), .val (.int 0)] [])) (by rfl) ?_
  show Wo _ _ _ _ _ _ _ _ _ _ _ s1 (mkF m 0 #[.val (.ref x), .val (.int k), .val (.int 0)] [])
  refine P.aloadN X0 hx 1 (hb hby d7_0) rfl rfl rfl ?_
  refine X0.callV hx (w41 cx) (w42 cx) (w44 cx) (w43 cx) (fun _ hZ => nf hZ (w44 cx)) (by decide) P0 (Ct.pay (W := 0) (ct_isLU cx x h _ _ P2) (w45 cx) (w7 cx) (nle rfl) (nle rfl)) (by rw [hml]; rfl) (argsL := []) (rest := []) (lenOf pd12 rfl) rfl rfl (Nat.le_of_eq rfl) (hb hby d7_1) (nle rfl) (nle rfl) ?_
  rintro T1 h1 _ _ _ X1 ⟨rfl, rfl, rfl, J1⟩
  rw [J1] at X1
  refine P.ifYes X1 hx 23 (hb hby d7_4) (by decide) (by decide) (by decide) ?_
  refine P.aloadN X1 hx 24 (hb hby d7_23) rfl rfl rfl ?_
  refine X1.getF hx (host := "") (Or.inl (w25 cx)) Via.refl P1 (hb hby d7_24) ?_
  intro T2 X2
  refine P.iloadN X2 hx 28 (hb hby d7_27) rfl rfl ?_
  refine P.iloadN X2 hx 29 (hb hby d7_28) rfl rfl ?_
  refine P.aloadN X2 hx 30 (hb hby d7_29) rfl rfl rfl ?_
  refine X2.callV hx (w47 cx) (w48 cx) (w50 cx) (w49 cx) (fun _ hZ => nf hZ (w50 cx)) (by decide) P0 (Ct.pay (W := 3) (ct_slen2 cx x u ku c0 c1 h _ _ P0 P1 P2 P3) (w51 cx) (w7 cx) (nle rfl) (nle rfl)) (by rw [hml]; rfl) (argsL := []) (rest := [.int 0, .int k, .ref u]) (lenOf pd13 rfl) rfl rfl (Nat.le_of_eq rfl) (hb hby d7_30) (nle rfl) (nle rfl) ?_
  rintro T3 h3 _ _ _ X3 ⟨rfl, rfl, rfl, J3⟩
  rw [J3] at X3
  refine X3.callS hx (w106 cx) (w107 cx) (w73 cx) (w108 cx) (by decide) (Ct.pay (W := 0) (ct_yu20 cx u ku c0 c1 k h _ _ P3 hr_c0 hr_c1 hk hT) (w108 cx) (w73 cx) (nle rfl) (nle rfl)) (by rw [hml]; rfl) (argsL := [.ref u, .int k, .int 0, .int 2]) (rest := []) (lenOf pd11 rfl) rfl rfl (Nat.le_of_eq rfl) (hb hby d7_33) (nle rfl) (nle rfl) ?_
  rintro T4 h4 _ _ _ X4 ⟨rfl, rfl, rfl, J4⟩
  rw [J4] at X4
  exact WS.retI X4 (WL' := []) (FL' := []) hx hret hlk (hb hby d7_36) (nle rfl) (nle rfl) ⟨rfl, rfl, rfl, rfl⟩
def Q_vl20 (Z : State) (gC : Int32) (gF : Value) (x : Addr) (u : Addr) (c0 : Int32) (c1 : Int32) (k : Int32) (h : Heap) (v : Option Value) (h' : Heap) (WL' FL' : List Addr) : Prop := v = some (.int (-1 : Int32)) ∧ WL' = [] ∧ FL' = [] ∧ h' = h
theorem ct_vl20 {l : Launch} {Z : State} {a0 : Array Value} {gC : Int32} {gF : Value} (cx : Cx a0 Z gC gF) {n0 : Nat} (x : Addr) (u : Addr) (c0 : Int32) (c1 : Int32) (k : Int32) (h : Heap) (WL FL : List Addr) (P0 : StrL Z h x u [c0, c1]) (hk : k = 9 ∨ k = 10 ∨ k = 13) (hT : ¬ (c0 = k ∨ c1 = k)) :
    Ct l Z EL1 n0 (⟨"java/lang/String", "indexOf", "(I)I"⟩ : MethodName) jdk_42_method_79_code 2 (Option.some Jvm.ClassFile.FieldType.int) ({ frames := 3, cells := 0, slots := 0, locals := 46 } : Room) #[(.ref x), (.int k)] h WL FL (Q_vl20 Z gC gF x u c0 c1 k h) := by
  refine Ct.of (plainFor_of_name pn0) ?_
  intro p e s m below meth c s1 hx hby hml hnm hret hlk X0
  refine Wo.cast (f' := (mkF m 0 #[.val (.ref x), .val (.int k)] [])) (by rfl) ?_
  show Wo _ _ _ _ _ _ _ _ _ _ _ s1 (mkF m 0 #[.val (.ref x), .val (.int k)] [])
  refine P.aloadN X0 hx 1 (hb hby d6_0) rfl rfl rfl ?_
  refine P.iloadN X0 hx 2 (hb hby d6_1) rfl rfl ?_
  refine P.iconst X0 hx 3 0 (hb hby d6_2) rfl rfl ?_
  refine X0.callV hx (w36 cx) (w37 cx) (w39 cx) (w38 cx) (fun _ hZ => nf hZ (w39 cx)) (by decide) P0.1 (Ct.pay (W := 0) (ct_zl20 cx x u c0 c1 k h _ _ P0 hk hT) (w40 cx) (w7 cx) (nle rfl) (nle rfl)) (by rw [hml]; rfl) (argsL := [.int k, .int 0]) (rest := []) (lenOf pd10 rfl) rfl rfl (Nat.le_of_eq rfl) (hb hby d6_3) (nle rfl) (nle rfl) ?_
  rintro T1 h1 _ _ _ X1 ⟨rfl, rfl, rfl, J1⟩
  rw [J1] at X1
  exact WS.retI X1 (WL' := []) (FL' := []) hx hret hlk (hb hby d6_6) (nle rfl) (nle rfl) ⟨rfl, rfl, rfl, rfl⟩
def Q_vu20 (Z : State) (gC : Int32) (gF : Value) (x : Addr) (u : Addr) (ku : ClassId) (c0 : Int32) (c1 : Int32) (k : Int32) (h : Heap) (v : Option Value) (h' : Heap) (WL' FL' : List Addr) : Prop := v = some (.int (-1 : Int32)) ∧ WL' = [] ∧ FL' = [] ∧ h' = h
theorem ct_vu20 {l : Launch} {Z : State} {a0 : Array Value} {gC : Int32} {gF : Value} (cx : Cx a0 Z gC gF) {n0 : Nat} (x : Addr) (u : Addr) (ku : ClassId) (c0 : Int32) (c1 : Int32) (k : Int32) (h : Heap) (WL FL : List Addr) (P0 : Exa Z h x "java/lang/String") (P1 : Fld Z h x "java/lang/String" "value" "[B" (.ref u)) (P2 : Fld Z h x "java/lang/String" "coder" "B" (.int 1)) (P3 : Arv Z h u ku .byte (4 : Int32) [(.int (c0.toInt8.toInt32)), (.int ((c0 >>> ((8 : Int32) &&& 31)).toInt8.toInt32)), (.int (c1.toInt8.toInt32)), (.int ((c1 >>> ((8 : Int32) &&& 31)).toInt8.toInt32))] (.int 0)) (hr_c0 : ¬ c0 < 0 ∧ ¬ (65535 : Int32) < c0) (hr_c1 : ¬ c1 < 0 ∧ ¬ (65535 : Int32) < c1) (hk : k = 9 ∨ k = 10 ∨ k = 13) (hT : ¬ (c0 = k ∨ c1 = k)) :
    Ct l Z EL1 n0 (⟨"java/lang/String", "indexOf", "(I)I"⟩ : MethodName) jdk_42_method_79_code 2 (Option.some Jvm.ClassFile.FieldType.int) ({ frames := 6, cells := 0, slots := 0, locals := 87 } : Room) #[(.ref x), (.int k)] h WL FL (Q_vu20 Z gC gF x u ku c0 c1 k h) := by
  refine Ct.of (plainFor_of_name pn0) ?_
  intro p e s m below meth c s1 hx hby hml hnm hret hlk X0
  refine Wo.cast (f' := (mkF m 0 #[.val (.ref x), .val (.int k)] [])) (by rfl) ?_
  show Wo _ _ _ _ _ _ _ _ _ _ _ s1 (mkF m 0 #[.val (.ref x), .val (.int k)] [])
  refine P.aloadN X0 hx 1 (hb hby d6_0) rfl rfl rfl ?_
  refine P.iloadN X0 hx 2 (hb hby d6_1) rfl rfl ?_
  refine P.iconst X0 hx 3 0 (hb hby d6_2) rfl rfl ?_
  refine X0.callV hx (w36 cx) (w37 cx) (w39 cx) (w38 cx) (fun _ hZ => nf hZ (w39 cx)) (by decide) P0 (Ct.pay (W := 0) (ct_zu20 cx x u ku c0 c1 k h _ _ P0 P1 P2 P3 hr_c0 hr_c1 hk hT) (w40 cx) (w7 cx) (nle rfl) (nle rfl)) (by rw [hml]; rfl) (argsL := [.int k, .int 0]) (rest := []) (lenOf pd10 rfl) rfl rfl (Nat.le_of_eq rfl) (hb hby d6_3) (nle rfl) (nle rfl) ?_
  rintro T1 h1 _ _ _ X1 ⟨rfl, rfl, rfl, J1⟩
  rw [J1] at X1
  exact WS.retI X1 (WL' := []) (FL' := []) hx hret hlk (hb hby d6_6) (nle rfl) (nle rfl) ⟨rfl, rfl, rfl, rfl⟩
def Q_xl31 (Z : State) (gC : Int32) (gF : Value) (u : Addr) (ku : ClassId) (c0 : Int32) (c1 : Int32) (c2 : Int32) (k : Int32) (h : Heap) (v : Option Value) (h' : Heap) (WL' FL' : List Addr) : Prop := ∃ r : Int32, v = some (.int r) ∧ WL' = [] ∧ FL' = [] ∧ h' = h ∧ (¬ r < 0)
theorem ct_xl31_0 {l : Launch} {Z : State} {a0 : Array Value} {gC : Int32} {gF : Value} (cx : Cx a0 Z gC gF) {n0 : Nat} (u : Addr) (ku : ClassId) (c0 : Int32) (c1 : Int32) (c2 : Int32) (k : Int32) (h : Heap) (WL FL : List Addr) (P0 : Arv Z h u ku .byte (3 : Int32) [(.int (c0.toInt8.toInt32)), (.int (c1.toInt8.toInt32)), (.int (c2.toInt8.toInt32))] (.int 0)) (hq_c0 : ¬ c0 < 0 ∧ ¬ (255 : Int32) < c0) (hq_c1 : ¬ c1 < 0 ∧ ¬ (255 : Int32) < c1) (hq_c2 : ¬ c2 < 0 ∧ ¬ (255 : Int32) < c2) (hk : k = 9 ∨ k = 10 ∨ k = 13) (hT : c0 = k ∨ c1 = k ∨ c2 = k) (e0 : c0 = k) :
    Ct l Z EL1 n0 (⟨"java/lang/StringLatin1", "indexOfChar", "([BIII)I"⟩ : MethodName) jdk_43_method_23_code 6 (Option.some Jvm.ClassFile.FieldType.int) ({ frames := 0, cells := 0, slots := 0, locals := 0 } : Room) #[(.ref u), (.int k), (.int 0), (.int 3)] h WL FL (Q_xl31 Z gC gF u ku c0 c1 c2 k h) := by
  refine Ct.of (plainFor_of_name pn3) ?_
  intro p e s m below meth c s1 hx hby hml hnm hret hlk X0
  refine Wo.cast (f' := (mkF m 0 #[.val (.ref u), .val (.int k), .val (.int 0), .val (.int 3), .unset, .unset] [])) (by rfl) ?_
  show Wo _ _ _ _ _ _ _ _ _ _ _ s1 (mkF m 0 #[.val (.ref u), .val (.int k), .val (.int 0), .val (.int 3), .unset, .unset] [])
  refine P.iloadN X0 hx 1 (hb hby d19_0) rfl rfl ?_
  refine P.i2b X0 hx 2 (z := (k.toInt8.toInt32)) (hb hby d19_1) rfl rfl ?_
  refine P.istore X0 hx 4 #[.val (.ref u), .val (.int k), .val (.int 0), .val (.int 3), .val (.int (k.toInt8.toInt32)), .unset] (hb hby d19_2) rfl rfl ?_
  refine P.iloadN X0 hx 5 (hb hby d19_4) rfl rfl ?_
  refine P.istore X0 hx 7 #[.val (.ref u), .val (.int k), .val (.int 0), .val (.int 3), .val (.int (k.toInt8.toInt32)), .val (.int 0)] (hb hby d19_5) rfl rfl ?_
  refine P.iload X0 hx 9 (hb hby d19_7) rfl rfl ?_
  refine P.iloadN X0 hx 10 (hb hby d19_9) rfl rfl ?_
  refine P.icmpNo X0 hx 13 (hb hby d19_10) (by decide) rfl ?_
  refine P.aloadN X0 hx 14 (hb hby d19_13) rfl rfl rfl ?_
  refine P.iload X0 hx 16 (hb hby d19_14) rfl rfl ?_
  refine WS.bld X0 hx P0 (j := (0 : Int32)) (x := (c0.toInt8.toInt32)) (by decide) rfl (hb hby d19_16) ?_
  refine P.iload X0 hx 19 (hb hby d19_17) rfl rfl ?_
  refine P.icmpNo X0 hx 22 (hb hby d19_19) (teq ((bk hq_c0 hk).mpr e0)).2 rfl ?_
  refine P.iload X0 hx 24 (hb hby d19_22) rfl rfl ?_
  exact WS.retI X0 (WL' := []) (FL' := []) hx hret hlk (hb hby d19_24) (nle rfl) (nle rfl) ⟨(0 : Int32), rfl, rfl, rfl, rfl, (by decide)⟩
theorem ct_xl31_1 {l : Launch} {Z : State} {a0 : Array Value} {gC : Int32} {gF : Value} (cx : Cx a0 Z gC gF) {n0 : Nat} (u : Addr) (ku : ClassId) (c0 : Int32) (c1 : Int32) (c2 : Int32) (k : Int32) (h : Heap) (WL FL : List Addr) (P0 : Arv Z h u ku .byte (3 : Int32) [(.int (c0.toInt8.toInt32)), (.int (c1.toInt8.toInt32)), (.int (c2.toInt8.toInt32))] (.int 0)) (hq_c0 : ¬ c0 < 0 ∧ ¬ (255 : Int32) < c0) (hq_c1 : ¬ c1 < 0 ∧ ¬ (255 : Int32) < c1) (hq_c2 : ¬ c2 < 0 ∧ ¬ (255 : Int32) < c2) (hk : k = 9 ∨ k = 10 ∨ k = 13) (hT : c0 = k ∨ c1 = k ∨ c2 = k) (e0 : ¬ c0 = k) (e1 : c1 = k) :
    Ct l Z EL1 n0 (⟨"java/lang/StringLatin1", "indexOfChar", "([BIII)I"⟩ : MethodName) jdk_43_method_23_code 6 (Option.some Jvm.ClassFile.FieldType.int) ({ frames := 0, cells := 0, slots := 0, locals := 0 } : Room) #[(.ref u), (.int k), (.int 0), (.int 3)] h WL FL (Q_xl31 Z gC gF u ku c0 c1 c2 k h) := by
  refine Ct.of (plainFor_of_name pn3) ?_
  intro p e s m below meth c s1 hx hby hml hnm hret hlk X0
  refine Wo.cast (f' := (mkF m 0 #[.val (.ref u), .val (.int k), .val (.int 0), .val (.int 3), .unset, .unset] [])) (by rfl) ?_
  show Wo _ _ _ _ _ _ _ _ _ _ _ s1 (mkF m 0 #[.val (.ref u), .val (.int k), .val (.int 0), .val (.int 3), .unset, .unset] [])
  refine P.iloadN X0 hx 1 (hb hby d19_0) rfl rfl ?_
  refine P.i2b X0 hx 2 (z := (k.toInt8.toInt32)) (hb hby d19_1) rfl rfl ?_
  refine P.istore X0 hx 4 #[.val (.ref u), .val (.int k), .val (.int 0), .val (.int 3), .val (.int (k.toInt8.toInt32)), .unset] (hb hby d19_2) rfl rfl ?_
  refine P.iloadN X0 hx 5 (hb hby d19_4) rfl rfl ?_
  refine P.istore X0 hx 7 #[.val (.ref u), .val (.int k), .val (.int 0), .val (.int 3), .val (.int (k.toInt8.toInt32)), .val (.int 0)] (hb hby d19_5) rfl rfl ?_
  refine P.iload X0 hx 9 (hb hby d19_7) rfl rfl ?_
  refine P.iloadN X0 hx 10 (hb hby d19_9) rfl rfl ?_
  refine P.icmpNo X0 hx 13 (hb hby d19_10) (by decide) rfl ?_
  refine P.aloadN X0 hx 14 (hb hby d19_13) rfl rfl rfl ?_
  refine P.iload X0 hx 16 (hb hby d19_14) rfl rfl ?_
  refine WS.bld X0 hx P0 (j := (0 : Int32)) (x := (c0.toInt8.toInt32)) (by decide) rfl (hb hby d19_16) ?_
  refine P.iload X0 hx 19 (hb hby d19_17) rfl rfl ?_
  refine P.icmpYes X0 hx 25 (hb hby d19_19) (feq (fun q => e0 ((bk hq_c0 hk).mp q))).2 (by decide) (by decide) ?_
  refine P.iinc X0 hx 28 #[.val (.ref u), .val (.int k), .val (.int 0), .val (.int 3), .val (.int (k.toInt8.toInt32)), .val (.int 1)] (hb hby d19_25) rfl rfl rfl ?_
  refine P.goto X0 hx 7 (hb hby d19_28) (by decide) (by decide) ?_
  refine P.iload X0 hx 9 (hb hby d19_7) rfl rfl ?_
  refine P.iloadN X0 hx 10 (hb hby d19_9) rfl rfl ?_
  refine P.icmpNo X0 hx 13 (hb hby d19_10) (by decide) rfl ?_
  refine P.aloadN X0 hx 14 (hb hby d19_13) rfl rfl rfl ?_
  refine P.iload X0 hx 16 (hb hby d19_14) rfl rfl ?_
  refine WS.bld X0 hx P0 (j := (1 : Int32)) (x := (c1.toInt8.toInt32)) (by decide) rfl (hb hby d19_16) ?_
  refine P.iload X0 hx 19 (hb hby d19_17) rfl rfl ?_
  refine P.icmpNo X0 hx 22 (hb hby d19_19) (teq ((bk hq_c1 hk).mpr e1)).2 rfl ?_
  refine P.iload X0 hx 24 (hb hby d19_22) rfl rfl ?_
  exact WS.retI X0 (WL' := []) (FL' := []) hx hret hlk (hb hby d19_24) (nle rfl) (nle rfl) ⟨(1 : Int32), rfl, rfl, rfl, rfl, (by decide)⟩
theorem ct_xl31_2 {l : Launch} {Z : State} {a0 : Array Value} {gC : Int32} {gF : Value} (cx : Cx a0 Z gC gF) {n0 : Nat} (u : Addr) (ku : ClassId) (c0 : Int32) (c1 : Int32) (c2 : Int32) (k : Int32) (h : Heap) (WL FL : List Addr) (P0 : Arv Z h u ku .byte (3 : Int32) [(.int (c0.toInt8.toInt32)), (.int (c1.toInt8.toInt32)), (.int (c2.toInt8.toInt32))] (.int 0)) (hq_c0 : ¬ c0 < 0 ∧ ¬ (255 : Int32) < c0) (hq_c1 : ¬ c1 < 0 ∧ ¬ (255 : Int32) < c1) (hq_c2 : ¬ c2 < 0 ∧ ¬ (255 : Int32) < c2) (hk : k = 9 ∨ k = 10 ∨ k = 13) (hT : c0 = k ∨ c1 = k ∨ c2 = k) (e0 : ¬ c0 = k) (e1 : ¬ c1 = k) (e2 : c2 = k) :
    Ct l Z EL1 n0 (⟨"java/lang/StringLatin1", "indexOfChar", "([BIII)I"⟩ : MethodName) jdk_43_method_23_code 6 (Option.some Jvm.ClassFile.FieldType.int) ({ frames := 0, cells := 0, slots := 0, locals := 0 } : Room) #[(.ref u), (.int k), (.int 0), (.int 3)] h WL FL (Q_xl31 Z gC gF u ku c0 c1 c2 k h) := by
  refine Ct.of (plainFor_of_name pn3) ?_
  intro p e s m below meth c s1 hx hby hml hnm hret hlk X0
  refine Wo.cast (f' := (mkF m 0 #[.val (.ref u), .val (.int k), .val (.int 0), .val (.int 3), .unset, .unset] [])) (by rfl) ?_
  show Wo _ _ _ _ _ _ _ _ _ _ _ s1 (mkF m 0 #[.val (.ref u), .val (.int k), .val (.int 0), .val (.int 3), .unset, .unset] [])
  refine P.iloadN X0 hx 1 (hb hby d19_0) rfl rfl ?_
  refine P.i2b X0 hx 2 (z := (k.toInt8.toInt32)) (hb hby d19_1) rfl rfl ?_
  refine P.istore X0 hx 4 #[.val (.ref u), .val (.int k), .val (.int 0), .val (.int 3), .val (.int (k.toInt8.toInt32)), .unset] (hb hby d19_2) rfl rfl ?_
  refine P.iloadN X0 hx 5 (hb hby d19_4) rfl rfl ?_
  refine P.istore X0 hx 7 #[.val (.ref u), .val (.int k), .val (.int 0), .val (.int 3), .val (.int (k.toInt8.toInt32)), .val (.int 0)] (hb hby d19_5) rfl rfl ?_
  refine P.iload X0 hx 9 (hb hby d19_7) rfl rfl ?_
  refine P.iloadN X0 hx 10 (hb hby d19_9) rfl rfl ?_
  refine P.icmpNo X0 hx 13 (hb hby d19_10) (by decide) rfl ?_
  refine P.aloadN X0 hx 14 (hb hby d19_13) rfl rfl rfl ?_
  refine P.iload X0 hx 16 (hb hby d19_14) rfl rfl ?_
  refine WS.bld X0 hx P0 (j := (0 : Int32)) (x := (c0.toInt8.toInt32)) (by decide) rfl (hb hby d19_16) ?_
  refine P.iload X0 hx 19 (hb hby d19_17) rfl rfl ?_
  refine P.icmpYes X0 hx 25 (hb hby d19_19) (feq (fun q => e0 ((bk hq_c0 hk).mp q))).2 (by decide) (by decide) ?_
  refine P.iinc X0 hx 28 #[.val (.ref u), .val (.int k), .val (.int 0), .val (.int 3), .val (.int (k.toInt8.toInt32)), .val (.int 1)] (hb hby d19_25) rfl rfl rfl ?_
  refine P.goto X0 hx 7 (hb hby d19_28) (by decide) (by decide) ?_
  refine P.iload X0 hx 9 (hb hby d19_7) rfl rfl ?_
  refine P.iloadN X0 hx 10 (hb hby d19_9) rfl rfl ?_
  refine P.icmpNo X0 hx 13 (hb hby d19_10) (by decide) rfl ?_
  refine P.aloadN X0 hx 14 (hb hby d19_13) rfl rfl rfl ?_
  refine P.iload X0 hx 16 (hb hby d19_14) rfl rfl ?_
  refine WS.bld X0 hx P0 (j := (1 : Int32)) (x := (c1.toInt8.toInt32)) (by decide) rfl (hb hby d19_16) ?_
  refine P.iload X0 hx 19 (hb hby d19_17) rfl rfl ?_
  refine P.icmpYes X0 hx 25 (hb hby d19_19) (feq (fun q => e1 ((bk hq_c1 hk).mp q))).2 (by decide) (by decide) ?_
  refine P.iinc X0 hx 28 #[.val (.ref u), .val (.int k), .val (.int 0), .val (.int 3), .val (.int (k.toInt8.toInt32)), .val (.int 2)] (hb hby d19_25) rfl rfl rfl ?_
  refine P.goto X0 hx 7 (hb hby d19_28) (by decide) (by decide) ?_
  refine P.iload X0 hx 9 (hb hby d19_7) rfl rfl ?_
  refine P.iloadN X0 hx 10 (hb hby d19_9) rfl rfl ?_
  refine P.icmpNo X0 hx 13 (hb hby d19_10) (by decide) rfl ?_
  refine P.aloadN X0 hx 14 (hb hby d19_13) rfl rfl rfl ?_
  refine P.iload X0 hx 16 (hb hby d19_14) rfl rfl ?_
  refine WS.bld X0 hx P0 (j := (2 : Int32)) (x := (c2.toInt8.toInt32)) (by decide) rfl (hb hby d19_16) ?_
  refine P.iload X0 hx 19 (hb hby d19_17) rfl rfl ?_
  refine P.icmpNo X0 hx 22 (hb hby d19_19) (teq ((bk hq_c2 hk).mpr e2)).2 rfl ?_
  refine P.iload X0 hx 24 (hb hby d19_22) rfl rfl ?_
  exact WS.retI X0 (WL' := []) (FL' := []) hx hret hlk (hb hby d19_24) (nle rfl) (nle rfl) ⟨(2 : Int32), rfl, rfl, rfl, rfl, (by decide)⟩
theorem ct_xl31 {l : Launch} {Z : State} {a0 : Array Value} {gC : Int32} {gF : Value} (cx : Cx a0 Z gC gF) {n0 : Nat} (u : Addr) (ku : ClassId) (c0 : Int32) (c1 : Int32) (c2 : Int32) (k : Int32) (h : Heap) (WL FL : List Addr) (P0 : Arv Z h u ku .byte (3 : Int32) [(.int (c0.toInt8.toInt32)), (.int (c1.toInt8.toInt32)), (.int (c2.toInt8.toInt32))] (.int 0)) (hq_c0 : ¬ c0 < 0 ∧ ¬ (255 : Int32) < c0) (hq_c1 : ¬ c1 < 0 ∧ ¬ (255 : Int32) < c1) (hq_c2 : ¬ c2 < 0 ∧ ¬ (255 : Int32) < c2) (hk : k = 9 ∨ k = 10 ∨ k = 13) (hT : c0 = k ∨ c1 = k ∨ c2 = k) :
    Ct l Z EL1 n0 (⟨"java/lang/StringLatin1", "indexOfChar", "([BIII)I"⟩ : MethodName) jdk_43_method_23_code 6 (Option.some Jvm.ClassFile.FieldType.int) ({ frames := 0, cells := 0, slots := 0, locals := 0 } : Room) #[(.ref u), (.int k), (.int 0), (.int 3)] h WL FL (Q_xl31 Z gC gF u ku c0 c1 c2 k h) := by
  by_cases e0 : c0 = k
  · exact ct_xl31_0 cx u ku c0 c1 c2 k h WL FL P0 hq_c0 hq_c1 hq_c2 hk hT e0
  by_cases e1 : c1 = k
  · exact ct_xl31_1 cx u ku c0 c1 c2 k h WL FL P0 hq_c0 hq_c1 hq_c2 hk hT e0 e1
  exact ct_xl31_2 cx u ku c0 c1 c2 k h WL FL P0 hq_c0 hq_c1 hq_c2 hk hT e0 e1 ((hT.resolve_left e0).resolve_left e1)
def Q_mmin_3_3 (Z : State) (gC : Int32) (gF : Value) (h : Heap) (v : Option Value) (h' : Heap) (WL' FL' : List Addr) : Prop := v = some (.int 3) ∧ WL' = [] ∧ FL' = [] ∧ h' = h
theorem ct_mmin_3_3 {l : Launch} {Z : State} {a0 : Array Value} {gC : Int32} {gF : Value} (cx : Cx a0 Z gC gF) {n0 : Nat} (h : Heap) (WL FL : List Addr)  :
    Ct l Z EL1 n0 (⟨"java/lang/Math", "min", "(II)I"⟩ : MethodName) jdk_29_method_69_code 2 (Option.some Jvm.ClassFile.FieldType.int) ({ frames := 0, cells := 0, slots := 0, locals := 0 } : Room) #[(.int 3), (.int 3)] h WL FL (Q_mmin_3_3 Z gC gF h) := by
  refine Ct.of (by decide +kernel) ?_
  intro p e s m below meth c s1 hx hby hml hnm hret hlk X0
  refine Wo.cast (f' := (mkF m 0 #[.val (.int 3), .val (.int 3)] [])) (by rfl) ?_
  show Wo _ _ _ _ _ _ _ _ _ _ _ s1 (mkF m 0 #[.val (.int 3), .val (.int 3)] [])
  refine P.iloadN X0 hx 1 (hb hby d14_0) rfl rfl ?_
  refine P.iloadN X0 hx 2 (hb hby d14_1) rfl rfl ?_
  refine P.icmpNo X0 hx 5 (hb hby d14_2) (by decide) rfl ?_
  refine P.iloadN X0 hx 6 (hb hby d14_5) rfl rfl ?_
  refine P.goto X0 hx 10 (hb hby d14_6) (by decide) (by decide) ?_
  exact WS.retI X0 (WL' := []) (FL' := []) hx hret hlk (hb hby d14_10) (nle rfl) (nle rfl) ⟨rfl, rfl, rfl, rfl⟩
def Q_yl31 (Z : State) (gC : Int32) (gF : Value) (u : Addr) (ku : ClassId) (c0 : Int32) (c1 : Int32) (c2 : Int32) (k : Int32) (h : Heap) (v : Option Value) (h' : Heap) (WL' FL' : List Addr) : Prop := ∃ r : Int32, v = some (.int r) ∧ WL' = [] ∧ FL' = [] ∧ h' = h ∧ (¬ r < 0)
theorem ct_yl31 {l : Launch} {Z : State} {a0 : Array Value} {gC : Int32} {gF : Value} (cx : Cx a0 Z gC gF) {n0 : Nat} (u : Addr) (ku : ClassId) (c0 : Int32) (c1 : Int32) (c2 : Int32) (k : Int32) (h : Heap) (WL FL : List Addr) (P0 : Arv Z h u ku .byte (3 : Int32) [(.int (c0.toInt8.toInt32)), (.int (c1.toInt8.toInt32)), (.int (c2.toInt8.toInt32))] (.int 0)) (hq_c0 : ¬ c0 < 0 ∧ ¬ (255 : Int32) < c0) (hq_c1 : ¬ c1 < 0 ∧ ¬ (255 : Int32) < c1) (hq_c2 : ¬ c2 < 0 ∧ ¬ (255 : Int32) < c2) (hk : k = 9 ∨ k = 10 ∨ k = 13) (hT : c0 = k ∨ c1 = k ∨ c2 = k) :
    Ct l Z EL1 n0 (⟨"java/lang/StringLatin1", "indexOf", "([BIII)I"⟩ : MethodName) jdk_43_method_22_code 4 (Option.some Jvm.ClassFile.FieldType.int) ({ frames := 1, cells := 0, slots := 0, locals := 17 } : Room) #[(.ref u), (.int k), (.int 0), (.int 3)] h WL FL (Q_yl31 Z gC gF u ku c0 c1 c2 k h) := by
  refine Ct.of (plainFor_of_name pn3) ?_
  intro p e s m below meth c s1 hx hby hml hnm hret hlk X0
  refine Wo.cast (f' := (mkF m 0 #[.val (.ref u), .val (.int k), .val (.int 0), .val (.int 3)] [])) (by rfl) ?_
  show Wo _ _ _ _ _ _ _ _ _ _ _ s1 (mkF m 0 #[.val (.ref u), .val (.int k), .val (.int 0), .val (.int 3)] [])
  refine P.iloadN X0 hx 1 (hb hby d11_0) rfl rfl ?_
  refine X0.callS hx (w61 cx) (w62 cx) (w59 cx) (w63 cx) (by decide) (Ct.pay (W := 0) (ct_cenk cx k h _ _ hk) (w63 cx) (w59 cx) (nle rfl) (nle rfl)) (by rw [hml]; rfl) (argsL := [.int k]) (rest := []) (lenOf pd9 rfl) rfl rfl (Nat.le_of_eq rfl) (hb hby d11_1) (nle rfl) (nle rfl) ?_
  rintro T1 h1 _ _ _ X1 ⟨rfl, rfl, rfl, J1⟩
  rw [J1] at X1
  refine P.ifYes X1 hx 9 (hb hby d11_4) (by decide) (by decide) (by decide) ?_
  refine P.iloadN X1 hx 10 (hb hby d11_9) rfl rfl ?_
  refine P.iconst X1 hx 11 0 (hb hby d11_10) rfl rfl ?_
  refine X1.callS hx (w64 cx) (w65 cx) (w66 cx) (w67 cx) (by decide) (Ct.pay (W := 0) (ct_mmax_0_0 cx  h _ _ ) (w67 cx) (w66 cx) (nle rfl) (nle rfl)) (by rw [hml]; rfl) (argsL := [.int 0, .int 0]) (rest := []) (lenOf pd10 rfl) rfl rfl (Nat.le_of_eq rfl) (hb hby d11_11) (nle rfl) (nle rfl) ?_
  rintro T2 h2 _ _ _ X2 ⟨rfl, rfl, rfl, J2⟩
  rw [J2] at X2
  refine P.istoreN X2 hx 15 #[.val (.ref u), .val (.int k), .val (.int 0), .val (.int 3)] (hb hby d11_14) rfl rfl ?_
  refine P.iloadN X2 hx 16 (hb hby d11_15) rfl rfl ?_
  refine P.aloadN X2 hx 17 (hb hby d11_16) rfl rfl rfl ?_
  refine WS.alen X2 hx P0 (hb hby d11_17) ?_
  refine X2.callS hx (w68 cx) (w69 cx) (w66 cx) (w70 cx) (by decide) (Ct.pay (W := 0) (ct_mmin_3_3 cx  h _ _ ) (w70 cx) (w66 cx) (nle rfl) (nle rfl)) (by rw [hml]; rfl) (argsL := [.int 3, .int 3]) (rest := []) (lenOf pd10 rfl) rfl rfl (Nat.le_of_eq rfl) (hb hby d11_18) (nle rfl) (nle rfl) ?_
  rintro T3 h3 _ _ _ X3 ⟨rfl, rfl, rfl, J3⟩
  rw [J3] at X3
  refine P.istoreN X3 hx 22 #[.val (.ref u), .val (.int k), .val (.int 0), .val (.int 3)] (hb hby d11_21) rfl rfl ?_
  refine P.iloadN X3 hx 23 (hb hby d11_22) rfl rfl ?_
  refine P.iloadN X3 hx 24 (hb hby d11_23) rfl rfl ?_
  refine P.icmpYes X3 hx 29 (hb hby d11_24) (by decide) (by decide) (by decide) ?_
  refine P.aloadN X3 hx 30 (hb hby d11_29) rfl rfl rfl ?_
  refine P.iloadN X3 hx 31 (hb hby d11_30) rfl rfl ?_
  refine P.iloadN X3 hx 32 (hb hby d11_31) rfl rfl ?_
  refine P.iloadN X3 hx 33 (hb hby d11_32) rfl rfl ?_
  refine X3.callS hx (w84 cx) (w85 cx) (w59 cx) (w86 cx) (by decide) (Ct.pay (W := 0) (ct_xl31 cx u ku c0 c1 c2 k h _ _ P0 hq_c0 hq_c1 hq_c2 hk hT) (w86 cx) (w59 cx) (nle rfl) (nle rfl)) (by rw [hml]; rfl) (argsL := [.ref u, .int k, .int 0, .int 3]) (rest := []) (lenOf pd11 rfl) rfl rfl (Nat.le_of_eq rfl) (hb hby d11_33) (nle rfl) (nle rfl) ?_
  rintro T4 h4 _ _ _ X4 ⟨x5, rfl, rfl, rfl, J4, G6⟩
  rw [J4] at X4
  exact WS.retI X4 (WL' := []) (FL' := []) hx hret hlk (hb hby d11_36) (nle rfl) (nle rfl) ⟨x5, rfl, rfl, rfl, rfl, G6⟩
def Q_zl31 (Z : State) (gC : Int32) (gF : Value) (x : Addr) (u : Addr) (c0 : Int32) (c1 : Int32) (c2 : Int32) (k : Int32) (h : Heap) (v : Option Value) (h' : Heap) (WL' FL' : List Addr) : Prop := ∃ r : Int32, v = some (.int r) ∧ WL' = [] ∧ FL' = [] ∧ h' = h ∧ (¬ r < 0)
theorem ct_zl31 {l : Launch} {Z : State} {a0 : Array Value} {gC : Int32} {gF : Value} (cx : Cx a0 Z gC gF) {n0 : Nat} (x : Addr) (u : Addr) (c0 : Int32) (c1 : Int32) (c2 : Int32) (k : Int32) (h : Heap) (WL FL : List Addr) (P0 : StrL Z h x u [c0, c1, c2]) (hk : k = 9 ∨ k = 10 ∨ k = 13) (hT : c0 = k ∨ c1 = k ∨ c2 = k) :
    Ct l Z EL1 n0 (⟨"java/lang/String", "indexOf", "(II)I"⟩ : MethodName) jdk_42_method_80_code 3 (Option.some Jvm.ClassFile.FieldType.int) ({ frames := 2, cells := 0, slots := 0, locals := 32 } : Room) #[(.ref x), (.int k), (.int 0)] h WL FL (Q_zl31 Z gC gF x u c0 c1 c2 k h) := by
  refine Ct.of (plainFor_of_name pn0) ?_
  intro p e s m below meth c s1 hx hby hml hnm hret hlk X0
  refine Wo.cast (f' := (mkF m 0 #[.val (.ref x), .val (.int k), .val (.int 0)] [])) (by rfl) ?_
  show Wo _ _ _ _ _ _ _ _ _ _ _ s1 (mkF m 0 #[.val (.ref x), .val (.int k), .val (.int 0)] [])
  refine P.aloadN X0 hx 1 (hb hby d7_0) rfl rfl rfl ?_
  obtain ⟨k1, A1⟩ := P0.2.2.2.1
  have V1 : Arv Z h u k1 .byte (3 : Int32) [(.int (c0.toInt8.toInt32)), (.int (c1.toInt8.toInt32)), (.int (c2.toInt8.toInt32))] (.int 0) := A1
  refine X0.callV hx (w41 cx) (w42 cx) (w44 cx) (w43 cx) (fun _ hZ => nf hZ (w44 cx)) (by decide) P0.1 (Ct.pay (W := 0) (ct_isLL cx x h _ _ P0.2.2.1) (w45 cx) (w7 cx) (nle rfl) (nle rfl)) (by rw [hml]; rfl) (argsL := []) (rest := []) (lenOf pd12 rfl) rfl rfl (Nat.le_of_eq rfl) (hb hby d7_1) (nle rfl) (nle rfl) ?_
  rintro T2 h2 _ _ _ X2 ⟨rfl, rfl, rfl, J2⟩
  rw [J2] at X2
  refine P.ifNo X2 hx 7 (hb hby d7_4) (by decide) rfl ?_
  refine P.aloadN X2 hx 8 (hb hby d7_7) rfl rfl rfl ?_
  refine X2.getF hx (host := "") (Or.inl (w25 cx)) Via.refl P0.2.1 (hb hby d7_8) ?_
  intro T3 X3
  refine P.iloadN X3 hx 12 (hb hby d7_11) rfl rfl ?_
  refine P.iloadN X3 hx 13 (hb hby d7_12) rfl rfl ?_
  refine P.aloadN X3 hx 14 (hb hby d7_13) rfl rfl rfl ?_
  refine X3.callV hx (w47 cx) (w48 cx) (w50 cx) (w49 cx) (fun _ hZ => nf hZ (w50 cx)) (by decide) P0.1 (pay_len (W := 3) (hln cx) (w6 cx) P0 (X3.sta (S_C cx)) (N_C cx) (nle rfl) (nle rfl)) (by rw [hml]; rfl) (argsL := []) (rest := [.int 0, .int k, .ref u]) (lenOf pd13 rfl) rfl rfl (Nat.le_of_eq rfl) (hb hby d7_14) (nle rfl) (nle rfl) ?_
  rintro T4 h4 _ _ _ X4 ⟨rfl, rfl, rfl, J4⟩
  rw [J4] at X4
  show Wo _ _ _ _ _ _ _ _ _ _ _ T4 (mkF m 17 #[.val (.ref x), .val (.int k), .val (.int 0)] [.int 3, .int 0, .int k, .ref u])
  refine X4.callS hx (w57 cx) (w58 cx) (w59 cx) (w60 cx) (by decide) (Ct.pay (W := 0) (ct_yl31 cx u k1 c0 c1 c2 k h _ _ V1 (P0.2.2.2.2.1 _ (List.mem_of_getElem? (i := 0) rfl)) (P0.2.2.2.2.1 _ (List.mem_of_getElem? (i := 1) rfl)) (P0.2.2.2.2.1 _ (List.mem_of_getElem? (i := 2) rfl)) hk hT) (w60 cx) (w59 cx) (nle rfl) (nle rfl)) (by rw [hml]; rfl) (argsL := [.ref u, .int k, .int 0, .int 3]) (rest := []) (lenOf pd11 rfl) rfl rfl (Nat.le_of_eq rfl) (hb hby d7_17) (nle rfl) (nle rfl) ?_
  rintro T5 h5 _ _ _ X5 ⟨x6, rfl, rfl, rfl, J5, G7⟩
  rw [J5] at X5
  refine P.goto X5 hx 36 (hb hby d7_20) (by decide) (by decide) ?_
  exact WS.retI X5 (WL' := []) (FL' := []) hx hret hlk (hb hby d7_36) (nle rfl) (nle rfl) ⟨x6, rfl, rfl, rfl, rfl, G7⟩
def Q_xu31 (Z : State) (gC : Int32) (gF : Value) (u : Addr) (ku : ClassId) (c0 : Int32) (c1 : Int32) (c2 : Int32) (k : Int32) (h : Heap) (v : Option Value) (h' : Heap) (WL' FL' : List Addr) : Prop := ∃ r : Int32, v = some (.int r) ∧ WL' = [] ∧ FL' = [] ∧ h' = h ∧ (¬ r < 0)
theorem ct_xu31_0 {l : Launch} {Z : State} {a0 : Array Value} {gC : Int32} {gF : Value} (cx : Cx a0 Z gC gF) {n0 : Nat} (u : Addr) (ku : ClassId) (c0 : Int32) (c1 : Int32) (c2 : Int32) (k : Int32) (h : Heap) (WL FL : List Addr) (P0 : Arv Z h u ku .byte (6 : Int32) [(.int (c0.toInt8.toInt32)), (.int ((c0 >>> ((8 : Int32) &&& 31)).toInt8.toInt32)), (.int (c1.toInt8.toInt32)), (.int ((c1 >>> ((8 : Int32) &&& 31)).toInt8.toInt32)), (.int (c2.toInt8.toInt32)), (.int ((c2 >>> ((8 : Int32) &&& 31)).toInt8.toInt32))] (.int 0)) (hr_c0 : ¬ c0 < 0 ∧ ¬ (65535 : Int32) < c0) (hr_c1 : ¬ c1 < 0 ∧ ¬ (65535 : Int32) < c1) (hr_c2 : ¬ c2 < 0 ∧ ¬ (65535 : Int32) < c2) (hk : k = 9 ∨ k = 10 ∨ k = 13) (hT : c0 = k ∨ c1 = k ∨ c2 = k) (e0 : c0 = k) :
    Ct l Z EL1 n0 (⟨"java/lang/StringUTF16", "indexOfCharUnsafe", "([BIII)I"⟩ : MethodName) jdk_52_method_48_code 5 (Option.some Jvm.ClassFile.FieldType.int) ({ frames := 1, cells := 0, slots := 0, locals := 13 } : Room) #[(.ref u), (.int k), (.int 0), (.int 3)] h WL FL (Q_xu31 Z gC gF u ku c0 c1 c2 k h) := by
  refine Ct.of (plainFor_of_name pn1) ?_
  intro p e s m below meth c s1 hx hby hml hnm hret hlk X0
  refine Wo.cast (f' := (mkF m 0 #[.val (.ref u), .val (.int k), .val (.int 0), .val (.int 3), .unset] [])) (by rfl) ?_
  show Wo _ _ _ _ _ _ _ _ _ _ _ s1 (mkF m 0 #[.val (.ref u), .val (.int k), .val (.int 0), .val (.int 3), .unset] [])
  refine P.iloadN X0 hx 1 (hb hby d31_0) rfl rfl ?_
  refine P.istore X0 hx 3 #[.val (.ref u), .val (.int k), .val (.int 0), .val (.int 3), .val (.int 0)] (hb hby d31_1) rfl rfl ?_
  refine P.iload X0 hx 5 (hb hby d31_3) rfl rfl ?_
  refine P.iloadN X0 hx 6 (hb hby d31_5) rfl rfl ?_
  refine P.icmpNo X0 hx 9 (hb hby d31_6) (by decide) rfl ?_
  refine P.aloadN X0 hx 10 (hb hby d31_9) rfl rfl rfl ?_
  refine P.iload X0 hx 12 (hb hby d31_10) rfl rfl ?_
  refine X0.callS hx (w103 cx) (w104 cx) (w73 cx) (w105 cx) (by decide) (Ct.pay (W := 0) (ct_getc30 cx u ku c0 c1 c2 h _ _ P0 hr_c0) (w105 cx) (w73 cx) (nle rfl) (nle rfl)) (by rw [hml]; rfl) (argsL := [.ref u, .int 0]) (rest := []) (lenOf pd6 rfl) rfl rfl (Nat.le_of_eq rfl) (hb hby d31_12) (nle rfl) (nle rfl) ?_
  rintro T1 h1 _ _ _ X1 ⟨rfl, rfl, rfl, J1⟩
  rw [J1] at X1
  refine P.iloadN X1 hx 16 (hb hby d31_15) rfl rfl ?_
  refine P.icmpNo X1 hx 19 (hb hby d31_16) (teq e0).2 rfl ?_
  refine P.iload X1 hx 21 (hb hby d31_19) rfl rfl ?_
  exact WS.retI X1 (WL' := []) (FL' := []) hx hret hlk (hb hby d31_21) (nle rfl) (nle rfl) ⟨(0 : Int32), rfl, rfl, rfl, rfl, (by decide)⟩
theorem ct_xu31_1 {l : Launch} {Z : State} {a0 : Array Value} {gC : Int32} {gF : Value} (cx : Cx a0 Z gC gF) {n0 : Nat} (u : Addr) (ku : ClassId) (c0 : Int32) (c1 : Int32) (c2 : Int32) (k : Int32) (h : Heap) (WL FL : List Addr) (P0 : Arv Z h u ku .byte (6 : Int32) [(.int (c0.toInt8.toInt32)), (.int ((c0 >>> ((8 : Int32) &&& 31)).toInt8.toInt32)), (.int (c1.toInt8.toInt32)), (.int ((c1 >>> ((8 : Int32) &&& 31)).toInt8.toInt32)), (.int (c2.toInt8.toInt32)), (.int ((c2 >>> ((8 : Int32) &&& 31)).toInt8.toInt32))] (.int 0)) (hr_c0 : ¬ c0 < 0 ∧ ¬ (65535 : Int32) < c0) (hr_c1 : ¬ c1 < 0 ∧ ¬ (65535 : Int32) < c1) (hr_c2 : ¬ c2 < 0 ∧ ¬ (65535 : Int32) < c2) (hk : k = 9 ∨ k = 10 ∨ k = 13) (hT : c0 = k ∨ c1 = k ∨ c2 = k) (e0 : ¬ c0 = k) (e1 : c1 = k) :
    Ct l Z EL1 n0 (⟨"java/lang/StringUTF16", "indexOfCharUnsafe", "([BIII)I"⟩ : MethodName) jdk_52_method_48_code 5 (Option.some Jvm.ClassFile.FieldType.int) ({ frames := 1, cells := 0, slots := 0, locals := 13 } : Room) #[(.ref u), (.int k), (.int 0), (.int 3)] h WL FL (Q_xu31 Z gC gF u ku c0 c1 c2 k h) := by
  refine Ct.of (plainFor_of_name pn1) ?_
  intro p e s m below meth c s1 hx hby hml hnm hret hlk X0
  refine Wo.cast (f' := (mkF m 0 #[.val (.ref u), .val (.int k), .val (.int 0), .val (.int 3), .unset] [])) (by rfl) ?_
  show Wo _ _ _ _ _ _ _ _ _ _ _ s1 (mkF m 0 #[.val (.ref u), .val (.int k), .val (.int 0), .val (.int 3), .unset] [])
  refine P.iloadN X0 hx 1 (hb hby d31_0) rfl rfl ?_
  refine P.istore X0 hx 3 #[.val (.ref u), .val (.int k), .val (.int 0), .val (.int 3), .val (.int 0)] (hb hby d31_1) rfl rfl ?_
  refine P.iload X0 hx 5 (hb hby d31_3) rfl rfl ?_
  refine P.iloadN X0 hx 6 (hb hby d31_5) rfl rfl ?_
  refine P.icmpNo X0 hx 9 (hb hby d31_6) (by decide) rfl ?_
  refine P.aloadN X0 hx 10 (hb hby d31_9) rfl rfl rfl ?_
  refine P.iload X0 hx 12 (hb hby d31_10) rfl rfl ?_
  refine X0.callS hx (w103 cx) (w104 cx) (w73 cx) (w105 cx) (by decide) (Ct.pay (W := 0) (ct_getc30 cx u ku c0 c1 c2 h _ _ P0 hr_c0) (w105 cx) (w73 cx) (nle rfl) (nle rfl)) (by rw [hml]; rfl) (argsL := [.ref u, .int 0]) (rest := []) (lenOf pd6 rfl) rfl rfl (Nat.le_of_eq rfl) (hb hby d31_12) (nle rfl) (nle rfl) ?_
  rintro T1 h1 _ _ _ X1 ⟨rfl, rfl, rfl, J1⟩
  rw [J1] at X1
  refine P.iloadN X1 hx 16 (hb hby d31_15) rfl rfl ?_
  refine P.icmpYes X1 hx 22 (hb hby d31_16) (feq e0).2 (by decide) (by decide) ?_
  refine P.iinc X1 hx 25 #[.val (.ref u), .val (.int k), .val (.int 0), .val (.int 3), .val (.int 1)] (hb hby d31_22) rfl rfl rfl ?_
  refine P.goto X1 hx 3 (hb hby d31_25) (by decide) (by decide) ?_
  refine P.iload X1 hx 5 (hb hby d31_3) rfl rfl ?_
  refine P.iloadN X1 hx 6 (hb hby d31_5) rfl rfl ?_
  refine P.icmpNo X1 hx 9 (hb hby d31_6) (by decide) rfl ?_
  refine P.aloadN X1 hx 10 (hb hby d31_9) rfl rfl rfl ?_
  refine P.iload X1 hx 12 (hb hby d31_10) rfl rfl ?_
  refine X1.callS hx (w103 cx) (w104 cx) (w73 cx) (w105 cx) (by decide) (Ct.pay (W := 0) (ct_getc31 cx u ku c0 c1 c2 h _ _ P0 hr_c1) (w105 cx) (w73 cx) (nle rfl) (nle rfl)) (by rw [hml]; rfl) (argsL := [.ref u, .int 1]) (rest := []) (lenOf pd6 rfl) rfl rfl (Nat.le_of_eq rfl) (hb hby d31_12) (nle rfl) (nle rfl) ?_
  rintro T2 h2 _ _ _ X2 ⟨rfl, rfl, rfl, J2⟩
  rw [J2] at X2
  refine P.iloadN X2 hx 16 (hb hby d31_15) rfl rfl ?_
  refine P.icmpNo X2 hx 19 (hb hby d31_16) (teq e1).2 rfl ?_
  refine P.iload X2 hx 21 (hb hby d31_19) rfl rfl ?_
  exact WS.retI X2 (WL' := []) (FL' := []) hx hret hlk (hb hby d31_21) (nle rfl) (nle rfl) ⟨(1 : Int32), rfl, rfl, rfl, rfl, (by decide)⟩
theorem ct_xu31_2 {l : Launch} {Z : State} {a0 : Array Value} {gC : Int32} {gF : Value} (cx : Cx a0 Z gC gF) {n0 : Nat} (u : Addr) (ku : ClassId) (c0 : Int32) (c1 : Int32) (c2 : Int32) (k : Int32) (h : Heap) (WL FL : List Addr) (P0 : Arv Z h u ku .byte (6 : Int32) [(.int (c0.toInt8.toInt32)), (.int ((c0 >>> ((8 : Int32) &&& 31)).toInt8.toInt32)), (.int (c1.toInt8.toInt32)), (.int ((c1 >>> ((8 : Int32) &&& 31)).toInt8.toInt32)), (.int (c2.toInt8.toInt32)), (.int ((c2 >>> ((8 : Int32) &&& 31)).toInt8.toInt32))] (.int 0)) (hr_c0 : ¬ c0 < 0 ∧ ¬ (65535 : Int32) < c0) (hr_c1 : ¬ c1 < 0 ∧ ¬ (65535 : Int32) < c1) (hr_c2 : ¬ c2 < 0 ∧ ¬ (65535 : Int32) < c2) (hk : k = 9 ∨ k = 10 ∨ k = 13) (hT : c0 = k ∨ c1 = k ∨ c2 = k) (e0 : ¬ c0 = k) (e1 : ¬ c1 = k) (e2 : c2 = k) :
    Ct l Z EL1 n0 (⟨"java/lang/StringUTF16", "indexOfCharUnsafe", "([BIII)I"⟩ : MethodName) jdk_52_method_48_code 5 (Option.some Jvm.ClassFile.FieldType.int) ({ frames := 1, cells := 0, slots := 0, locals := 13 } : Room) #[(.ref u), (.int k), (.int 0), (.int 3)] h WL FL (Q_xu31 Z gC gF u ku c0 c1 c2 k h) := by
  refine Ct.of (plainFor_of_name pn1) ?_
  intro p e s m below meth c s1 hx hby hml hnm hret hlk X0
  refine Wo.cast (f' := (mkF m 0 #[.val (.ref u), .val (.int k), .val (.int 0), .val (.int 3), .unset] [])) (by rfl) ?_
  show Wo _ _ _ _ _ _ _ _ _ _ _ s1 (mkF m 0 #[.val (.ref u), .val (.int k), .val (.int 0), .val (.int 3), .unset] [])
  refine P.iloadN X0 hx 1 (hb hby d31_0) rfl rfl ?_
  refine P.istore X0 hx 3 #[.val (.ref u), .val (.int k), .val (.int 0), .val (.int 3), .val (.int 0)] (hb hby d31_1) rfl rfl ?_
  refine P.iload X0 hx 5 (hb hby d31_3) rfl rfl ?_
  refine P.iloadN X0 hx 6 (hb hby d31_5) rfl rfl ?_
  refine P.icmpNo X0 hx 9 (hb hby d31_6) (by decide) rfl ?_
  refine P.aloadN X0 hx 10 (hb hby d31_9) rfl rfl rfl ?_
  refine P.iload X0 hx 12 (hb hby d31_10) rfl rfl ?_
  refine X0.callS hx (w103 cx) (w104 cx) (w73 cx) (w105 cx) (by decide) (Ct.pay (W := 0) (ct_getc30 cx u ku c0 c1 c2 h _ _ P0 hr_c0) (w105 cx) (w73 cx) (nle rfl) (nle rfl)) (by rw [hml]; rfl) (argsL := [.ref u, .int 0]) (rest := []) (lenOf pd6 rfl) rfl rfl (Nat.le_of_eq rfl) (hb hby d31_12) (nle rfl) (nle rfl) ?_
  rintro T1 h1 _ _ _ X1 ⟨rfl, rfl, rfl, J1⟩
  rw [J1] at X1
  refine P.iloadN X1 hx 16 (hb hby d31_15) rfl rfl ?_
  refine P.icmpYes X1 hx 22 (hb hby d31_16) (feq e0).2 (by decide) (by decide) ?_
  refine P.iinc X1 hx 25 #[.val (.ref u), .val (.int k), .val (.int 0), .val (.int 3), .val (.int 1)] (hb hby d31_22) rfl rfl rfl ?_
  refine P.goto X1 hx 3 (hb hby d31_25) (by decide) (by decide) ?_
  refine P.iload X1 hx 5 (hb hby d31_3) rfl rfl ?_
  refine P.iloadN X1 hx 6 (hb hby d31_5) rfl rfl ?_
  refine P.icmpNo X1 hx 9 (hb hby d31_6) (by decide) rfl ?_
  refine P.aloadN X1 hx 10 (hb hby d31_9) rfl rfl rfl ?_
  refine P.iload X1 hx 12 (hb hby d31_10) rfl rfl ?_
  refine X1.callS hx (w103 cx) (w104 cx) (w73 cx) (w105 cx) (by decide) (Ct.pay (W := 0) (ct_getc31 cx u ku c0 c1 c2 h _ _ P0 hr_c1) (w105 cx) (w73 cx) (nle rfl) (nle rfl)) (by rw [hml]; rfl) (argsL := [.ref u, .int 1]) (rest := []) (lenOf pd6 rfl) rfl rfl (Nat.le_of_eq rfl) (hb hby d31_12) (nle rfl) (nle rfl) ?_
  rintro T2 h2 _ _ _ X2 ⟨rfl, rfl, rfl, J2⟩
  rw [J2] at X2
  refine P.iloadN X2 hx 16 (hb hby d31_15) rfl rfl ?_
  refine P.icmpYes X2 hx 22 (hb hby d31_16) (feq e1).2 (by decide) (by decide) ?_
  refine P.iinc X2 hx 25 #[.val (.ref u), .val (.int k), .val (.int 0), .val (.int 3), .val (.int 2)] (hb hby d31_22) rfl rfl rfl ?_
  refine P.goto X2 hx 3 (hb hby d31_25) (by decide) (by decide) ?_
  refine P.iload X2 hx 5 (hb hby d31_3) rfl rfl ?_
  refine P.iloadN X2 hx 6 (hb hby d31_5) rfl rfl ?_
  refine P.icmpNo X2 hx 9 (hb hby d31_6) (by decide) rfl ?_
  refine P.aloadN X2 hx 10 (hb hby d31_9) rfl rfl rfl ?_
  refine P.iload X2 hx 12 (hb hby d31_10) rfl rfl ?_
  refine X2.callS hx (w103 cx) (w104 cx) (w73 cx) (w105 cx) (by decide) (Ct.pay (W := 0) (ct_getc32 cx u ku c0 c1 c2 h _ _ P0 hr_c2) (w105 cx) (w73 cx) (nle rfl) (nle rfl)) (by rw [hml]; rfl) (argsL := [.ref u, .int 2]) (rest := []) (lenOf pd6 rfl) rfl rfl (Nat.le_of_eq rfl) (hb hby d31_12) (nle rfl) (nle rfl) ?_
  rintro T3 h3 _ _ _ X3 ⟨rfl, rfl, rfl, J3⟩
  rw [J3] at X3
  refine P.iloadN X3 hx 16 (hb hby d31_15) rfl rfl ?_
  refine P.icmpNo X3 hx 19 (hb hby d31_16) (teq e2).2 rfl ?_
  refine P.iload X3 hx 21 (hb hby d31_19) rfl rfl ?_
  exact WS.retI X3 (WL' := []) (FL' := []) hx hret hlk (hb hby d31_21) (nle rfl) (nle rfl) ⟨(2 : Int32), rfl, rfl, rfl, rfl, (by decide)⟩
theorem ct_xu31 {l : Launch} {Z : State} {a0 : Array Value} {gC : Int32} {gF : Value} (cx : Cx a0 Z gC gF) {n0 : Nat} (u : Addr) (ku : ClassId) (c0 : Int32) (c1 : Int32) (c2 : Int32) (k : Int32) (h : Heap) (WL FL : List Addr) (P0 : Arv Z h u ku .byte (6 : Int32) [(.int (c0.toInt8.toInt32)), (.int ((c0 >>> ((8 : Int32) &&& 31)).toInt8.toInt32)), (.int (c1.toInt8.toInt32)), (.int ((c1 >>> ((8 : Int32) &&& 31)).toInt8.toInt32)), (.int (c2.toInt8.toInt32)), (.int ((c2 >>> ((8 : Int32) &&& 31)).toInt8.toInt32))] (.int 0)) (hr_c0 : ¬ c0 < 0 ∧ ¬ (65535 : Int32) < c0) (hr_c1 : ¬ c1 < 0 ∧ ¬ (65535 : Int32) < c1) (hr_c2 : ¬ c2 < 0 ∧ ¬ (65535 : Int32) < c2) (hk : k = 9 ∨ k = 10 ∨ k = 13) (hT : c0 = k ∨ c1 = k ∨ c2 = k) :
    Ct l Z EL1 n0 (⟨"java/lang/StringUTF16", "indexOfCharUnsafe", "([BIII)I"⟩ : MethodName) jdk_52_method_48_code 5 (Option.some Jvm.ClassFile.FieldType.int) ({ frames := 1, cells := 0, slots := 0, locals := 13 } : Room) #[(.ref u), (.int k), (.int 0), (.int 3)] h WL FL (Q_xu31 Z gC gF u ku c0 c1 c2 k h) := by
  by_cases e0 : c0 = k
  · exact ct_xu31_0 cx u ku c0 c1 c2 k h WL FL P0 hr_c0 hr_c1 hr_c2 hk hT e0
  by_cases e1 : c1 = k
  · exact ct_xu31_1 cx u ku c0 c1 c2 k h WL FL P0 hr_c0 hr_c1 hr_c2 hk hT e0 e1
  exact ct_xu31_2 cx u ku c0 c1 c2 k h WL FL P0 hr_c0 hr_c1 hr_c2 hk hT e0 e1 ((hT.resolve_left e0).resolve_left e1)
def Q_cfti_0_3_3_O (Z : State) (gC : Int32) (gF : Value) (o3 : Value) (h : Heap) (v : Option Value) (h' : Heap) (WL' FL' : List Addr) : Prop := v = some (.int 0) ∧ WL' = [] ∧ FL' = [] ∧ h' = h
theorem ct_cfti_0_3_3_O {l : Launch} {Z : State} {a0 : Array Value} {gC : Int32} {gF : Value} (cx : Cx a0 Z gC gF) {n0 : Nat} (o3 : Value) (h : Heap) (WL FL : List Addr) (h_o3 : o3.isRef = true) :
    Ct l Z EL1 n0 (⟨"jdk/internal/util/Preconditions", "checkFromToIndex", "(IIILjava/util/function/BiFunction;)I"⟩ : MethodName) jdk_41_method_12_code 4 (Option.some Jvm.ClassFile.FieldType.int) ({ frames := 0, cells := 0, slots := 0, locals := 0 } : Room) #[(.int 0), (.int 3), (.int 3), o3] h WL FL (Q_cfti_0_3_3_O Z gC gF o3 h) := by
  refine Ct.of (plainFor_of_name pn4) ?_
  intro p e s m below meth c s1 hx hby hml hnm hret hlk X0
  refine Wo.cast (f' := (mkF m 0 #[.val (.int 0), .val (.int 3), .val (.int 3), .val o3] [])) (by rcases ref_cases h_o3 with rfl | ⟨_, rfl⟩ <;> first | rfl | (simp [entryFrame, mkF, argsToLocals, Value.category]; done)) ?_
  show Wo _ _ _ _ _ _ _ _ _ _ _ s1 (mkF m 0 #[.val (.int 0), .val (.int 3), .val (.int 3), .val o3] [])
  refine P.iloadN X0 hx 1 (hb hby d30_0) rfl rfl ?_
  refine P.ifNo X0 hx 4 (hb hby d30_1) (by decide) rfl ?_
  refine P.iloadN X0 hx 5 (hb hby d30_4) rfl rfl ?_
  refine P.iloadN X0 hx 6 (hb hby d30_5) rfl rfl ?_
  refine P.icmpNo X0 hx 9 (hb hby d30_6) (by decide) rfl ?_
  refine P.iloadN X0 hx 10 (hb hby d30_9) rfl rfl ?_
  refine P.iloadN X0 hx 11 (hb hby d30_10) rfl rfl ?_
  refine P.icmpYes X0 hx 22 (hb hby d30_11) (by decide) (by decide) (by decide) ?_
  refine P.iloadN X0 hx 23 (hb hby d30_22) rfl rfl ?_
  exact WS.retI X0 (WL' := []) (FL' := []) hx hret hlk (hb hby d30_23) (nle rfl) (nle rfl) ⟨rfl, rfl, rfl, rfl⟩
def Q_cbbe_0_3_3 (Z : State) (gC : Int32) (gF : Value) (h : Heap) (v : Option Value) (h' : Heap) (WL' FL' : List Addr) : Prop := v = none ∧ WL' = [] ∧ FL' = [] ∧ h' = h
theorem ct_cbbe_0_3_3 {l : Launch} {Z : State} {a0 : Array Value} {gC : Int32} {gF : Value} (cx : Cx a0 Z gC gF) {n0 : Nat} (h : Heap) (WL FL : List Addr)  :
    Ct l Z EL1 n0 (⟨"java/lang/String", "checkBoundsBeginEnd", "(III)V"⟩ : MethodName) jdk_42_method_158_code 3 (Option.none : Option Jvm.ClassFile.FieldType) ({ frames := 1, cells := 0, slots := 0, locals := 15 } : Room) #[(.int 0), (.int 3), (.int 3)] h WL FL (Q_cbbe_0_3_3 Z gC gF h) := by
  refine Ct.of (plainFor_of_name pn0) ?_
  intro p e s m below meth c s1 hx hby hml hnm hret hlk X0
  refine Wo.cast (f' := (mkF m 0 #[.val (.int 0), .val (.int 3), .val (.int 3)] [])) (by rfl) ?_
  show Wo _ _ _ _ _ _ _ _ _ _ _ s1 (mkF m 0 #[.val (.int 0), .val (.int 3), .val (.int 3)] [])
  refine P.iloadN X0 hx 1 (hb hby d29_0) rfl rfl ?_
  refine P.iloadN X0 hx 2 (hb hby d29_1) rfl rfl ?_
  refine P.iloadN X0 hx 3 (hb hby d29_2) rfl rfl ?_
  refine X0.getS hx (w124 cx) Via.refl (S_F cx) (hb hby d29_3) ?_
  intro T1 X1
  refine X1.callS hx (w126 cx) (w127 cx) (w125 cx) (w128 cx) (by decide) (Ct.pay (W := 0) (ct_cfti_0_3_3_O cx gF h _ _ (R_F cx)) (w128 cx) (w125 cx) (nle rfl) (nle rfl)) (by rw [hml]; rfl) (argsL := [.int 0, .int 3, .int 3, gF]) (rest := []) (lenOf pd15 rfl) rfl rfl (Nat.le_of_eq rfl) (hb hby d29_6) (nle rfl) (nle rfl) ?_
  rintro T2 h2 _ _ _ X2 ⟨rfl, rfl, rfl, J2⟩
  rw [J2] at X2
  refine P.pop X2 hx 10 (hb hby d29_9) rfl rfl ?_
  exact WS.retV X2 (WL' := []) (FL' := []) hx hret hlk (hb hby d29_10) (nle rfl) (nle rfl) ⟨rfl, rfl, rfl, rfl⟩
def Q_cbu3 (Z : State) (gC : Int32) (gF : Value) (u : Addr) (ku : ClassId) (vs : List Value) (h : Heap) (v : Option Value) (h' : Heap) (WL' FL' : List Addr) : Prop := v = none ∧ WL' = [] ∧ FL' = [] ∧ h' = h
theorem ct_cbu3 {l : Launch} {Z : State} {a0 : Array Value} {gC : Int32} {gF : Value} (cx : Cx a0 Z gC gF) {n0 : Nat} (u : Addr) (ku : ClassId) (vs : List Value) (h : Heap) (WL FL : List Addr) (P0 : Arv Z h u ku .byte (6 : Int32) vs (.int 0)) :
    Ct l Z EL1 n0 (⟨"java/lang/StringUTF16", "checkBoundsBeginEnd", "(II[B)V"⟩ : MethodName) jdk_52_method_93_code 3 (Option.none : Option Jvm.ClassFile.FieldType) ({ frames := 2, cells := 0, slots := 0, locals := 29 } : Room) #[(.int 0), (.int 3), (.ref u)] h WL FL (Q_cbu3 Z gC gF u ku vs h) := by
  refine Ct.of (plainFor_of_name pn1) ?_
  intro p e s m below meth c s1 hx hby hml hnm hret hlk X0
  refine Wo.cast (f' := (mkF m 0 #[.val (.int 0), .val (.int 3), .val (.ref u)] [])) (by rfl) ?_
  show Wo _ _ _ _ _ _ _ _ _ _ _ s1 (mkF m 0 #[.val (.int 0), .val (.int 3), .val (.ref u)] [])
  refine P.iloadN X0 hx 1 (hb hby d27_0) rfl rfl ?_
  refine P.iloadN X0 hx 2 (hb hby d27_1) rfl rfl ?_
  refine P.aloadN X0 hx 3 (hb hby d27_2) rfl rfl rfl ?_
  refine X0.callS hx (w118 cx) (w119 cx) (w73 cx) (w120 cx) (by decide) (Ct.pay (W := 2) (ct_ulen3 cx u ku _ h _ _ P0) (w120 cx) (w73 cx) (nle rfl) (nle rfl)) (by rw [hml]; rfl) (argsL := [.ref u]) (rest := [.int 3, .int 0]) (lenOf pd14 rfl) rfl rfl (Nat.le_of_eq rfl) (hb hby d27_3) (nle rfl) (nle rfl) ?_
  rintro T1 h1 _ _ _ X1 ⟨rfl, rfl, rfl, J1⟩
  rw [J1] at X1
  refine X1.callS hx (w121 cx) (w122 cx) (w7 cx) (w123 cx) (by decide) (Ct.pay (W := 0) (ct_cbbe_0_3_3 cx  h _ _ ) (w123 cx) (w7 cx) (nle rfl) (nle rfl)) (by rw [hml]; rfl) (argsL := [.int 0, .int 3, .int 3]) (rest := []) (lenOf pd16 rfl) rfl rfl (Nat.le_of_eq rfl) (hb hby d27_6) (nle rfl) (nle rfl) ?_
  rintro T2 h2 _ _ _ X2 ⟨rfl, rfl, rfl, J2⟩
  rw [J2] at X2
  exact WS.retV X2 (WL' := []) (FL' := []) hx hret hlk (hb hby d27_9) (nle rfl) (nle rfl) ⟨rfl, rfl, rfl, rfl⟩
def Q_wu31 (Z : State) (gC : Int32) (gF : Value) (u : Addr) (ku : ClassId) (c0 : Int32) (c1 : Int32) (c2 : Int32) (k : Int32) (h : Heap) (v : Option Value) (h' : Heap) (WL' FL' : List Addr) : Prop := ∃ r : Int32, v = some (.int r) ∧ WL' = [] ∧ FL' = [] ∧ h' = h ∧ (¬ r < 0)
theorem ct_wu31 {l : Launch} {Z : State} {a0 : Array Value} {gC : Int32} {gF : Value} (cx : Cx a0 Z gC gF) {n0 : Nat} (u : Addr) (ku : ClassId) (c0 : Int32) (c1 : Int32) (c2 : Int32) (k : Int32) (h : Heap) (WL FL : List Addr) (P0 : Arv Z h u ku .byte (6 : Int32) [(.int (c0.toInt8.toInt32)), (.int ((c0 >>> ((8 : Int32) &&& 31)).toInt8.toInt32)), (.int (c1.toInt8.toInt32)), (.int ((c1 >>> ((8 : Int32) &&& 31)).toInt8.toInt32)), (.int (c2.toInt8.toInt32)), (.int ((c2 >>> ((8 : Int32) &&& 31)).toInt8.toInt32))] (.int 0)) (hr_c0 : ¬ c0 < 0 ∧ ¬ (65535 : Int32) < c0) (hr_c1 : ¬ c1 < 0 ∧ ¬ (65535 : Int32) < c1) (hr_c2 : ¬ c2 < 0 ∧ ¬ (65535 : Int32) < c2) (hk : k = 9 ∨ k = 10 ∨ k = 13) (hT : c0 = k ∨ c1 = k ∨ c2 = k) :
    Ct l Z EL1 n0 (⟨"java/lang/StringUTF16", "indexOfChar", "([BIII)I"⟩ : MethodName) jdk_52_method_47_code 4 (Option.some Jvm.ClassFile.FieldType.int) ({ frames := 3, cells := 0, slots := 0, locals := 43 } : Room) #[(.ref u), (.int k), (.int 0), (.int 3)] h WL FL (Q_wu31 Z gC gF u ku c0 c1 c2 k h) := by
  refine Ct.of (plainFor_of_name pn1) ?_
  intro p e s m below meth c s1 hx hby hml hnm hret hlk X0
  refine Wo.cast (f' := (mkF m 0 #[.val (.ref u), .val (.int k), .val (.int 0), .val (.int 3)] [])) (by rfl) ?_
  show Wo _ _ _ _ _ _ _ _ _ _ _ s1 (mkF m 0 #[.val (.ref u), .val (.int k), .val (.int 0), .val (.int 3)] [])
  refine P.iloadN X0 hx 1 (hb hby d26_0) rfl rfl ?_
  refine P.iloadN X0 hx 2 (hb hby d26_1) rfl rfl ?_
  refine P.aloadN X0 hx 3 (hb hby d26_2) rfl rfl rfl ?_
  refine X0.callS hx (w115 cx) (w116 cx) (w73 cx) (w117 cx) (by decide) (Ct.pay (W := 0) (ct_cbu3 cx u ku _ h _ _ P0) (w117 cx) (w73 cx) (nle rfl) (nle rfl)) (by rw [hml]; rfl) (argsL := [.int 0, .int 3, .ref u]) (rest := []) (lenOf pd17 rfl) rfl rfl (Nat.le_of_eq rfl) (hb hby d26_3) (nle rfl) (nle rfl) ?_
  rintro T1 h1 _ _ _ X1 ⟨rfl, rfl, rfl, J1⟩
  rw [J1] at X1
  refine P.aloadN X1 hx 7 (hb hby d26_6) rfl rfl rfl ?_
  refine P.iloadN X1 hx 8 (hb hby d26_7) rfl rfl ?_
  refine P.iloadN X1 hx 9 (hb hby d26_8) rfl rfl ?_
  refine P.iloadN X1 hx 10 (hb hby d26_9) rfl rfl ?_
  refine X1.callS hx (w129 cx) (w130 cx) (w73 cx) (w131 cx) (by decide) (Ct.pay (W := 0) (ct_xu31 cx u ku c0 c1 c2 k h _ _ P0 hr_c0 hr_c1 hr_c2 hk hT) (w131 cx) (w73 cx) (nle rfl) (nle rfl)) (by rw [hml]; rfl) (argsL := [.ref u, .int k, .int 0, .int 3]) (rest := []) (lenOf pd11 rfl) rfl rfl (Nat.le_of_eq rfl) (hb hby d26_10) (nle rfl) (nle rfl) ?_
  rintro T2 h2 _ _ _ X2 ⟨x3, rfl, rfl, rfl, J2, G4⟩
  rw [J2] at X2
  exact WS.retI X2 (WL' := []) (FL' := []) hx hret hlk (hb hby d26_13) (nle rfl) (nle rfl) ⟨x3, rfl, rfl, rfl, rfl, G4⟩
def Q_yu31 (Z : State) (gC : Int32) (gF : Value) (u : Addr) (ku : ClassId) (c0 : Int32) (c1 : Int32) (c2 : Int32) (k : Int32) (h : Heap) (v : Option Value) (h' : Heap) (WL' FL' : List Addr) : Prop := ∃ r : Int32, v = some (.int r) ∧ WL' = [] ∧ FL' = [] ∧ h' = h ∧ (¬ r < 0)
theorem ct_yu31 {l : Launch} {Z : State} {a0 : Array Value} {gC : Int32} {gF : Value} (cx : Cx a0 Z gC gF) {n0 : Nat} (u : Addr) (ku : ClassId) (c0 : Int32) (c1 : Int32) (c2 : Int32) (k : Int32) (h : Heap) (WL FL : List Addr) (P0 : Arv Z h u ku .byte (6 : Int32) [(.int (c0.toInt8.toInt32)), (.int ((c0 >>> ((8 : Int32) &&& 31)).toInt8.toInt32)), (.int (c1.toInt8.toInt32)), (.int ((c1 >>> ((8 : Int32) &&& 31)).toInt8.toInt32)), (.int (c2.toInt8.toInt32)), (.int ((c2 >>> ((8 : Int32) &&& 31)).toInt8.toInt32))] (.int 0)) (hr_c0 : ¬ c0 < 0 ∧ ¬ (65535 : Int32) < c0) (hr_c1 : ¬ c1 < 0 ∧ ¬ (65535 : Int32) < c1) (hr_c2 : ¬ c2 < 0 ∧ ¬ (65535 : Int32) < c2) (hk : k = 9 ∨ k = 10 ∨ k = 13) (hT : c0 = k ∨ c1 = k ∨ c2 = k) :
    Ct l Z EL1 n0 (⟨"java/lang/StringUTF16", "indexOf", "([BIII)I"⟩ : MethodName) jdk_52_method_40_code 4 (Option.some Jvm.ClassFile.FieldType.int) ({ frames := 4, cells := 0, slots := 0, locals := 58 } : Room) #[(.ref u), (.int k), (.int 0), (.int 3)] h WL FL (Q_yu31 Z gC gF u ku c0 c1 c2 k h) := by
  refine Ct.of (plainFor_of_name pn1) ?_
  intro p e s m below meth c s1 hx hby hml hnm hret hlk X0
  refine Wo.cast (f' := (mkF m 0 #[.val (.ref u), .val (.int k), .val (.int 0), .val (.int 3)] [])) (by rfl) ?_
  show Wo _ _ _ _ _ _ _ _ _ _ _ s1 (mkF m 0 #[.val (.ref u), .val (.int k), .val (.int 0), .val (.int 3)] [])
  refine P.iloadN X0 hx 1 (hb hby d25_0) rfl rfl ?_
  refine P.iconst X0 hx 2 0 (hb hby d25_1) rfl rfl ?_
  refine X0.callS hx (w109 cx) (w65 cx) (w66 cx) (w67 cx) (by decide) (Ct.pay (W := 0) (ct_mmax_0_0 cx  h _ _ ) (w67 cx) (w66 cx) (nle rfl) (nle rfl)) (by rw [hml]; rfl) (argsL := [.int 0, .int 0]) (rest := []) (lenOf pd10 rfl) rfl rfl (Nat.le_of_eq rfl) (hb hby d25_2) (nle rfl) (nle rfl) ?_
  rintro T1 h1 _ _ _ X1 ⟨rfl, rfl, rfl, J1⟩
  rw [J1] at X1
  refine P.istoreN X1 hx 6 #[.val (.ref u), .val (.int k), .val (.int 0), .val (.int 3)] (hb hby d25_5) rfl rfl ?_
  refine P.iloadN X1 hx 7 (hb hby d25_6) rfl rfl ?_
  refine P.aloadN X1 hx 8 (hb hby d25_7) rfl rfl rfl ?_
  refine WS.alen X1 hx P0 (hb hby d25_8) ?_
  refine P.iconst X1 hx 10 1 (hb hby d25_9) rfl rfl ?_
  refine P.ishr X1 hx 11 (z := (3 : Int32)) (hb hby d25_10) rfl rfl ?_
  refine X1.callS hx (w110 cx) (w69 cx) (w66 cx) (w70 cx) (by decide) (Ct.pay (W := 0) (ct_mmin_3_3 cx  h _ _ ) (w70 cx) (w66 cx) (nle rfl) (nle rfl)) (by rw [hml]; rfl) (argsL := [.int 3, .int 3]) (rest := []) (lenOf pd10 rfl) rfl rfl (Nat.le_of_eq rfl) (hb hby d25_11) (nle rfl) (nle rfl) ?_
  rintro T2 h2 _ _ _ X2 ⟨rfl, rfl, rfl, J2⟩
  rw [J2] at X2
  refine P.istoreN X2 hx 15 #[.val (.ref u), .val (.int k), .val (.int 0), .val (.int 3)] (hb hby d25_14) rfl rfl ?_
  refine P.iloadN X2 hx 16 (hb hby d25_15) rfl rfl ?_
  refine P.iloadN X2 hx 17 (hb hby d25_16) rfl rfl ?_
  refine P.icmpYes X2 hx 22 (hb hby d25_17) (by decide) (by decide) (by decide) ?_
  refine P.iloadN X2 hx 23 (hb hby d25_22) rfl rfl ?_
  refine WS.ldcI X2 hx (w111 cx) (hb hby d25_23) ?_
  refine P.icmpNo X2 hx 28 (hb hby d25_25) (tlt (kr6 hk)).2.1 rfl ?_
  refine P.aloadN X2 hx 29 (hb hby d25_28) rfl rfl rfl ?_
  refine P.iloadN X2 hx 30 (hb hby d25_29) rfl rfl ?_
  refine P.iloadN X2 hx 31 (hb hby d25_30) rfl rfl ?_
  refine P.iloadN X2 hx 32 (hb hby d25_31) rfl rfl ?_
  refine X2.callS hx (w112 cx) (w113 cx) (w73 cx) (w114 cx) (by decide) (Ct.pay (W := 0) (ct_wu31 cx u ku c0 c1 c2 k h _ _ P0 hr_c0 hr_c1 hr_c2 hk hT) (w114 cx) (w73 cx) (nle rfl) (nle rfl)) (by rw [hml]; rfl) (argsL := [.ref u, .int k, .int 0, .int 3]) (rest := []) (lenOf pd11 rfl) rfl rfl (Nat.le_of_eq rfl) (hb hby d25_32) (nle rfl) (nle rfl) ?_
  rintro T3 h3 _ _ _ X3 ⟨x4, rfl, rfl, rfl, J3, G5⟩
  rw [J3] at X3
  exact WS.retI X3 (WL' := []) (FL' := []) hx hret hlk (hb hby d25_35) (nle rfl) (nle rfl) ⟨x4, rfl, rfl, rfl, rfl, G5⟩
def Q_zu31 (Z : State) (gC : Int32) (gF : Value) (x : Addr) (u : Addr) (ku : ClassId) (c0 : Int32) (c1 : Int32) (c2 : Int32) (k : Int32) (h : Heap) (v : Option Value) (h' : Heap) (WL' FL' : List Addr) : Prop := ∃ r : Int32, v = some (.int r) ∧ WL' = [] ∧ FL' = [] ∧ h' = h ∧ (¬ r < 0)
theorem ct_zu31 {l : Launch} {Z : State} {a0 : Array Value} {gC : Int32} {gF : Value} (cx : Cx a0 Z gC gF) {n0 : Nat} (x : Addr) (u : Addr) (ku : ClassId) (c0 : Int32) (c1 : Int32) (c2 : Int32) (k : Int32) (h : Heap) (WL FL : List Addr) (P0 : Exa Z h x "java/lang/String") (P1 : Fld Z h x "java/lang/String" "value" "[B" (.ref u)) (P2 : Fld Z h x "java/lang/String" "coder" "B" (.int 1)) (P3 : Arv Z h u ku .byte (6 : Int32) [(.int (c0.toInt8.toInt32)), (.int ((c0 >>> ((8 : Int32) &&& 31)).toInt8.toInt32)), (.int (c1.toInt8.toInt32)), (.int ((c1 >>> ((8 : Int32) &&& 31)).toInt8.toInt32)), (.int (c2.toInt8.toInt32)), (.int ((c2 >>> ((8 : Int32) &&& 31)).toInt8.toInt32))] (.int 0)) (hr_c0 : ¬ c0 < 0 ∧ ¬ (65535 : Int32) < c0) (hr_c1 : ¬ c1 < 0 ∧ ¬ (65535 : Int32) < c1) (hr_c2 : ¬ c2 < 0 ∧ ¬ (65535 : Int32) < c2) (hk : k = 9 ∨ k = 10 ∨ k = 13) (hT : c0 = k ∨ c1 = k ∨ c2 = k) :
    Ct l Z EL1 n0 (⟨"java/lang/String", "indexOf", "(II)I"⟩ : MethodName) jdk_42_method_80_code 3 (Option.some Jvm.ClassFile.FieldType.int) ({ frames := 5, cells := 0, slots := 0, locals := 73 } : Room) #[(.ref x), (.int k), (.int 0)] h WL FL (Q_zu31 Z gC gF x u ku c0 c1 c2 k h) := by
  refine Ct.of (plainFor_of_name pn0) ?_
  intro p e s m below meth c s1 hx hby hml hnm hret hlk X0
  refine Wo.cast (f' := (mkF m 0 #[.val (.ref x), .val (.int k), .val (.int 0)] [])) (by rfl) ?_
  show Wo _ _ _ _ _ _ _ _ _ _ _ s1 (mkF m 0 #[.val (.ref x), .val (.int k), .val (.int 0)] [])
  refine P.aloadN X0 hx 1 (hb hby d7_0) rfl rfl rfl ?_
  refine X0.callV hx (w41 cx) (w42 cx) (w44 cx) (w43 cx) (fun _ hZ => nf hZ (w44 cx)) (by decide) P0 (Ct.pay (W := 0) (ct_isLU cx x h _ _ P2) (w45 cx) (w7 cx) (nle rfl) (nle rfl)) (by rw [hml]; rfl) (argsL := []) (rest := []) (lenOf pd12 rfl) rfl rfl (Nat.le_of_eq rfl) (hb hby d7_1) (nle rfl) (nle rfl) ?_
  rintro T1 h1 _ _ _ X1 ⟨rfl, rfl, rfl, J1⟩
  rw [J1] at X1
  refine P.ifYes X1 hx 23 (hb hby d7_4) (by decide) (by decide) (by decide) ?_
  refine P.aloadN X1 hx 24 (hb hby d7_23) rfl rfl rfl ?_
  refine X1.getF hx (host := "") (Or.inl (w25 cx)) Via.refl P1 (hb hby d7_24) ?_
  intro T2 X2
  refine P.iloadN X2 hx 28 (hb hby d7_27) rfl rfl ?_
  refine P.iloadN X2 hx 29 (hb hby d7_28) rfl rfl ?_
  refine P.aloadN X2 hx 30 (hb hby d7_29) rfl rfl rfl ?_
  refine X2.callV hx (w47 cx) (w48 cx) (w50 cx) (w49 cx) (fun _ hZ => nf hZ (w50 cx)) (by decide) P0 (Ct.pay (W := 3) (ct_slen3 cx x u ku c0 c1 c2 h _ _ P0 P1 P2 P3) (w51 cx) (w7 cx) (nle rfl) (nle rfl)) (by rw [hml]; rfl) (argsL := []) (rest := [.int 0, .int k, .ref u]) (lenOf pd13 rfl) rfl rfl (Nat.le_of_eq rfl) (hb hby d7_30) (nle rfl) (nle rfl) ?_
  rintro T3 h3 _ _ _ X3 ⟨rfl, rfl, rfl, J3⟩
  rw [J3] at X3
  refine X3.callS hx (w106 cx) (w107 cx) (w73 cx) (w108 cx) (by decide) (Ct.pay (W := 0) (ct_yu31 cx u ku c0 c1 c2 k h _ _ P3 hr_c0 hr_c1 hr_c2 hk hT) (w108 cx) (w73 cx) (nle rfl) (nle rfl)) (by rw [hml]; rfl) (argsL := [.ref u, .int k, .int 0, .int 3]) (rest := []) (lenOf pd11 rfl) rfl rfl (Nat.le_of_eq rfl) (hb hby d7_33) (nle rfl) (nle rfl) ?_
  rintro T4 h4 _ _ _ X4 ⟨x5, rfl, rfl, rfl, J4, G6⟩
  rw [J4] at X4
  exact WS.retI X4 (WL' := []) (FL' := []) hx hret hlk (hb hby d7_36) (nle rfl) (nle rfl) ⟨x5, rfl, rfl, rfl, rfl, G6⟩
def Q_vl31 (Z : State) (gC : Int32) (gF : Value) (x : Addr) (u : Addr) (c0 : Int32) (c1 : Int32) (c2 : Int32) (k : Int32) (h : Heap) (v : Option Value) (h' : Heap) (WL' FL' : List Addr) : Prop := ∃ r : Int32, v = some (.int r) ∧ WL' = [] ∧ FL' = [] ∧ h' = h ∧ (¬ r < 0)
theorem ct_vl31 {l : Launch} {Z : State} {a0 : Array Value} {gC : Int32} {gF : Value} (cx : Cx a0 Z gC gF) {n0 : Nat} (x : Addr) (u : Addr) (c0 : Int32) (c1 : Int32) (c2 : Int32) (k : Int32) (h : Heap) (WL FL : List Addr) (P0 : StrL Z h x u [c0, c1, c2]) (hk : k = 9 ∨ k = 10 ∨ k = 13) (hT : c0 = k ∨ c1 = k ∨ c2 = k) :
    Ct l Z EL1 n0 (⟨"java/lang/String", "indexOf", "(I)I"⟩ : MethodName) jdk_42_method_79_code 2 (Option.some Jvm.ClassFile.FieldType.int) ({ frames := 3, cells := 0, slots := 0, locals := 46 } : Room) #[(.ref x), (.int k)] h WL FL (Q_vl31 Z gC gF x u c0 c1 c2 k h) := by
  refine Ct.of (plainFor_of_name pn0) ?_
  intro p e s m below meth c s1 hx hby hml hnm hret hlk X0
  refine Wo.cast (f' := (mkF m 0 #[.val (.ref x), .val (.int k)] [])) (by rfl) ?_
  show Wo _ _ _ _ _ _ _ _ _ _ _ s1 (mkF m 0 #[.val (.ref x), .val (.int k)] [])
  refine P.aloadN X0 hx 1 (hb hby d6_0) rfl rfl rfl ?_
  refine P.iloadN X0 hx 2 (hb hby d6_1) rfl rfl ?_
  refine P.iconst X0 hx 3 0 (hb hby d6_2) rfl rfl ?_
  refine X0.callV hx (w36 cx) (w37 cx) (w39 cx) (w38 cx) (fun _ hZ => nf hZ (w39 cx)) (by decide) P0.1 (Ct.pay (W := 0) (ct_zl31 cx x u c0 c1 c2 k h _ _ P0 hk hT) (w40 cx) (w7 cx) (nle rfl) (nle rfl)) (by rw [hml]; rfl) (argsL := [.int k, .int 0]) (rest := []) (lenOf pd10 rfl) rfl rfl (Nat.le_of_eq rfl) (hb hby d6_3) (nle rfl) (nle rfl) ?_
  rintro T1 h1 _ _ _ X1 ⟨x2, rfl, rfl, rfl, J1, G3⟩
  rw [J1] at X1
  exact WS.retI X1 (WL' := []) (FL' := []) hx hret hlk (hb hby d6_6) (nle rfl) (nle rfl) ⟨x2, rfl, rfl, rfl, rfl, G3⟩
def Q_vu31 (Z : State) (gC : Int32) (gF : Value) (x : Addr) (u : Addr) (ku : ClassId) (c0 : Int32) (c1 : Int32) (c2 : Int32) (k : Int32) (h : Heap) (v : Option Value) (h' : Heap) (WL' FL' : List Addr) : Prop := ∃ r : Int32, v = some (.int r) ∧ WL' = [] ∧ FL' = [] ∧ h' = h ∧ (¬ r < 0)
theorem ct_vu31 {l : Launch} {Z : State} {a0 : Array Value} {gC : Int32} {gF : Value} (cx : Cx a0 Z gC gF) {n0 : Nat} (x : Addr) (u : Addr) (ku : ClassId) (c0 : Int32) (c1 : Int32) (c2 : Int32) (k : Int32) (h : Heap) (WL FL : List Addr) (P0 : Exa Z h x "java/lang/String") (P1 : Fld Z h x "java/lang/String" "value" "[B" (.ref u)) (P2 : Fld Z h x "java/lang/String" "coder" "B" (.int 1)) (P3 : Arv Z h u ku .byte (6 : Int32) [(.int (c0.toInt8.toInt32)), (.int ((c0 >>> ((8 : Int32) &&& 31)).toInt8.toInt32)), (.int (c1.toInt8.toInt32)), (.int ((c1 >>> ((8 : Int32) &&& 31)).toInt8.toInt32)), (.int (c2.toInt8.toInt32)), (.int ((c2 >>> ((8 : Int32) &&& 31)).toInt8.toInt32))] (.int 0)) (hr_c0 : ¬ c0 < 0 ∧ ¬ (65535 : Int32) < c0) (hr_c1 : ¬ c1 < 0 ∧ ¬ (65535 : Int32) < c1) (hr_c2 : ¬ c2 < 0 ∧ ¬ (65535 : Int32) < c2) (hk : k = 9 ∨ k = 10 ∨ k = 13) (hT : c0 = k ∨ c1 = k ∨ c2 = k) :
    Ct l Z EL1 n0 (⟨"java/lang/String", "indexOf", "(I)I"⟩ : MethodName) jdk_42_method_79_code 2 (Option.some Jvm.ClassFile.FieldType.int) ({ frames := 6, cells := 0, slots := 0, locals := 87 } : Room) #[(.ref x), (.int k)] h WL FL (Q_vu31 Z gC gF x u ku c0 c1 c2 k h) := by
  refine Ct.of (plainFor_of_name pn0) ?_
  intro p e s m below meth c s1 hx hby hml hnm hret hlk X0
  refine Wo.cast (f' := (mkF m 0 #[.val (.ref x), .val (.int k)] [])) (by rfl) ?_
  show Wo _ _ _ _ _ _ _ _ _ _ _ s1 (mkF m 0 #[.val (.ref x), .val (.int k)] [])
  refine P.aloadN X0 hx 1 (hb hby d6_0) rfl rfl rfl ?_
  refine P.iloadN X0 hx 2 (hb hby d6_1) rfl rfl ?_
  refine P.iconst X0 hx 3 0 (hb hby d6_2) rfl rfl ?_
  refine X0.callV hx (w36 cx) (w37 cx) (w39 cx) (w38 cx) (fun _ hZ => nf hZ (w39 cx)) (by decide) P0 (Ct.pay (W := 0) (ct_zu31 cx x u ku c0 c1 c2 k h _ _ P0 P1 P2 P3 hr_c0 hr_c1 hr_c2 hk hT) (w40 cx) (w7 cx) (nle rfl) (nle rfl)) (by rw [hml]; rfl) (argsL := [.int k, .int 0]) (rest := []) (lenOf pd10 rfl) rfl rfl (Nat.le_of_eq rfl) (hb hby d6_3) (nle rfl) (nle rfl) ?_
  rintro T1 h1 _ _ _ X1 ⟨x2, rfl, rfl, rfl, J1, G3⟩
  rw [J1] at X1
  exact WS.retI X1 (WL' := []) (FL' := []) hx hret hlk (hb hby d6_6) (nle rfl) (nle rfl) ⟨x2, rfl, rfl, rfl, rfl, G3⟩
def Q_xl30 (Z : State) (gC : Int32) (gF : Value) (u : Addr) (ku : ClassId) (c0 : Int32) (c1 : Int32) (c2 : Int32) (k : Int32) (h : Heap) (v : Option Value) (h' : Heap) (WL' FL' : List Addr) : Prop := v = some (.int (-1 : Int32)) ∧ WL' = [] ∧ FL' = [] ∧ h' = h
theorem ct_xl30_3 {l : Launch} {Z : State} {a0 : Array Value} {gC : Int32} {gF : Value} (cx : Cx a0 Z gC gF) {n0 : Nat} (u : Addr) (ku : ClassId) (c0 : Int32) (c1 : Int32) (c2 : Int32) (k : Int32) (h : Heap) (WL FL : List Addr) (P0 : Arv Z h u ku .byte (3 : Int32) [(.int (c0.toInt8.toInt32)), (.int (c1.toInt8.toInt32)), (.int (c2.toInt8.toInt32))] (.int 0)) (hq_c0 : ¬ c0 < 0 ∧ ¬ (255 : Int32) < c0) (hq_c1 : ¬ c1 < 0 ∧ ¬ (255 : Int32) < c1) (hq_c2 : ¬ c2 < 0 ∧ ¬ (255 : Int32) < c2) (hk : k = 9 ∨ k = 10 ∨ k = 13) (hT : ¬ (c0 = k ∨ c1 = k ∨ c2 = k)) (e0 : ¬ c0 = k) (e1 : ¬ c1 = k) (e2 : ¬ c2 = k) :
    Ct l Z EL1 n0 (⟨"java/lang/StringLatin1", "indexOfChar", "([BIII)I"⟩ : MethodName) jdk_43_method_23_code 6 (Option.some Jvm.ClassFile.FieldType.int) ({ frames := 0, cells := 0, slots := 0, locals := 0 } : Room) #[(.ref u), (.int k), (.int 0), (.int 3)] h WL FL (Q_xl30 Z gC gF u ku c0 c1 c2 k h) := by
  refine Ct.of (plainFor_of_name pn3) ?_
  intro p e s m below meth c s1 hx hby hml hnm hret hlk X0
  refine Wo.cast (f' := (mkF m 0 #[.val (.ref u), .val (.int k), .val (.int 0), .val (.int 3), .unset, .unset] [])) (by rfl) ?_
  show Wo _ _ _ _ _ _ _ _ _ _ _ s1 (mkF m 0 #[.val (.ref u), .val (.int k), .val (.int 0), .val (.int 3), .unset, .unset] [])
  refine P.iloadN X0 hx 1 (hb hby d19_0) rfl rfl ?_
  refine P.i2b X0 hx 2 (z := (k.toInt8.toInt32)) (hb hby d19_1) rfl rfl ?_
  refine P.istore X0 hx 4 #[.val (.ref u), .val (.int k), .val (.int 0), .val (.int 3), .val (.int (k.toInt8.toInt32)), .unset] (hb hby d19_2) rfl rfl ?_
  refine P.iloadN X0 hx 5 (hb hby d19_4) rfl rfl ?_
  refine P.istore X0 hx 7 #[.val (.ref u), .val (.int k), .val (.int 0), .val (.int 3), .val (.int (k.toInt8.toInt32)), .val (.int 0)] (hb hby d19_5) rfl rfl ?_
  refine P.iload X0 hx 9 (hb hby d19_7) rfl rfl ?_
  refine P.iloadN X0 hx 10 (hb hby d19_9) rfl rfl ?_
  refine P.icmpNo X0 hx 13 (hb hby d19_10) (by decide) rfl ?_
  refine P.aloadN X0 hx 14 (hb hby d19_13) rfl rfl rfl ?_
  refine P.iload X0 hx 16 (hb hby d19_14) rfl rfl ?_
  refine WS.bld X0 hx P0 (j := (0 : Int32)) (x := (c0.toInt8.toInt32)) (by decide) rfl (hb hby d19_16) ?_
  refine P.iload X0 hx 19 (hb hby d19_17) rfl rfl ?_
  refine P.icmpYes X0 hx 25 (hb hby d19_19) (feq (fun q => e0 ((bk hq_c0 hk).mp q))).2 (by decide) (by decide) ?_
  refine P.iinc X0 hx 28 #[.val (.ref u), .val (.int k), .val (.int 0), .val (.int 3), .val (.int (k.toInt8.toInt32)), .val (.int 1)] (hb hby d19_25) rfl rfl rfl ?_
  refine P.goto X0 hx 7 (hb hby d19_28) (by decide) (by decide) ?_
  refine P.iload X0 hx 9 (hb hby d19_7) rfl rfl ?_
  refine P.iloadN X0 hx 10 (hb hby d19_9) rfl rfl ?_
  refine P.icmpNo X0 hx 13 (hb hby d19_10) (by decide) rfl ?_
  refine P.aloadN X0 hx 14 (hb hby d19_13) rfl rfl rfl ?_
  refine P.iload X0 hx 16 (hb hby d19_14) rfl rfl ?_
  refine WS.bld X0 hx P0 (j := (1 : Int32)) (x := (c1.toInt8.toInt32)) (by decide) rfl (hb hby d19_16) ?_
  refine P.iload X0 hx 19 (hb hby d19_17) rfl rfl ?_
  refine P.icmpYes X0 hx 25 (hb hby d19_19) (feq (fun q => e1 ((bk hq_c1 hk).mp q))).2 (by decide) (by decide) ?_
  refine P.iinc X0 hx 28 #[.val (.ref u), .val (.int k), .val (.int 0), .val (.int 3), .val (.int (k.toInt8.toInt32)), .val (.int 2)] (hb hby d19_25) rfl rfl rfl ?_
  refine P.goto X0 hx 7 (hb hby d19_28) (by decide) (by decide) ?_
  refine P.iload X0 hx 9 (hb hby d19_7) rfl rfl ?_
  refine P.iloadN X0 hx 10 (hb hby d19_9) rfl rfl ?_
  refine P.icmpNo X0 hx 13 (hb hby d19_10) (by decide) rfl ?_
  refine P.aloadN X0 hx 14 (hb hby d19_13) rfl rfl rfl ?_
  refine P.iload X0 hx 16 (hb hby d19_14) rfl rfl ?_
  refine WS.bld X0 hx P0 (j := (2 : Int32)) (x := (c2.toInt8.toInt32)) (by decide) rfl (hb hby d19_16) ?_
  refine P.iload X0 hx 19 (hb hby d19_17) rfl rfl ?_
  refine P.icmpYes X0 hx 25 (hb hby d19_19) (feq (fun q => e2 ((bk hq_c2 hk).mp q))).2 (by decide) (by decide) ?_
  refine P.iinc X0 hx 28 #[.val (.ref u), .val (.int k), .val (.int 0), .val (.int 3), .val (.int (k.toInt8.toInt32)), .val (.int 3)] (hb hby d19_25) rfl rfl rfl ?_
  refine P.goto X0 hx 7 (hb hby d19_28) (by decide) (by decide) ?_
  refine P.iload X0 hx 9 (hb hby d19_7) rfl rfl ?_
  refine P.iloadN X0 hx 10 (hb hby d19_9) rfl rfl ?_
  refine P.icmpYes X0 hx 31 (hb hby d19_10) (by decide) (by decide) (by decide) ?_
  refine P.iconst X0 hx 32 (-1) (hb hby d19_31) rfl rfl ?_
  exact WS.retI X0 (WL' := []) (FL' := []) hx hret hlk (hb hby d19_32) (nle rfl) (nle rfl) ⟨rfl, rfl, rfl, rfl⟩
theorem ct_xl30 {l : Launch} {Z : State} {a0 : Array Value} {gC : Int32} {gF : Value} (cx : Cx a0 Z gC gF) {n0 : Nat} (u : Addr) (ku : ClassId) (c0 : Int32) (c1 : Int32) (c2 : Int32) (k : Int32) (h : Heap) (WL FL : List Addr) (P0 : Arv Z h u ku .byte (3 : Int32) [(.int (c0.toInt8.toInt32)), (.int (c1.toInt8.toInt32)), (.int (c2.toInt8.toInt32))] (.int 0)) (hq_c0 : ¬ c0 < 0 ∧ ¬ (255 : Int32) < c0) (hq_c1 : ¬ c1 < 0 ∧ ¬ (255 : Int32) < c1) (hq_c2 : ¬ c2 < 0 ∧ ¬ (255 : Int32) < c2) (hk : k = 9 ∨ k = 10 ∨ k = 13) (hT : ¬ (c0 = k ∨ c1 = k ∨ c2 = k)) :
    Ct l Z EL1 n0 (⟨"java/lang/StringLatin1", "indexOfChar", "([BIII)I"⟩ : MethodName) jdk_43_method_23_code 6 (Option.some Jvm.ClassFile.FieldType.int) ({ frames := 0, cells := 0, slots := 0, locals := 0 } : Room) #[(.ref u), (.int k), (.int 0), (.int 3)] h WL FL (Q_xl30 Z gC gF u ku c0 c1 c2 k h) := by
  exact ct_xl30_3 cx u ku c0 c1 c2 k h WL FL P0 hq_c0 hq_c1 hq_c2 hk hT (fun q => hT (Or.inl q)) (fun q => hT (Or.inr (Or.inl q))) (fun q => hT (Or.inr (Or.inr q)))
def Q_yl30 (Z : State) (gC : Int32) (gF : Value) (u : Addr) (ku : ClassId) (c0 : Int32) (c1 : Int32) (c2 : Int32) (k : Int32) (h : Heap) (v : Option Value) (h' : Heap) (WL' FL' : List Addr) : Prop := v = some (.int (-1 : Int32)) ∧ WL' = [] ∧ FL' = [] ∧ h' = h
theorem ct_yl30 {l : Launch} {Z : State} {a0 : Array Value} {gC : Int32} {gF : Value} (cx : Cx a0 Z gC gF) {n0 : Nat} (u : Addr) (ku : ClassId) (c0 : Int32) (c1 : Int32) (c2 : Int32) (k : Int32) (h : Heap) (WL FL : List Addr) (P0 : Arv Z h u ku .byte (3 : Int32) [(.int (c0.toInt8.toInt32)), (.int (c1.toInt8.toInt32)), (.int (c2.toInt8.toInt32))] (.int 0)) (hq_c0 : ¬ c0 < 0 ∧ ¬ (255 : Int32) < c0) (hq_c1 : ¬ c1 < 0 ∧ ¬ (255 : Int32) < c1) (hq_c2 : ¬ c2 < 0 ∧ ¬ (255 : Int32) < c2) (hk : k = 9 ∨ k = 10 ∨ k = 13) (hT : ¬ (c0 = k ∨ c1 = k ∨ c2 = k)) :
    Ct l Z EL1 n0 (⟨"java/lang/StringLatin1", "indexOf", "([BIII)I"⟩ : MethodName) jdk_43_method_22_code 4 (Option.some Jvm.ClassFile.FieldType.int) ({ frames := 1, cells := 0, slots := 0, locals := 17 } : Room) #[(.ref u), (.int k), (.int 0), (.int 3)] h WL FL (Q_yl30 Z gC gF u ku c0 c1 c2 k h) := by
  refine Ct.of (plainFor_of_name pn3) ?_
  intro p e s m below meth c s1 hx hby hml hnm hret hlk X0
  refine Wo.cast (f' := (mkF m 0 #[.val (.ref u), .val (.int k), .val (.int 0), .val (.int 3)] [])) (by rfl) ?_
  show Wo _ _ _ _ _ _ _ _ _ _ _ s1 (mkF m 0 #[.val (.ref u), .val (.int k), .val (.int 0), .val (.int 3)] [])
  refine P.iloadN X0 hx 1 (hb hby d11_0) rfl rfl ?_
  refine X0.callS hx (w61 cx) (w62 cx) (w59 cx) (w63 cx) (by decide) (Ct.pay (W := 0) (ct_cenk cx k h _ _ hk) (w63 cx) (w59 cx) (nle rfl) (nle rfl)) (by rw [hml]; rfl) (argsL := [.int k]) (rest := []) (lenOf pd9 rfl) rfl rfl (Nat.le_of_eq rfl) (hb hby d11_1) (nle rfl) (nle rfl) ?_
  rintro T1 h1 _ _ _ X1 ⟨rfl, rfl, rfl, J1⟩
  rw [J1] at X1
  refine P.ifYes X1 hx 9 (hb hby d11_4) (by decide) (by decide) (by decide) ?_
  refine P.iloadN X1 hx 10 (hb hby d11_9) rfl rfl ?_
  refine P.iconst X1 hx 11 0 (hb hby d11_10) rfl rfl ?_
  refine X1.callS hx (w64 cx) (w65 cx) (w66 cx) (w67 cx) (by decide) (Ct.pay (W := 0) (ct_mmax_0_0 cx  h _ _ ) (w67 cx) (w66 cx) (nle rfl) (nle rfl)) (by rw [hml]; rfl) (argsL := [.int 0, .int 0]) (rest := []) (lenOf pd10 rfl) rfl rfl (Nat.le_of_eq rfl) (hb hby d11_11) (nle rfl) (nle rfl) ?_
  rintro T2 h2 _ _ _ X2 ⟨rfl, rfl, rfl, J2⟩
  rw [J2] at X2
  refine P.istoreN X2 hx 15 #[.val (.ref u), .val (.int k), .val (.int 0), .val (.int 3)] (hb hby d11_14) rfl rfl ?_
  refine P.iloadN X2 hx 16 (hb hby d11_15) rfl rfl ?_
  refine P.aloadN X2 hx 17 (hb hby d11_16) rfl rfl rfl ?_
  refine WS.alen X2 hx P0 (hb hby d11_17) ?_
  refine X2.callS hx (w68 cx) (w69 cx) (w66 cx) (w70 cx) (by decide) (Ct.pay (W := 0) (ct_mmin_3_3 cx  h _ _ ) (w70 cx) (w66 cx) (nle rfl) (nle rfl)) (by rw [hml]; rfl) (argsL := [.int 3, .int 3]) (rest := []) (lenOf pd10 rfl) rfl rfl (Nat.le_of_eq rfl) (hb hby d11_18) (nle rfl) (nle rfl) ?_
  rintro T3 h3 _ _ _ X3 ⟨rfl, rfl, rfl, J3⟩
  rw [J3] at X3
  refine P.istoreN X3 hx 22 #[.val (.ref u), .val (.int k), .val (.int 0), .val (.int 3)] (hb hby d11_21) rfl rfl ?_
  refine P.iloadN X3 hx 23 (hb hby d11_22) rfl rfl ?_
  refine P.iloadN X3 hx 24 (hb hby d11_23) rfl rfl ?_
  refine P.icmpYes X3 hx 29 (hb hby d11_24) (by decide) (by decide) (by decide) ?_
  refine P.aloadN X3 hx 30 (hb hby d11_29) rfl rfl rfl ?_
  refine P.iloadN X3 hx 31 (hb hby d11_30) rfl rfl ?_
  refine P.iloadN X3 hx 32 (hb hby d11_31) rfl rfl ?_
  refine P.iloadN X3 hx 33 (hb hby d11_32) rfl rfl ?_
  refine X3.callS hx (w84 cx) (w85 cx) (w59 cx) (w86 cx) (by decide) (Ct.pay (W := 0) (ct_xl30 cx u ku c0 c1 c2 k h _ _ P0 hq_c0 hq_c1 hq_c2 hk hT) (w86 cx) (w59 cx) (nle rfl) (nle rfl)) (by rw [hml]; rfl) (argsL := [.ref u, .int k, .int 0, .int 3]) (rest := []) (lenOf pd11 rfl) rfl rfl (Nat.le_of_eq rfl) (hb hby d11_33) (nle rfl) (nle rfl) ?_
  rintro T4 h4 _ _ _ X4 ⟨rfl, rfl, rfl, J4⟩
  rw [J4] at X4
  exact WS.retI X4 (WL' := []) (FL' := []) hx hret hlk (hb hby d11_36) (nle rfl) (nle rfl) ⟨rfl, rfl, rfl, rfl⟩
def Q_zl30 (Z : State) (gC : Int32) (gF : Value) (x : Addr) (u : Addr) (c0 : Int32) (c1 : Int32) (c2 : Int32) (k : Int32) (h : Heap) (v : Option Value) (h' : Heap) (WL' FL' : List Addr) : Prop := v = some (.int (-1 : Int32)) ∧ WL' = [] ∧ FL' = [] ∧ h' = h
theorem ct_zl30 {l : Launch} {Z : State} {a0 : Array Value} {gC : Int32} {gF : Value} (cx : Cx a0 Z gC gF) {n0 : Nat} (x : Addr) (u : Addr) (c0 : Int32) (c1 : Int32) (c2 : Int32) (k : Int32) (h : Heap) (WL FL : List Addr) (P0 : StrL Z h x u [c0, c1, c2]) (hk : k = 9 ∨ k = 10 ∨ k = 13) (hT : ¬ (c0 = k ∨ c1 = k ∨ c2 = k)) :
    Ct l Z EL1 n0 (⟨"java/lang/String", "indexOf", "(II)I"⟩ : MethodName) jdk_42_method_80_code 3 (Option.some Jvm.ClassFile.FieldType.int) ({ frames := 2, cells := 0, slots := 0, locals := 32 } : Room) #[(.ref x), (.int k), (.int 0)] h WL FL (Q_zl30 Z gC gF x u c0 c1 c2 k h) := by
  refine Ct.of (plainFor_of_name pn0) ?_
  intro p e s m below meth c s1 hx hby hml hnm hret hlk X0
  refine Wo.cast (f' := (mkF m 0 #[.val (.ref x), .val (.int k), .val (.int 0)] [])) (by rfl) ?_
  show Wo _ _ _ _ _ _ _ _ _ _ _ s1 (mkF m 0 #[.val (.ref x), .val (.int k), .val (.int 0)] [])
  refine P.aloadN X0 hx 1 (hb hby d7_0) rfl rfl rfl ?_
  obtain ⟨k1, A1⟩ := P0.2.2.2.1
  have V1 : Arv Z h u k1 .byte (3 : Int32) [(.int (c0.toInt8.toInt32)), (.int (c1.toInt8.toInt32)), (.int (c2.toInt8.toInt32))] (.int 0) := A1
  refine X0.callV hx (w41 cx) (w42 cx) (w44 cx) (w43 cx) (fun _ hZ => nf hZ (w44 cx)) (by decide) P0.1 (Ct.pay (W := 0) (ct_isLL cx x h _ _ P0.2.2.1) (w45 cx) (w7 cx) (nle rfl) (nle rfl)) (by rw [hml]; rfl) (argsL := []) (rest := []) (lenOf pd12 rfl) rfl rfl (Nat.le_of_eq rfl) (hb hby d7_1) (nle rfl) (nle rfl) ?_
  rintro T2 h2 _ _ _ X2 ⟨rfl, rfl, rfl, J2⟩
  rw [J2] at X2
  refine P.ifNo X2 hx 7 (hb hby d7_4) (by decide) rfl ?_
  refine P.aloadN X2 hx 8 (hb hby d7_7) rfl rfl rfl ?_
  refine X2.getF hx (host := "") (Or.inl (w25 cx)) Via.refl P0.2.1 (hb hby d7_8) ?_
  intro T3 X3
  refine P.iloadN X3 hx 12 (hb hby d7_11) rfl rfl ?_
  refine P.iloadN X3 hx 13 (hb hby d7_12) rfl rfl ?_
  refine P.aloadN X3 hx 14 (hb hby d7_13) rfl rfl rfl ?_
  refine X3.callV hx (w47 cx) (w48 cx) (w50 cx) (w49 cx) (fun _ hZ => nf hZ (w50 cx)) (by decide) P0.1 (pay_len (W := 3) (hln cx) (w6 cx) P0 (X3.sta (S_C cx)) (N_C cx) (nle rfl) (nle rfl)) (by rw [hml]; rfl) (argsL := []) (rest := [.int 0, .int k, .ref u]) (lenOf pd13 rfl) rfl rfl (Nat.le_of_eq rfl) (hb hby d7_14) (nle rfl) (nle rfl) ?_
  rintro T4 h4 _ _ _ X4 ⟨rfl, rfl, rfl, J4⟩
  rw [J4] at X4
  show Wo _ _ _ _ _ _ _ _ _ _ _ T4 (mkF m 17 #[.val (.ref x), .val (.int k), .val (.int 0)] [.int 3, .int 0, .int k, .ref u])
  refine X4.callS hx (w57 cx) (w58 cx) (w59 cx) (w60 cx) (by decide) (Ct.pay (W := 0) (ct_yl30 cx u k1 c0 c1 c2 k h _ _ V1 (P0.2.2.2.2.1 _ (List.mem_of_getElem? (i := 0) rfl)) (P0.2.2.2.2.1 _ (List.mem_of_getElem? (i := 1) rfl)) (P0.2.2.2.2.1 _ (List.mem_of_getElem? (i := 2) rfl)) hk hT) (w60 cx) (w59 cx) (nle rfl) (nle rfl)) (by rw [hml]; rfl) (argsL := [.ref u, .int k, .int 0, .int 3]) (rest := []) (lenOf pd11 rfl) rfl rfl (Nat.le_of_eq rfl) (hb hby d7_17) (nle rfl) (nle rfl) ?_
  rintro T5 h5 _ _ _ X5 ⟨rfl, rfl, rfl, J5⟩
  rw [J5] at X5
  refine P.goto X5 hx 36 (hb hby d7_20) (by decide) (by decide) ?_
  exact WS.retI X5 (WL' := []) (FL' := []) hx hret hlk (hb hby d7_36) (nle rfl) (nle rfl) ⟨rfl, rfl, rfl, rfl⟩
def Q_xu30 (Z : State) (gC : Int32) (gF : Value) (u : Addr) (ku : ClassId) (c0 : Int32) (c1 : Int32) (c2 : Int32) (k : Int32) (h : Heap) (v : Option Value) (h' : Heap) (WL' FL' : List Addr) : Prop := v = some (.int (-1 : Int32)) ∧ WL' = [] ∧ FL' = [] ∧ h' = h
theorem ct_xu30_3 {l : Launch} {Z : State} {a0 : Array Value} {gC : Int32} {gF : Value} (cx : Cx a0 Z gC gF) {n0 : Nat} (u : Addr) (ku : ClassId) (c0 : Int32) (c1 : Int32) (c2 : Int32) (k : Int32) (h : Heap) (WL FL : List Addr) (P0 : Arv Z h u ku .byte (6 : Int32) [(.int (c0.toInt8.toInt32)), (.int ((c0 >>> ((8 : Int32) &&& 31)).toInt8.toInt32)), (.int (c1.toInt8.toInt32)), (.int ((c1 >>> ((8 : Int32) &&& 31)).toInt8.toInt32)), (.int (c2.toInt8.toInt32)), (.int ((c2 >>> ((8 : Int32) &&& 31)).toInt8.toInt32))] (.int 0)) (hr_c0 : ¬ c0 < 0 ∧ ¬ (65535 : Int32) < c0) (hr_c1 : ¬ c1 < 0 ∧ ¬ (65535 : Int32) < c1) (hr_c2 : ¬ c2 < 0 ∧ ¬ (65535 : Int32) < c2) (hk : k = 9 ∨ k = 10 ∨ k = 13) (hT : ¬ (c0 = k ∨ c1 = k ∨ c2 = k)) (e0 : ¬ c0 = k) (e1 : ¬ c1 = k) (e2 : ¬ c2 = k) :
    Ct l Z EL1 n0 (⟨"java/lang/StringUTF16", "indexOfCharUnsafe", "([BIII)I"⟩ : MethodName) jdk_52_method_48_code 5 (Option.some Jvm.ClassFile.FieldType.int) ({ frames := 1, cells := 0, slots := 0, locals := 13 } : Room) #[(.ref u), (.int k), (.int 0), (.int 3)] h WL FL (Q_xu30 Z gC gF u ku c0 c1 c2 k h) := by
  refine Ct.of (plainFor_of_name pn1) ?_
  intro p e s m below meth c s1 hx hby hml hnm hret hlk X0
  refine Wo.cast (f' := (mkF m 0 #[.val (.ref u), .val (.int k), .val (.int 0), .val (.int 3), .unset] [])) (by rfl) ?_
  show Wo _ _ _ _ _ _ _ _ _ _ _ s1 (mkF m 0 #[.val (.ref u), .val (.int k), .val (.int 0), .val (.int 3), .unset] [])
  refine P.iloadN X0 hx 1 (hb hby d31_0) rfl rfl ?_
  refine P.istore X0 hx 3 #[.val (.ref u), .val (.int k), .val (.int 0), .val (.int 3), .val (.int 0)] (hb hby d31_1) rfl rfl ?_
  refine P.iload X0 hx 5 (hb hby d31_3) rfl rfl ?_
  refine P.iloadN X0 hx 6 (hb hby d31_5) rfl rfl ?_
  refine P.icmpNo X0 hx 9 (hb hby d31_6) (by decide) rfl ?_
  refine P.aloadN X0 hx 10 (hb hby d31_9) rfl rfl rfl ?_
  refine P.iload X0 hx 12 (hb hby d31_10) rfl rfl ?_
  refine X0.callS hx (w103 cx) (w104 cx) (w73 cx) (w105 cx) (by decide) (Ct.pay (W := 0) (ct_getc30 cx u ku c0 c1 c2 h _ _ P0 hr_c0) (w105 cx) (w73 cx) (nle rfl) (nle rfl)) (by rw [hml]; rfl) (argsL := [.ref u, .int 0]) (rest := []) (lenOf pd6 rfl) rfl rfl (Nat.le_of_eq rfl) (hb hby d31_12) (nle rfl) (nle rfl) ?_
  rintro T1 h1 _ _ _ X1 ⟨rfl, rfl, rfl, J1⟩
  rw [J1] at X1
  refine P.iloadN X1 hx 16 (hb hby d31_15) rfl rfl ?_
  refine P.icmpYes X1 hx 22 (hb hby d31_16) (feq e0).2 (by decide) (by decide) ?_
  refine P.iinc X1 hx 25 #[.val (.ref u), .val (.int k), .val (.int 0), .val (.int 3), .val (.int 1)] (hb hby d31_22) rfl rfl rfl ?_
  refine P.goto X1 hx 3 (hb hby d31_25) (by decide) (by decide) ?_
  refine P.iload X1 hx 5 (hb hby d31_3) rfl rfl ?_
  refine P.iloadN X1 hx 6 (hb hby d31_5) rfl rfl ?_
  refine P.icmpNo X1 hx 9 (hb hby d31_6) (by decide) rfl ?_
  refine P.aloadN X1 hx 10 (hb hby d31_9) rfl rfl rfl ?_
  refine P.iload X1 hx 12 (hb hby d31_10) rfl rfl ?_
  refine X1.callS hx (w103 cx) (w104 cx) (w73 cx) (w105 cx) (by decide) (Ct.pay (W := 0) (ct_getc31 cx u ku c0 c1 c2 h _ _ P0 hr_c1) (w105 cx) (w73 cx) (nle rfl) (nle rfl)) (by rw [hml]; rfl) (argsL := [.ref u, .int 1]) (rest := []) (lenOf pd6 rfl) rfl rfl (Nat.le_of_eq rfl) (hb hby d31_12) (nle rfl) (nle rfl) ?_
  rintro T2 h2 _ _ _ X2 ⟨rfl, rfl, rfl, J2⟩
  rw [J2] at X2
  refine P.iloadN X2 hx 16 (hb hby d31_15) rfl rfl ?_
  refine P.icmpYes X2 hx 22 (hb hby d31_16) (feq e1).2 (by decide) (by decide) ?_
  refine P.iinc X2 hx 25 #[.val (.ref u), .val (.int k), .val (.int 0), .val (.int 3), .val (.int 2)] (hb hby d31_22) rfl rfl rfl ?_
  refine P.goto X2 hx 3 (hb hby d31_25) (by decide) (by decide) ?_
  refine P.iload X2 hx 5 (hb hby d31_3) rfl rfl ?_
  refine P.iloadN X2 hx 6 (hb hby d31_5) rfl rfl ?_
  refine P.icmpNo X2 hx 9 (hb hby d31_6) (by decide) rfl ?_
  refine P.aloadN X2 hx 10 (hb hby d31_9) rfl rfl rfl ?_
  refine P.iload X2 hx 12 (hb hby d31_10) rfl rfl ?_
  refine X2.callS hx (w103 cx) (w104 cx) (w73 cx) (w105 cx) (by decide) (Ct.pay (W := 0) (ct_getc32 cx u ku c0 c1 c2 h _ _ P0 hr_c2) (w105 cx) (w73 cx) (nle rfl) (nle rfl)) (by rw [hml]; rfl) (argsL := [.ref u, .int 2]) (rest := []) (lenOf pd6 rfl) rfl rfl (Nat.le_of_eq rfl) (hb hby d31_12) (nle rfl) (nle rfl) ?_
  rintro T3 h3 _ _ _ X3 ⟨rfl, rfl, rfl, J3⟩
  rw [J3] at X3
  refine P.iloadN X3 hx 16 (hb hby d31_15) rfl rfl ?_
  refine P.icmpYes X3 hx 22 (hb hby d31_16) (feq e2).2 (by decide) (by decide) ?_
  refine P.iinc X3 hx 25 #[.val (.ref u), .val (.int k), .val (.int 0), .val (.int 3), .val (.int 3)] (hb hby d31_22) rfl rfl rfl ?_
  refine P.goto X3 hx 3 (hb hby d31_25) (by decide) (by decide) ?_
  refine P.iload X3 hx 5 (hb hby d31_3) rfl rfl ?_
  refine P.iloadN X3 hx 6 (hb hby d31_5) rfl rfl ?_
  refine P.icmpYes X3 hx 28 (hb hby d31_6) (by decide) (by decide) (by decide) ?_
  refine P.iconst X3 hx 29 (-1) (hb hby d31_28) rfl rfl ?_
  exact WS.retI X3 (WL' := []) (FL' := []) hx hret hlk (hb hby d31_29) (nle rfl) (nle rfl) ⟨rfl, rfl, rfl, rfl⟩
theorem ct_xu30 {l : Launch} {Z : State} {a0 : Array Value} {gC : Int32} {gF : Value} (cx : Cx a0 Z gC gF) {n0 : Nat} (u : Addr) (ku : ClassId) (c0 : Int32) (c1 : Int32) (c2 : Int32) (k : Int32) (h : Heap) (WL FL : List Addr) (P0 : Arv Z h u ku .byte (6 : Int32) [(.int (c0.toInt8.toInt32)), (.int ((c0 >>> ((8 : Int32) &&& 31)).toInt8.toInt32)), (.int (c1.toInt8.toInt32)), (.int ((c1 >>> ((8 : Int32) &&& 31)).toInt8.toInt32)), (.int (c2.toInt8.toInt32)), (.int ((c2 >>> ((8 : Int32) &&& 31)).toInt8.toInt32))] (.int 0)) (hr_c0 : ¬ c0 < 0 ∧ ¬ (65535 : Int32) < c0) (hr_c1 : ¬ c1 < 0 ∧ ¬ (65535 : Int32) < c1) (hr_c2 : ¬ c2 < 0 ∧ ¬ (65535 : Int32) < c2) (hk : k = 9 ∨ k = 10 ∨ k = 13) (hT : ¬ (c0 = k ∨ c1 = k ∨ c2 = k)) :
    Ct l Z EL1 n0 (⟨"java/lang/StringUTF16", "indexOfCharUnsafe", "([BIII)I"⟩ : MethodName) jdk_52_method_48_code 5 (Option.some Jvm.ClassFile.FieldType.int) ({ frames := 1, cells := 0, slots := 0, locals := 13 } : Room) #[(.ref u), (.int k), (.int 0), (.int 3)] h WL FL (Q_xu30 Z gC gF u ku c0 c1 c2 k h) := by
  exact ct_xu30_3 cx u ku c0 c1 c2 k h WL FL P0 hr_c0 hr_c1 hr_c2 hk hT (fun q => hT (Or.inl q)) (fun q => hT (Or.inr (Or.inl q))) (fun q => hT (Or.inr (Or.inr q)))
def Q_wu30 (Z : State) (gC : Int32) (gF : Value) (u : Addr) (ku : ClassId) (c0 : Int32) (c1 : Int32) (c2 : Int32) (k : Int32) (h : Heap) (v : Option Value) (h' : Heap) (WL' FL' : List Addr) : Prop := v = some (.int (-1 : Int32)) ∧ WL' = [] ∧ FL' = [] ∧ h' = h
theorem ct_wu30 {l : Launch} {Z : State} {a0 : Array Value} {gC : Int32} {gF : Value} (cx : Cx a0 Z gC gF) {n0 : Nat} (u : Addr) (ku : ClassId) (c0 : Int32) (c1 : Int32) (c2 : Int32) (k : Int32) (h : Heap) (WL FL : List Addr) (P0 : Arv Z h u ku .byte (6 : Int32) [(.int (c0.toInt8.toInt32)), (.int ((c0 >>> ((8 : Int32) &&& 31)).toInt8.toInt32)), (.int (c1.toInt8.toInt32)), (.int ((c1 >>> ((8 : Int32) &&& 31)).toInt8.toInt32)), (.int (c2.toInt8.toInt32)), (.int ((c2 >>> ((8 : Int32) &&& 31)).toInt8.toInt32))] (.int 0)) (hr_c0 : ¬ c0 < 0 ∧ ¬ (65535 : Int32) < c0) (hr_c1 : ¬ c1 < 0 ∧ ¬ (65535 : Int32) < c1) (hr_c2 : ¬ c2 < 0 ∧ ¬ (65535 : Int32) < c2) (hk : k = 9 ∨ k = 10 ∨ k = 13) (hT : ¬ (c0 = k ∨ c1 = k ∨ c2 = k)) :
    Ct l Z EL1 n0 (⟨"java/lang/StringUTF16", "indexOfChar", "([BIII)I"⟩ : MethodName) jdk_52_method_47_code 4 (Option.some Jvm.ClassFile.FieldType.int) ({ frames := 3, cells := 0, slots := 0, locals := 43 } : Room) #[(.ref u), (.int k), (.int 0), (.int 3)] h WL FL (Q_wu30 Z gC gF u ku c0 c1 c2 k h) := by
  refine Ct.of (plainFor_of_name pn1) ?_
  intro p e s m below meth c s1 hx hby hml hnm hret hlk X0
  refine Wo.cast (f' := (mkF m 0 #[.val (.ref u), .val (.int k), .val (.int 0), .val (.int 3)] [])) (by rfl) ?_
  show Wo _ _ _ _ _ _ _ _ _ _ _ s1 (mkF m 0 #[.val (.ref u), .val (.int k), .val (.int 0), .val (.int 3)] [])
  refine P.iloadN X0 hx 1 (hb hby d26_0) rfl rfl ?_
  refine P.iloadN X0 hx 2 (hb hby d26_1) rfl rfl ?_
  refine P.aloadN X0 hx 3 (hb hby d26_2) rfl rfl rfl ?_
  refine X0.callS hx (w115 cx) (w116 cx) (w73 cx) (w117 cx) (by decide) (Ct.pay (W := 0) (ct_cbu3 cx u ku _ h _ _ P0) (w117 cx) (w73 cx) (nle rfl) (nle rfl)) (by rw [hml]; rfl) (argsL := [.int 0, .int 3, .ref u]) (rest := []) (lenOf pd17 rfl) rfl rfl (Nat.le_of_eq rfl) (hb hby d26_3) (nle rfl) (nle rfl) ?_
  rintro T1 h1 _ _ _ X1 ⟨rfl, rfl, rfl, J1⟩
  rw [J1] at X1
  refine P.aloadN X1 hx 7 (hb hby d26_6) rfl rfl rfl ?_
  refine P.iloadN X1 hx 8 (hb hby d26_7) rfl rfl ?_
  refine P.iloadN X1 hx 9 (hb hby d26_8) rfl rfl ?_
  refine P.iloadN X1 hx 10 (hb hby d26_9) rfl rfl ?_
  refine X1.callS hx (w129 cx) (w130 cx) (w73 cx) (w131 cx) (by decide) (Ct.pay (W := 0) (ct_xu30 cx u ku c0 c1 c2 k h _ _ P0 hr_c0 hr_c1 hr_c2 hk hT) (w131 cx) (w73 cx) (nle rfl) (nle rfl)) (by rw [hml]; rfl) (argsL := [.ref u, .int k, .int 0, .int 3]) (rest := []) (lenOf pd11 rfl) rfl rfl (Nat.le_of_eq rfl) (hb hby d26_10) (nle rfl) (nle rfl) ?_
  rintro T2 h2 _ _ _ X2 ⟨rfl, rfl, rfl, J2⟩
  rw [J2] at X2
  exact WS.retI X2 (WL' := []) (FL' := []) hx hret hlk (hb hby d26_13) (nle rfl) (nle rfl) ⟨rfl, rfl, rfl, rfl⟩
def Q_yu30 (Z : State) (gC : Int32) (gF : Value) (u : Addr) (ku : ClassId) (c0 : Int32) (c1 : Int32) (c2 : Int32) (k : Int32) (h : Heap) (v : Option Value) (h' : Heap) (WL' FL' : List Addr) : Prop := v = some (.int (-1 : Int32)) ∧ WL' = [] ∧ FL' = [] ∧ h' = h
theorem ct_yu30 {l : Launch} {Z : State} {a0 : Array Value} {gC : Int32} {gF : Value} (cx : Cx a0 Z gC gF) {n0 : Nat} (u : Addr) (ku : ClassId) (c0 : Int32) (c1 : Int32) (c2 : Int32) (k : Int32) (h : Heap) (WL FL : List Addr) (P0 : Arv Z h u ku .byte (6 : Int32) [(.int (c0.toInt8.toInt32)), (.int ((c0 >>> ((8 : Int32) &&& 31)).toInt8.toInt32)), (.int (c1.toInt8.toInt32)), (.int ((c1 >>> ((8 : Int32) &&& 31)).toInt8.toInt32)), (.int (c2.toInt8.toInt32)), (.int ((c2 >>> ((8 : Int32) &&& 31)).toInt8.toInt32))] (.int 0)) (hr_c0 : ¬ c0 < 0 ∧ ¬ (65535 : Int32) < c0) (hr_c1 : ¬ c1 < 0 ∧ ¬ (65535 : Int32) < c1) (hr_c2 : ¬ c2 < 0 ∧ ¬ (65535 : Int32) < c2) (hk : k = 9 ∨ k = 10 ∨ k = 13) (hT : ¬ (c0 = k ∨ c1 = k ∨ c2 = k)) :
    Ct l Z EL1 n0 (⟨"java/lang/StringUTF16", "indexOf", "([BIII)I"⟩ : MethodName) jdk_52_method_40_code 4 (Option.some Jvm.ClassFile.FieldType.int) ({ frames := 4, cells := 0, slots := 0, locals := 58 } : Room) #[(.ref u), (.int k), (.int 0), (.int 3)] h WL FL (Q_yu30 Z gC gF u ku c0 c1 c2 k h) := by
  refine Ct.of (plainFor_of_name pn1) ?_
  intro p e s m below meth c s1 hx hby hml hnm hret hlk X0
  refine Wo.cast (f' := (mkF m 0 #[.val (.ref u), .val (.int k), .val (.int 0), .val (.int 3)] [])) (by rfl) ?_
  show Wo _ _ _ _ _ _ _ _ _ _ _ s1 (mkF m 0 #[.val (.ref u), .val (.int k), .val (.int 0), .val (.int 3)] [])
  refine P.iloadN X0 hx 1 (hb hby d25_0) rfl rfl ?_
  refine P.iconst X0 hx 2 0 (hb hby d25_1) rfl rfl ?_
  refine X0.callS hx (w109 cx) (w65 cx) (w66 cx) (w67 cx) (by decide) (Ct.pay (W := 0) (ct_mmax_0_0 cx  h _ _ ) (w67 cx) (w66 cx) (nle rfl) (nle rfl)) (by rw [hml]; rfl) (argsL := [.int 0, .int 0]) (rest := []) (lenOf pd10 rfl) rfl rfl (Nat.le_of_eq rfl) (hb hby d25_2) (nle rfl) (nle rfl) ?_
  rintro T1 h1 _ _ _ X1 ⟨rfl, rfl, rfl, J1⟩
  rw [J1] at X1
  refine P.istoreN X1 hx 6 #[.val (.ref u), .val (.int k), .val (.int 0), .val (.int 3)] (hb hby d25_5) rfl rfl ?_
  refine P.iloadN X1 hx 7 (hb hby d25_6) rfl rfl ?_
  refine P.aloadN X1 hx 8 (hb hby d25_7) rfl rfl rfl ?_
  refine WS.alen X1 hx P0 (hb hby d25_8) ?_
  refine P.iconst X1 hx 10 1 (hb hby d25_9) rfl rfl ?_
  refine P.ishr X1 hx 11 (z := (3 : Int32)) (hb hby d25_10) rfl rfl ?_
  refine X1.callS hx (w110 cx) (w69 cx) (w66 cx) (w70 cx) (by decide) (Ct.pay (W := 0) (ct_mmin_3_3 cx  h _ _ ) (w70 cx) (w66 cx) (nle rfl) (nle rfl)) (by rw [hml]; rfl) (argsL := [.int 3, .int 3]) (rest := []) (lenOf pd10 rfl) rfl rfl (Nat.le_of_eq rfl) (hb hby d25_11) (nle rfl) (nle rfl) ?_
  rintro T2 h2 _ _ _ X2 ⟨rfl, rfl, rfl, J2⟩
  rw [J2] at X2
  refine P.istoreN X2 hx 15 #[.val (.ref u), .val (.int k), .val (.int 0), .val (.int 3)] (hb hby d25_14) rfl rfl ?_
  refine P.iloadN X2 hx 16 (hb hby d25_15) rfl rfl ?_
  refine P.iloadN X2 hx 17 (hb hby d25_16) rfl rfl ?_
  refine P.icmpYes X2 hx 22 (hb hby d25_17) (by decide) (by decide) (by decide) ?_
  refine P.iloadN X2 hx 23 (hb hby d25_22) rfl rfl ?_
  refine WS.ldcI X2 hx (w111 cx) (hb hby d25_23) ?_
  refine P.icmpNo X2 hx 28 (hb hby d25_25) (tlt (kr6 hk)).2.1 rfl ?_
  refine P.aloadN X2 hx 29 (hb hby d25_28) rfl rfl rfl ?_
  refine P.iloadN X2 hx 30 (hb hby d25_29) rfl rfl ?_
  refine P.iloadN X2 hx 31 (hb hby d25_30) rfl rfl ?_
  refine P.iloadN X2 hx 32 (hb hby d25_31) rfl rfl ?_
  refine X2.callS hx (w112 cx) (w113 cx) (w73 cx) (w114 cx) (by decide) (Ct.pay (W := 0) (ct_wu30 cx u ku c0 c1 c2 k h _ _ P0 hr_c0 hr_c1 hr_c2 hk hT) (w114 cx) (w73 cx) (nle rfl) (nle rfl)) (by rw [hml]; rfl) (argsL := [.ref u, .int k, .int 0, .int 3]) (rest := []) (lenOf pd11 rfl) rfl rfl (Nat.le_of_eq rfl) (hb hby d25_32) (nle rfl) (nle rfl) ?_
  rintro T3 h3 _ _ _ X3 ⟨rfl, rfl, rfl, J3⟩
  rw [J3] at X3
  exact WS.retI X3 (WL' := []) (FL' := []) hx hret hlk (hb hby d25_35) (nle rfl) (nle rfl) ⟨rfl, rfl, rfl, rfl⟩
def Q_zu30 (Z : State) (gC : Int32) (gF : Value) (x : Addr) (u : Addr) (ku : ClassId) (c0 : Int32) (c1 : Int32) (c2 : Int32) (k : Int32) (h : Heap) (v : Option Value) (h' : Heap) (WL' FL' : List Addr) : Prop := v = some (.int (-1 : Int32)) ∧ WL' = [] ∧ FL' = [] ∧ h' = h
theorem ct_zu30 {l : Launch} {Z : State} {a0 : Array Value} {gC : Int32} {gF : Value} (cx : Cx a0 Z gC gF) {n0 : Nat} (x : Addr) (u : Addr) (ku : ClassId) (c0 : Int32) (c1 : Int32) (c2 : Int32) (k : Int32) (h : Heap) (WL FL : List Addr) (P0 : Exa Z h x "java/lang/String") (P1 : Fld Z h x "java/lang/String" "value" "[B" (.ref u)) (P2 : Fld Z h x "java/lang/String" "coder" "B" (.int 1)) (P3 : Arv Z h u ku .byte (6 : Int32) [(.int (c0.toInt8.toInt32)), (.int ((c0 >>> ((8 : Int32) &&& 31)).toInt8.toInt32)), (.int (c1.toInt8.toInt32)), (.int ((c1 >>> ((8 : Int32) &&& 31)).toInt8.toInt32)), (.int (c2.toInt8.toInt32)), (.int ((c2 >>> ((8 : Int32) &&& 31)).toInt8.toInt32))] (.int 0)) (hr_c0 : ¬ c0 < 0 ∧ ¬ (65535 : Int32) < c0) (hr_c1 : ¬ c1 < 0 ∧ ¬ (65535 : Int32) < c1) (hr_c2 : ¬ c2 < 0 ∧ ¬ (65535 : Int32) < c2) (hk : k = 9 ∨ k = 10 ∨ k = 13) (hT : ¬ (c0 = k ∨ c1 = k ∨ c2 = k)) :
    Ct l Z EL1 n0 (⟨"java/lang/String", "indexOf", "(II)I"⟩ : MethodName) jdk_42_method_80_code 3 (Option.some Jvm.ClassFile.FieldType.int) ({ frames := 5, cells := 0, slots := 0, locals := 73 } : Room) #[(.ref x), (.int k), (.int 0)] h WL FL (Q_zu30 Z gC gF x u ku c0 c1 c2 k h) := by
  refine Ct.of (plainFor_of_name pn0) ?_
  intro p e s m below meth c s1 hx hby hml hnm hret hlk X0
  refine Wo.cast (f' := (mkF m 0 #[.val (.ref x), .val (.int k), .val (.int 0)] [])) (by rfl) ?_
  show Wo _ _ _ _ _ _ _ _ _ _ _ s1 (mkF m 0 #[.val (.ref x), .val (.int k), .val (.int 0)] [])
  refine P.aloadN X0 hx 1 (hb hby d7_0) rfl rfl rfl ?_
  refine X0.callV hx (w41 cx) (w42 cx) (w44 cx) (w43 cx) (fun _ hZ => nf hZ (w44 cx)) (by decide) P0 (Ct.pay (W := 0) (ct_isLU cx x h _ _ P2) (w45 cx) (w7 cx) (nle rfl) (nle rfl)) (by rw [hml]; rfl) (argsL := []) (rest := []) (lenOf pd12 rfl) rfl rfl (Nat.le_of_eq rfl) (hb hby d7_1) (nle rfl) (nle rfl) ?_
  rintro T1 h1 _ _ _ X1 ⟨rfl, rfl, rfl, J1⟩
  rw [J1] at X1
  refine P.ifYes X1 hx 23 (hb hby d7_4) (by decide) (by decide) (by decide) ?_
  refine P.aloadN X1 hx 24 (hb hby d7_23) rfl rfl rfl ?_
  refine X1.getF hx (host := "") (Or.inl (w25 cx)) Via.refl P1 (hb hby d7_24) ?_
  intro T2 X2
  refine P.iloadN X2 hx 28 (hb hby d7_27) rfl rfl ?_
  refine P.iloadN X2 hx 29 (hb hby d7_28) rfl rfl ?_
  refine P.aloadN X2 hx 30 (hb hby d7_29) rfl rfl rfl ?_
  refine X2.callV hx (w47 cx) (w48 cx) (w50 cx) (w49 cx) (fun _ hZ => nf hZ (w50 cx)) (by decide) P0 (Ct.pay (W := 3) (ct_slen3 cx x u ku c0 c1 c2 h _ _ P0 P1 P2 P3) (w51 cx) (w7 cx) (nle rfl) (nle rfl)) (by rw [hml]; rfl) (argsL := []) (rest := [.int 0, .int k, .ref u]) (lenOf pd13 rfl) rfl rfl (Nat.le_of_eq rfl) (hb hby d7_30) (nle rfl) (nle rfl) ?_
  rintro T3 h3 _ _ _ X3 ⟨rfl, rfl, rfl, J3⟩
  rw [J3] at X3
  refine X3.callS hx (w106 cx) (w107 cx) (w73 cx) (w108 cx) (by decide) (Ct.pay (W := 0) (ct_yu30 cx u ku c0 c1 c2 k h _ _ P3 hr_c0 hr_c1 hr_c2 hk hT) (w108 cx) (w73 cx) (nle rfl) (nle rfl)) (by rw [hml]; rfl) (argsL := [.ref u, .int k, .int 0, .int 3]) (rest := []) (lenOf pd11 rfl) rfl rfl (Nat.le_of_eq rfl) (hb hby d7_33) (nle rfl) (nle rfl) ?_
  rintro T4 h4 _ _ _ X4 ⟨rfl, rfl, rfl, J4⟩
  rw [J4] at X4
  exact WS.retI X4 (WL' := []) (FL' := []) hx hret hlk (hb hby d7_36) (nle rfl) (nle rfl) ⟨rfl, rfl, rfl, rfl⟩
def Q_vl30 (Z : State) (gC : Int32) (gF : Value) (x : Addr) (u : Addr) (c0 : Int32) (c1 : Int32) (c2 : Int32) (k : Int32) (h : Heap) (v : Option Value) (h' : Heap) (WL' FL' : List Addr) : Prop := v = some (.int (-1 : Int32)) ∧ WL' = [] ∧ FL' = [] ∧ h' = h
theorem ct_vl30 {l : Launch} {Z : State} {a0 : Array Value} {gC : Int32} {gF : Value} (cx : Cx a0 Z gC gF) {n0 : Nat} (x : Addr) (u : Addr) (c0 : Int32) (c1 : Int32) (c2 : Int32) (k : Int32) (h : Heap) (WL FL : List Addr) (P0 : StrL Z h x u [c0, c1, c2]) (hk : k = 9 ∨ k = 10 ∨ k = 13) (hT : ¬ (c0 = k ∨ c1 = k ∨ c2 = k)) :
    Ct l Z EL1 n0 (⟨"java/lang/String", "indexOf", "(I)I"⟩ : MethodName) jdk_42_method_79_code 2 (Option.some Jvm.ClassFile.FieldType.int) ({ frames := 3, cells := 0, slots := 0, locals := 46 } : Room) #[(.ref x), (.int k)] h WL FL (Q_vl30 Z gC gF x u c0 c1 c2 k h) := by
  refine Ct.of (plainFor_of_name pn0) ?_
  intro p e s m below meth c s1 hx hby hml hnm hret hlk X0
  refine Wo.cast (f' := (mkF m 0 #[.val (.ref x), .val (.int k)] [])) (by rfl) ?_
  show Wo _ _ _ _ _ _ _ _ _ _ _ s1 (mkF m 0 #[.val (.ref x), .val (.int k)] [])
  refine P.aloadN X0 hx 1 (hb hby d6_0) rfl rfl rfl ?_
  refine P.iloadN X0 hx 2 (hb hby d6_1) rfl rfl ?_
  refine P.iconst X0 hx 3 0 (hb hby d6_2) rfl rfl ?_
  refine X0.callV hx (w36 cx) (w37 cx) (w39 cx) (w38 cx) (fun _ hZ => nf hZ (w39 cx)) (by decide) P0.1 (Ct.pay (W := 0) (ct_zl30 cx x u c0 c1 c2 k h _ _ P0 hk hT) (w40 cx) (w7 cx) (nle rfl) (nle rfl)) (by rw [hml]; rfl) (argsL := [.int k, .int 0]) (rest := []) (lenOf pd10 rfl) rfl rfl (Nat.le_of_eq rfl) (hb hby d6_3) (nle rfl) (nle rfl) ?_
  rintro T1 h1 _ _ _ X1 ⟨rfl, rfl, rfl, J1⟩
  rw [J1] at X1
  exact WS.retI X1 (WL' := []) (FL' := []) hx hret hlk (hb hby d6_6) (nle rfl) (nle rfl) ⟨rfl, rfl, rfl, rfl⟩
def Q_vu30 (Z : State) (gC : Int32) (gF : Value) (x : Addr) (u : Addr) (ku : ClassId) (c0 : Int32) (c1 : Int32) (c2 : Int32) (k : Int32) (h : Heap) (v : Option Value) (h' : Heap) (WL' FL' : List Addr) : Prop := v = some (.int (-1 : Int32)) ∧ WL' = [] ∧ FL' = [] ∧ h' = h
theorem ct_vu30 {l : Launch} {Z : State} {a0 : Array Value} {gC : Int32} {gF : Value} (cx : Cx a0 Z gC gF) {n0 : Nat} (x : Addr) (u : Addr) (ku : ClassId) (c0 : Int32) (c1 : Int32) (c2 : Int32) (k : Int32) (h : Heap) (WL FL : List Addr) (P0 : Exa Z h x "java/lang/String") (P1 : Fld Z h x "java/lang/String" "value" "[B" (.ref u)) (P2 : Fld Z h x "java/lang/String" "coder" "B" (.int 1)) (P3 : Arv Z h u ku .byte (6 : Int32) [(.int (c0.toInt8.toInt32)), (.int ((c0 >>> ((8 : Int32) &&& 31)).toInt8.toInt32)), (.int (c1.toInt8.toInt32)), (.int ((c1 >>> ((8 : Int32) &&& 31)).toInt8.toInt32)), (.int (c2.toInt8.toInt32)), (.int ((c2 >>> ((8 : Int32) &&& 31)).toInt8.toInt32))] (.int 0)) (hr_c0 : ¬ c0 < 0 ∧ ¬ (65535 : Int32) < c0) (hr_c1 : ¬ c1 < 0 ∧ ¬ (65535 : Int32) < c1) (hr_c2 : ¬ c2 < 0 ∧ ¬ (65535 : Int32) < c2) (hk : k = 9 ∨ k = 10 ∨ k = 13) (hT : ¬ (c0 = k ∨ c1 = k ∨ c2 = k)) :
    Ct l Z EL1 n0 (⟨"java/lang/String", "indexOf", "(I)I"⟩ : MethodName) jdk_42_method_79_code 2 (Option.some Jvm.ClassFile.FieldType.int) ({ frames := 6, cells := 0, slots := 0, locals := 87 } : Room) #[(.ref x), (.int k)] h WL FL (Q_vu30 Z gC gF x u ku c0 c1 c2 k h) := by
  refine Ct.of (plainFor_of_name pn0) ?_
  intro p e s m below meth c s1 hx hby hml hnm hret hlk X0
  refine Wo.cast (f' := (mkF m 0 #[.val (.ref x), .val (.int k)] [])) (by rfl) ?_
  show Wo _ _ _ _ _ _ _ _ _ _ _ s1 (mkF m 0 #[.val (.ref x), .val (.int k)] [])
  refine P.aloadN X0 hx 1 (hb hby d6_0) rfl rfl rfl ?_
  refine P.iloadN X0 hx 2 (hb hby d6_1) rfl rfl ?_
  refine P.iconst X0 hx 3 0 (hb hby d6_2) rfl rfl ?_
  refine X0.callV hx (w36 cx) (w37 cx) (w39 cx) (w38 cx) (fun _ hZ => nf hZ (w39 cx)) (by decide) P0 (Ct.pay (W := 0) (ct_zu30 cx x u ku c0 c1 c2 k h _ _ P0 P1 P2 P3 hr_c0 hr_c1 hr_c2 hk hT) (w40 cx) (w7 cx) (nle rfl) (nle rfl)) (by rw [hml]; rfl) (argsL := [.int k, .int 0]) (rest := []) (lenOf pd10 rfl) rfl rfl (Nat.le_of_eq rfl) (hb hby d6_3) (nle rfl) (nle rfl) ?_
  rintro T1 h1 _ _ _ X1 ⟨rfl, rfl, rfl, J1⟩
  rw [J1] at X1
  exact WS.retI X1 (WL' := []) (FL' := []) hx hret hlk (hb hby d6_6) (nle rfl) (nle rfl) ⟨rfl, rfl, rfl, rfl⟩
def Q_mmin_0_0 (Z : State) (gC : Int32) (gF : Value) (h : Heap) (v : Option Value) (h' : Heap) (WL' FL' : List Addr) : Prop := v = some (.int 0) ∧ WL' = [] ∧ FL' = [] ∧ h' = h
theorem ct_mmin_0_0 {l : Launch} {Z : State} {a0 : Array Value} {gC : Int32} {gF : Value} (cx : Cx a0 Z gC gF) {n0 : Nat} (h : Heap) (WL FL : List Addr)  :
    Ct l Z EL1 n0 (⟨"java/lang/Math", "min", "(II)I"⟩ : MethodName) jdk_29_method_69_code 2 (Option.some Jvm.ClassFile.FieldType.int) ({ frames := 0, cells := 0, slots := 0, locals := 0 } : Room) #[(.int 0), (.int 0)] h WL FL (Q_mmin_0_0 Z gC gF h) := by
  refine Ct.of (by decide +kernel) ?_
  intro p e s m below meth c s1 hx hby hml hnm hret hlk X0
  refine Wo.cast (f' := (mkF m 0 #[.val (.int 0), .val (.int 0)] [])) (by rfl) ?_
  show Wo _ _ _ _ _ _ _ _ _ _ _ s1 (mkF m 0 #[.val (.int 0), .val (.int 0)] [])
  refine P.iloadN X0 hx 1 (hb hby d14_0) rfl rfl ?_
  refine P.iloadN X0 hx 2 (hb hby d14_1) rfl rfl ?_
  refine P.icmpNo X0 hx 5 (hb hby d14_2) (by decide) rfl ?_
  refine P.iloadN X0 hx 6 (hb hby d14_5) rfl rfl ?_
  refine P.goto X0 hx 10 (hb hby d14_6) (by decide) (by decide) ?_
  exact WS.retI X0 (WL' := []) (FL' := []) hx hret hlk (hb hby d14_10) (nle rfl) (nle rfl) ⟨rfl, rfl, rfl, rfl⟩
def Q_yl00 (Z : State) (gC : Int32) (gF : Value) (u : Addr) (ku : ClassId) (k : Int32) (h : Heap) (v : Option Value) (h' : Heap) (WL' FL' : List Addr) : Prop := v = some (.int (-1 : Int32)) ∧ WL' = [] ∧ FL' = [] ∧ h' = h
theorem ct_yl00 {l : Launch} {Z : State} {a0 : Array Value} {gC : Int32} {gF : Value} (cx : Cx a0 Z gC gF) {n0 : Nat} (u : Addr) (ku : ClassId) (k : Int32) (h : Heap) (WL FL : List Addr) (P0 : Arv Z h u ku .byte (0 : Int32) [] (.int 0)) (hk : k = 9 ∨ k = 10 ∨ k = 13) :
    Ct l Z EL1 n0 (⟨"java/lang/StringLatin1", "indexOf", "([BIII)I"⟩ : MethodName) jdk_43_method_22_code 4 (Option.some Jvm.ClassFile.FieldType.int) ({ frames := 1, cells := 0, slots := 0, locals := 13 } : Room) #[(.ref u), (.int k), (.int 0), (.int 0)] h WL FL (Q_yl00 Z gC gF u ku k h) := by
  refine Ct.of (plainFor_of_name pn3) ?_
  intro p e s m below meth c s1 hx hby hml hnm hret hlk X0
  refine Wo.cast (f' := (mkF m 0 #[.val (.ref u), .val (.int k), .val (.int 0), .val (.int 0)] [])) (by rfl) ?_
  show Wo _ _ _ _ _ _ _ _ _ _ _ s1 (mkF m 0 #[.val (.ref u), .val (.int k), .val (.int 0), .val (.int 0)] [])
  refine P.iloadN X0 hx 1 (hb hby d11_0) rfl rfl ?_
  refine X0.callS hx (w61 cx) (w62 cx) (w59 cx) (w63 cx) (by decide) (Ct.pay (W := 0) (ct_cenk cx k h _ _ hk) (w63 cx) (w59 cx) (nle rfl) (nle rfl)) (by rw [hml]; rfl) (argsL := [.int k]) (rest := []) (lenOf pd9 rfl) rfl rfl (Nat.le_of_eq rfl) (hb hby d11_1) (nle rfl) (nle rfl) ?_
  rintro T1 h1 _ _ _ X1 ⟨rfl, rfl, rfl, J1⟩
  rw [J1] at X1
  refine P.ifYes X1 hx 9 (hb hby d11_4) (by decide) (by decide) (by decide) ?_
  refine P.iloadN X1 hx 10 (hb hby d11_9) rfl rfl ?_
  refine P.iconst X1 hx 11 0 (hb hby d11_10) rfl rfl ?_
  refine X1.callS hx (w64 cx) (w65 cx) (w66 cx) (w67 cx) (by decide) (Ct.pay (W := 0) (ct_mmax_0_0 cx  h _ _ ) (w67 cx) (w66 cx) (nle rfl) (nle rfl)) (by rw [hml]; rfl) (argsL := [.int 0, .int 0]) (rest := []) (lenOf pd10 rfl) rfl rfl (Nat.le_of_eq rfl) (hb hby d11_11) (nle rfl) (nle rfl) ?_
  rintro T2 h2 _ _ _ X2 ⟨rfl, rfl, rfl, J2⟩
  rw [J2] at X2
  refine P.istoreN X2 hx 15 #[.val (.ref u), .val (.int k), .val (.int 0), .val (.int 0)] (hb hby d11_14) rfl rfl ?_
  refine P.iloadN X2 hx 16 (hb hby d11_15) rfl rfl ?_
  refine P.aloadN X2 hx 17 (hb hby d11_16) rfl rfl rfl ?_
  refine WS.alen X2 hx P0 (hb hby d11_17) ?_
  refine X2.callS hx (w68 cx) (w69 cx) (w66 cx) (w70 cx) (by decide) (Ct.pay (W := 0) (ct_mmin_0_0 cx  h _ _ ) (w70 cx) (w66 cx) (nle rfl) (nle rfl)) (by rw [hml]; rfl) (argsL := [.int 0, .int 0]) (rest := []) (lenOf pd10 rfl) rfl rfl (Nat.le_of_eq rfl) (hb hby d11_18) (nle rfl) (nle rfl) ?_
  rintro T3 h3 _ _ _ X3 ⟨rfl, rfl, rfl, J3⟩
  rw [J3] at X3
  refine P.istoreN X3 hx 22 #[.val (.ref u), .val (.int k), .val (.int 0), .val (.int 0)] (hb hby d11_21) rfl rfl ?_
  refine P.iloadN X3 hx 23 (hb hby d11_22) rfl rfl ?_
  refine P.iloadN X3 hx 24 (hb hby d11_23) rfl rfl ?_
  refine P.icmpNo X3 hx 27 (hb hby d11_24) (by decide) rfl ?_
  refine P.iconst X3 hx 28 (-1) (hb hby d11_27) rfl rfl ?_
  exact WS.retI X3 (WL' := []) (FL' := []) hx hret hlk (hb hby d11_28) (nle rfl) (nle rfl) ⟨rfl, rfl, rfl, rfl⟩
def Q_zl00 (Z : State) (gC : Int32) (gF : Value) (x : Addr) (u : Addr) (k : Int32) (h : Heap) (v : Option Value) (h' : Heap) (WL' FL' : List Addr) : Prop := v = some (.int (-1 : Int32)) ∧ WL' = [] ∧ FL' = [] ∧ h' = h
theorem ct_zl00 {l : Launch} {Z : State} {a0 : Array Value} {gC : Int32} {gF : Value} (cx : Cx a0 Z gC gF) {n0 : Nat} (x : Addr) (u : Addr) (k : Int32) (h : Heap) (WL FL : List Addr) (P0 : StrL Z h x u []) (hk : k = 9 ∨ k = 10 ∨ k = 13) :
    Ct l Z EL1 n0 (⟨"java/lang/String", "indexOf", "(II)I"⟩ : MethodName) jdk_42_method_80_code 3 (Option.some Jvm.ClassFile.FieldType.int) ({ frames := 2, cells := 0, slots := 0, locals := 28 } : Room) #[(.ref x), (.int k), (.int 0)] h WL FL (Q_zl00 Z gC gF x u k h) := by
  refine Ct.of (plainFor_of_name pn0) ?_
  intro p e s m below meth c s1 hx hby hml hnm hret hlk X0
  refine Wo.cast (f' := (mkF m 0 #[.val (.ref x), .val (.int k), .val (.int 0)] [])) (by rfl) ?_
  show Wo _ _ _ _ _ _ _ _ _ _ _ s1 (mkF m 0 #[.val (.ref x), .val (.int k), .val (.int 0)] [])
  refine P.aloadN X0 hx 1 (hb hby d7_0) rfl rfl rfl ?_
  obtain ⟨k1, A1⟩ := P0.2.2.2.1
  have V1 : Arv Z h u k1 .byte (0 : Int32) [] (.int 0) := A1
  refine X0.callV hx (w41 cx) (w42 cx) (w44 cx) (w43 cx) (fun _ hZ => nf hZ (w44 cx)) (by decide) P0.1 (Ct.pay (W := 0) (ct_isLL cx x h _ _ P0.2.2.1) (w45 cx) (w7 cx) (nle rfl) (nle rfl)) (by rw [hml]; rfl) (argsL := []) (rest := []) (lenOf pd12 rfl) rfl rfl (Nat.le_of_eq rfl) (hb hby d7_1) (nle rfl) (nle rfl) ?_
  rintro T2 h2 _ _ _ X2 ⟨rfl, rfl, rfl, J2⟩
  rw [J2] at X2
  refine P.ifNo X2 hx 7 (hb hby d7_4) (by decide) rfl ?_
  refine P.aloadN X2 hx 8 (hb hby d7_7) rfl rfl rfl ?_
  refine X2.getF hx (host := "") (Or.inl (w25 cx)) Via.refl P0.2.1 (hb hby d7_8) ?_
  intro T3 X3
  refine P.iloadN X3 hx 12 (hb hby d7_11) rfl rfl ?_
  refine P.iloadN X3 hx 13 (hb hby d7_12) rfl rfl ?_
  refine P.aloadN X3 hx 14 (hb hby d7_13) rfl rfl rfl ?_
  refine X3.callV hx (w47 cx) (w48 cx) (w50 cx) (w49 cx) (fun _ hZ => nf hZ (w50 cx)) (by decide) P0.1 (pay_len (W := 3) (hln cx) (w6 cx) P0 (X3.sta (S_C cx)) (N_C cx) (nle rfl) (nle rfl)) (by rw [hml]; rfl) (argsL := []) (rest := [.int 0, .int k, .ref u]) (lenOf pd13 rfl) rfl rfl (Nat.le_of_eq rfl) (hb hby d7_14) (nle rfl) (nle rfl) ?_
  rintro T4 h4 _ _ _ X4 ⟨rfl, rfl, rfl, J4⟩
  rw [J4] at X4
  show Wo _ _ _ _ _ _ _ _ _ _ _ T4 (mkF m 17 #[.val (.ref x), .val (.int k), .val (.int 0)] [.int 0, .int 0, .int k, .ref u])
  refine X4.callS hx (w57 cx) (w58 cx) (w59 cx) (w60 cx) (by decide) (Ct.pay (W := 0) (ct_yl00 cx u k1 k h _ _ V1 hk) (w60 cx) (w59 cx) (nle rfl) (nle rfl)) (by rw [hml]; rfl) (argsL := [.ref u, .int k, .int 0, .int 0]) (rest := []) (lenOf pd11 rfl) rfl rfl (Nat.le_of_eq rfl) (hb hby d7_17) (nle rfl) (nle rfl) ?_
  rintro T5 h5 _ _ _ X5 ⟨rfl, rfl, rfl, J5⟩
  rw [J5] at X5
  refine P.goto X5 hx 36 (hb hby d7_20) (by decide) (by decide) ?_
  exact WS.retI X5 (WL' := []) (FL' := []) hx hret hlk (hb hby d7_36) (nle rfl) (nle rfl) ⟨rfl, rfl, rfl, rfl⟩
def Q_vl00 (Z : State) (gC : Int32) (gF : Value) (x : Addr) (u : Addr) (k : Int32) (h : Heap) (v : Option Value) (h' : Heap) (WL' FL' : List Addr) : Prop := v = some (.int (-1 : Int32)) ∧ WL' = [] ∧ FL' = [] ∧ h' = h
theorem ct_vl00 {l : Launch} {Z : State} {a0 : Array Value} {gC : Int32} {gF : Value} (cx : Cx a0 Z gC gF) {n0 : Nat} (x : Addr) (u : Addr) (k : Int32) (h : Heap) (WL FL : List Addr) (P0 : StrL Z h x u []) (hk : k = 9 ∨ k = 10 ∨ k = 13) :
    Ct l Z EL1 n0 (⟨"java/lang/String", "indexOf", "(I)I"⟩ : MethodName) jdk_42_method_79_code 2 (Option.some Jvm.ClassFile.FieldType.int) ({ frames := 3, cells := 0, slots := 0, locals := 42 } : Room) #[(.ref x), (.int k)] h WL FL (Q_vl00 Z gC gF x u k h) := by
  refine Ct.of (plainFor_of_name pn0) ?_
  intro p e s m below meth c s1 hx hby hml hnm hret hlk X0
  refine Wo.cast (f' := (mkF m 0 #[.val (.ref x), .val (.int k)] [])) (by rfl) ?_
  show Wo _ _ _ _ _ _ _ _ _ _ _ s1 (mkF m 0 #[.val (.ref x), .val (.int k)] [])
  refine P.aloadN X0 hx 1 (hb hby d6_0) rfl rfl rfl ?_
  refine P.iloadN X0 hx 2 (hb hby d6_1) rfl rfl ?_
  refine P.iconst X0 hx 3 0 (hb hby d6_2) rfl rfl ?_
  refine X0.callV hx (w36 cx) (w37 cx) (w39 cx) (w38 cx) (fun _ hZ => nf hZ (w39 cx)) (by decide) P0.1 (Ct.pay (W := 0) (ct_zl00 cx x u k h _ _ P0 hk) (w40 cx) (w7 cx) (nle rfl) (nle rfl)) (by rw [hml]; rfl) (argsL := [.int k, .int 0]) (rest := []) (lenOf pd10 rfl) rfl rfl (Nat.le_of_eq rfl) (hb hby d6_3) (nle rfl) (nle rfl) ?_
  rintro T1 h1 _ _ _ X1 ⟨rfl, rfl, rfl, J1⟩
  rw [J1] at X1
  exact WS.retI X1 (WL' := []) (FL' := []) hx hret hlk (hb hby d6_6) (nle rfl) (nle rfl) ⟨rfl, rfl, rfl, rfl⟩
def Q_pr100 (Z : State) (gC : Int32) (gF : Value) (x : Addr) (u : Addr) (h : Heap) (v : Option Value) (h' : Heap) (WL' FL' : List Addr) : Prop := v = some (.int 1) ∧ WL' = [] ∧ FL' = [] ∧ h' = h
theorem ct_pr100 {l : Launch} {Z : State} {a0 : Array Value} {gC : Int32} {gF : Value} (cx : Cx a0 Z gC gF) {n0 : Nat} (x : Addr) (u : Addr) (h : Heap) (WL FL : List Addr) (P0 : StrL Z h x u []) :
    Ct l Z EL1 n0 (⟨"com/example/lynceus/lynceus/Bag", "isPrintable", "(Ljava/lang/String;)Z"⟩ : MethodName) prog_1_method_3_code 1 (Option.some Jvm.ClassFile.FieldType.boolean) ({ frames := 4, cells := 0, slots := 0, locals := 55 } : Room) #[(.ref x)] h WL FL (Q_pr100 Z gC gF x u h) := by
  refine Ct.of (plainFor_of_name pn5) ?_
  intro p e s m below meth c s1 hx hby hml hnm hret hlk X0
  refine Wo.cast (f' := (mkF m 0 #[.val (.ref x)] [])) (by rfl) ?_
  show Wo _ _ _ _ _ _ _ _ _ _ _ s1 (mkF m 0 #[.val (.ref x)] [])
  refine P.aloadN X0 hx 1 (hb hby d5_0) rfl rfl rfl ?_
  refine P.bipush X0 hx 3 9 (hb hby d5_1) rfl rfl ?_
  refine X0.callV hx (w31 cx) (w32 cx) (w34 cx) (w33 cx) (fun _ hZ => nf hZ (w34 cx)) (by decide) P0.1 (Ct.pay (W := 0) (ct_vl00 cx x u (9 : Int32) h _ _ P0 (by decide)) (w35 cx) (w7 cx) (nle rfl) (nle rfl)) (by rw [hml]; rfl) (argsL := [.int 9]) (rest := []) (lenOf pd1 rfl) rfl rfl (Nat.le_of_eq rfl) (hb hby d5_3) (nle rfl) (nle rfl) ?_
  rintro T1 h1 _ _ _ X1 ⟨rfl, rfl, rfl, J1⟩
  rw [J1] at X1
  refine P.ifNo X1 hx 9 (hb hby d5_6) (by decide) rfl ?_
  refine P.aloadN X1 hx 10 (hb hby d5_9) rfl rfl rfl ?_
  refine P.bipush X1 hx 12 10 (hb hby d5_10) rfl rfl ?_
  refine X1.callV hx (w31 cx) (w32 cx) (w34 cx) (w33 cx) (fun _ hZ => nf hZ (w34 cx)) (by decide) P0.1 (Ct.pay (W := 0) (ct_vl00 cx x u (10 : Int32) h _ _ P0 (by decide)) (w35 cx) (w7 cx) (nle rfl) (nle rfl)) (by rw [hml]; rfl) (argsL := [.int 10]) (rest := []) (lenOf pd1 rfl) rfl rfl (Nat.le_of_eq rfl) (hb hby d5_12) (nle rfl) (nle rfl) ?_
  rintro T2 h2 _ _ _ X2 ⟨rfl, rfl, rfl, J2⟩
  rw [J2] at X2
  refine P.ifNo X2 hx 18 (hb hby d5_15) (by decide) rfl ?_
  refine P.aloadN X2 hx 19 (hb hby d5_18) rfl rfl rfl ?_
  refine P.bipush X2 hx 21 13 (hb hby d5_19) rfl rfl ?_
  refine X2.callV hx (w31 cx) (w32 cx) (w34 cx) (w33 cx) (fun _ hZ => nf hZ (w34 cx)) (by decide) P0.1 (Ct.pay (W := 0) (ct_vl00 cx x u (13 : Int32) h _ _ P0 (by decide)) (w35 cx) (w7 cx) (nle rfl) (nle rfl)) (by rw [hml]; rfl) (argsL := [.int 13]) (rest := []) (lenOf pd1 rfl) rfl rfl (Nat.le_of_eq rfl) (hb hby d5_21) (nle rfl) (nle rfl) ?_
  rintro T3 h3 _ _ _ X3 ⟨rfl, rfl, rfl, J3⟩
  rw [J3] at X3
  refine P.ifNo X3 hx 27 (hb hby d5_24) (by decide) rfl ?_
  refine P.iconst X3 hx 28 1 (hb hby d5_27) rfl rfl ?_
  refine P.goto X3 hx 32 (hb hby d5_28) (by decide) (by decide) ?_
  exact WS.retN X3 (WL' := []) (FL' := []) hx (t := .boolean) hret (by simp) hlk (hb hby d5_32) (nle rfl) (nle rfl) ⟨rfl, rfl, rfl, rfl⟩
def Q_pr101 (Z : State) (gC : Int32) (gF : Value) (x : Addr) (u : Addr) (c0 : Int32) (h : Heap) (v : Option Value) (h' : Heap) (WL' FL' : List Addr) : Prop := v = some (.int 1) ∧ WL' = [] ∧ FL' = [] ∧ h' = h
theorem ct_pr101 {l : Launch} {Z : State} {a0 : Array Value} {gC : Int32} {gF : Value} (cx : Cx a0 Z gC gF) {n0 : Nat} (x : Addr) (u : Addr) (c0 : Int32) (h : Heap) (WL FL : List Addr) (P0 : StrL Z h x u [c0]) (hn0 : ¬ (c0 = (9 : Int32) ∨ c0 = (10 : Int32) ∨ c0 = (13 : Int32))) :
    Ct l Z EL1 n0 (⟨"com/example/lynceus/lynceus/Bag", "isPrintable", "(Ljava/lang/String;)Z"⟩ : MethodName) prog_1_method_3_code 1 (Option.some Jvm.ClassFile.FieldType.boolean) ({ frames := 4, cells := 0, slots := 0, locals := 59 } : Room) #[(.ref x)] h WL FL (Q_pr101 Z gC gF x u c0 h) := by
  refine Ct.of (plainFor_of_name pn5) ?_
  intro p e s m below meth c s1 hx hby hml hnm hret hlk X0
  refine Wo.cast (f' := (mkF m 0 #[.val (.ref x)] [])) (by rfl) ?_
  show Wo _ _ _ _ _ _ _ _ _ _ _ s1 (mkF m 0 #[.val (.ref x)] [])
  refine P.aloadN X0 hx 1 (hb hby d5_0) rfl rfl rfl ?_
  refine P.bipush X0 hx 3 9 (hb hby d5_1) rfl rfl ?_
  refine X0.callV hx (w31 cx) (w32 cx) (w34 cx) (w33 cx) (fun _ hZ => nf hZ (w34 cx)) (by decide) P0.1 (Ct.pay (W := 0) (ct_vl10 cx x u c0 (9 : Int32) h _ _ P0 (by decide) (fun q => hn0 (Or.inl q))) (w35 cx) (w7 cx) (nle rfl) (nle rfl)) (by rw [hml]; rfl) (argsL := [.int 9]) (rest := []) (lenOf pd1 rfl) rfl rfl (Nat.le_of_eq rfl) (hb hby d5_3) (nle rfl) (nle rfl) ?_
  rintro T1 h1 _ _ _ X1 ⟨rfl, rfl, rfl, J1⟩
  rw [J1] at X1
  refine P.ifNo X1 hx 9 (hb hby d5_6) (by decide) rfl ?_
  refine P.aloadN X1 hx 10 (hb hby d5_9) rfl rfl rfl ?_
  refine P.bipush X1 hx 12 10 (hb hby d5_10) rfl rfl ?_
  refine X1.callV hx (w31 cx) (w32 cx) (w34 cx) (w33 cx) (fun _ hZ => nf hZ (w34 cx)) (by decide) P0.1 (Ct.pay (W := 0) (ct_vl10 cx x u c0 (10 : Int32) h _ _ P0 (by decide) (fun q => hn0 (Or.inr (Or.inl q)))) (w35 cx) (w7 cx) (nle rfl) (nle rfl)) (by rw [hml]; rfl) (argsL := [.int 10]) (rest := []) (lenOf pd1 rfl) rfl rfl (Nat.le_of_eq rfl) (hb hby d5_12) (nle rfl) (nle rfl) ?_
  rintro T2 h2 _ _ _ X2 ⟨rfl, rfl, rfl, J2⟩
  rw [J2] at X2
  refine P.ifNo X2 hx 18 (hb hby d5_15) (by decide) rfl ?_
  refine P.aloadN X2 hx 19 (hb hby d5_18) rfl rfl rfl ?_
  refine P.bipush X2 hx 21 13 (hb hby d5_19) rfl rfl ?_
  refine X2.callV hx (w31 cx) (w32 cx) (w34 cx) (w33 cx) (fun _ hZ => nf hZ (w34 cx)) (by decide) P0.1 (Ct.pay (W := 0) (ct_vl10 cx x u c0 (13 : Int32) h _ _ P0 (by decide) (fun q => hn0 (Or.inr (Or.inr q)))) (w35 cx) (w7 cx) (nle rfl) (nle rfl)) (by rw [hml]; rfl) (argsL := [.int 13]) (rest := []) (lenOf pd1 rfl) rfl rfl (Nat.le_of_eq rfl) (hb hby d5_21) (nle rfl) (nle rfl) ?_
  rintro T3 h3 _ _ _ X3 ⟨rfl, rfl, rfl, J3⟩
  rw [J3] at X3
  refine P.ifNo X3 hx 27 (hb hby d5_24) (by decide) rfl ?_
  refine P.iconst X3 hx 28 1 (hb hby d5_27) rfl rfl ?_
  refine P.goto X3 hx 32 (hb hby d5_28) (by decide) (by decide) ?_
  exact WS.retN X3 (WL' := []) (FL' := []) hx (t := .boolean) hret (by simp) hlk (hb hby d5_32) (nle rfl) (nle rfl) ⟨rfl, rfl, rfl, rfl⟩
def Q_pr001 (Z : State) (gC : Int32) (gF : Value) (x : Addr) (u : Addr) (c0 : Int32) (h : Heap) (v : Option Value) (h' : Heap) (WL' FL' : List Addr) : Prop := v = some (.int 0) ∧ WL' = [] ∧ FL' = [] ∧ h' = h
theorem ct_pr001_0 {l : Launch} {Z : State} {a0 : Array Value} {gC : Int32} {gF : Value} (cx : Cx a0 Z gC gF) {n0 : Nat} (x : Addr) (u : Addr) (c0 : Int32) (h : Heap) (WL FL : List Addr) (P0 : StrL Z h x u [c0]) (hF : (c0 = (9 : Int32) ∨ c0 = (10 : Int32) ∨ c0 = (13 : Int32))) (b0 : c0 = (9 : Int32)) :
    Ct l Z EL1 n0 (⟨"com/example/lynceus/lynceus/Bag", "isPrintable", "(Ljava/lang/String;)Z"⟩ : MethodName) prog_1_method_3_code 1 (Option.some Jvm.ClassFile.FieldType.boolean) ({ frames := 4, cells := 0, slots := 0, locals := 59 } : Room) #[(.ref x)] h WL FL (Q_pr001 Z gC gF x u c0 h) := by
  refine Ct.of (plainFor_of_name pn5) ?_
  intro p e s m below meth c s1 hx hby hml hnm hret hlk X0
  refine Wo.cast (f' := (mkF m 0 #[.val (.ref x)] [])) (by rfl) ?_
  show Wo _ _ _ _ _ _ _ _ _ _ _ s1 (mkF m 0 #[.val (.ref x)] [])
  refine P.aloadN X0 hx 1 (hb hby d5_0) rfl rfl rfl ?_
  refine P.bipush X0 hx 3 9 (hb hby d5_1) rfl rfl ?_
  refine X0.callV hx (w31 cx) (w32 cx) (w34 cx) (w33 cx) (fun _ hZ => nf hZ (w34 cx)) (by decide) P0.1 (Ct.pay (W := 0) (ct_vl11 cx x u c0 (9 : Int32) h _ _ P0 (by decide) b0) (w35 cx) (w7 cx) (nle rfl) (nle rfl)) (by rw [hml]; rfl) (argsL := [.int 9]) (rest := []) (lenOf pd1 rfl) rfl rfl (Nat.le_of_eq rfl) (hb hby d5_3) (nle rfl) (nle rfl) ?_
  rintro T1 h1 _ _ _ X1 ⟨x2, rfl, rfl, rfl, J1, G3⟩
  rw [J1] at X1
  refine P.ifYes X1 hx 31 (hb hby d5_6) ((if0 _ _).trans (flt G3).2.1) (by decide) (by decide) ?_
  refine P.iconst X1 hx 32 0 (hb hby d5_31) rfl rfl ?_
  exact WS.retN X1 (WL' := []) (FL' := []) hx (t := .boolean) hret (by simp) hlk (hb hby d5_32) (nle rfl) (nle rfl) ⟨rfl, rfl, rfl, rfl⟩
theorem ct_pr001_1 {l : Launch} {Z : State} {a0 : Array Value} {gC : Int32} {gF : Value} (cx : Cx a0 Z gC gF) {n0 : Nat} (x : Addr) (u : Addr) (c0 : Int32) (h : Heap) (WL FL : List Addr) (P0 : StrL Z h x u [c0]) (hF : (c0 = (9 : Int32) ∨ c0 = (10 : Int32) ∨ c0 = (13 : Int32))) (a0 : ¬ (c0 = (9 : Int32))) (b1 : c0 = (10 : Int32)) :
    Ct l Z EL1 n0 (⟨"com/example/lynceus/lynceus/Bag", "isPrintable", "(Ljava/lang/String;)Z"⟩ : MethodName) prog_1_method_3_code 1 (Option.some Jvm.ClassFile.FieldType.boolean) ({ frames := 4, cells := 0, slots := 0, locals := 59 } : Room) #[(.ref x)] h WL FL (Q_pr001 Z gC gF x u c0 h) := by
  refine Ct.of (plainFor_of_name pn5) ?_
  intro p e s m below meth c s1 hx hby hml hnm hret hlk X0
  refine Wo.cast (f' := (mkF m 0 #[.val (.ref x)] [])) (by rfl) ?_
  show Wo _ _ _ _ _ _ _ _ _ _ _ s1 (mkF m 0 #[.val (.ref x)] [])
  refine P.aloadN X0 hx 1 (hb hby d5_0) rfl rfl rfl ?_
  refine P.bipush X0 hx 3 9 (hb hby d5_1) rfl rfl ?_
  refine X0.callV hx (w31 cx) (w32 cx) (w34 cx) (w33 cx) (fun _ hZ => nf hZ (w34 cx)) (by decide) P0.1 (Ct.pay (W := 0) (ct_vl10 cx x u c0 (9 : Int32) h _ _ P0 (by decide) a0) (w35 cx) (w7 cx) (nle rfl) (nle rfl)) (by rw [hml]; rfl) (argsL := [.int 9]) (rest := []) (lenOf pd1 rfl) rfl rfl (Nat.le_of_eq rfl) (hb hby d5_3) (nle rfl) (nle rfl) ?_
  rintro T1 h1 _ _ _ X1 ⟨rfl, rfl, rfl, J1⟩
  rw [J1] at X1
  refine P.ifNo X1 hx 9 (hb hby d5_6) (by decide) rfl ?_
  refine P.aloadN X1 hx 10 (hb hby d5_9) rfl rfl rfl ?_
  refine P.bipush X1 hx 12 10 (hb hby d5_10) rfl rfl ?_
  refine X1.callV hx (w31 cx) (w32 cx) (w34 cx) (w33 cx) (fun _ hZ => nf hZ (w34 cx)) (by decide) P0.1 (Ct.pay (W := 0) (ct_vl11 cx x u c0 (10 : Int32) h _ _ P0 (by decide) b1) (w35 cx) (w7 cx) (nle rfl) (nle rfl)) (by rw [hml]; rfl) (argsL := [.int 10]) (rest := []) (lenOf pd1 rfl) rfl rfl (Nat.le_of_eq rfl) (hb hby d5_12) (nle rfl) (nle rfl) ?_
  rintro T2 h2 _ _ _ X2 ⟨x3, rfl, rfl, rfl, J2, G4⟩
  rw [J2] at X2
  refine P.ifYes X2 hx 31 (hb hby d5_15) ((if0 _ _).trans (flt G4).2.1) (by decide) (by decide) ?_
  refine P.iconst X2 hx 32 0 (hb hby d5_31) rfl rfl ?_
  exact WS.retN X2 (WL' := []) (FL' := []) hx (t := .boolean) hret (by simp) hlk (hb hby d5_32) (nle rfl) (nle rfl) ⟨rfl, rfl, rfl, rfl⟩
theorem ct_pr001_2 {l : Launch} {Z : State} {a0 : Array Value} {gC : Int32} {gF : Value} (cx : Cx a0 Z gC gF) {n0 : Nat} (x : Addr) (u : Addr) (c0 : Int32) (h : Heap) (WL FL : List Addr) (P0 : StrL Z h x u [c0]) (hF : (c0 = (9 : Int32) ∨ c0 = (10 : Int32) ∨ c0 = (13 : Int32))) (a0 : ¬ (c0 = (9 : Int32))) (a1 : ¬ (c0 = (10 : Int32))) (b2 : c0 = (13 : Int32)) :
    Ct l Z EL1 n0 (⟨"com/example/lynceus/lynceus/Bag", "isPrintable", "(Ljava/lang/String;)Z"⟩ : MethodName) prog_1_method_3_code 1 (Option.some Jvm.ClassFile.FieldType.boolean) ({ frames := 4, cells := 0, slots := 0, locals := 59 } : Room) #[(.ref x)] h WL FL (Q_pr001 Z gC gF x u c0 h) := by
  refine Ct.of (plainFor_of_name pn5) ?_
  intro p e s m below meth c s1 hx hby hml hnm hret hlk X0
  refine Wo.cast (f' := (mkF m 0 #[.val (.ref x)] [])) (by rfl) ?_
  show Wo _ _ _ _ _ _ _ _ _ _ _ s1 (mkF m 0 #[.val (.ref x)] [])
  refine P.aloadN X0 hx 1 (hb hby d5_0) rfl rfl rfl ?_
  refine P.bipush X0 hx 3 9 (hb hby d5_1) rfl rfl ?_
  refine X0.callV hx (w31 cx) (w32 cx) (w34 cx) (w33 cx) (fun _ hZ => nf hZ (w34 cx)) (by decide) P0.1 (Ct.pay (W := 0) (ct_vl10 cx x u c0 (9 : Int32) h _ _ P0 (by decide) a0) (w35 cx) (w7 cx) (nle rfl) (nle rfl)) (by rw [hml]; rfl) (argsL := [.int 9]) (rest := []) (lenOf pd1 rfl) rfl rfl (Nat.le_of_eq rfl) (hb hby d5_3) (nle rfl) (nle rfl) ?_
  rintro T1 h1 _ _ _ X1 ⟨rfl, rfl, rfl, J1⟩
  rw [J1] at X1
  refine P.ifNo X1 hx 9 (hb hby d5_6) (by decide) rfl ?_
  refine P.aloadN X1 hx 10 (hb hby d5_9) rfl rfl rfl ?_
  refine P.bipush X1 hx 12 10 (hb hby d5_10) rfl rfl ?_
  refine X1.callV hx (w31 cx) (w32 cx) (w34 cx) (w33 cx) (fun _ hZ => nf hZ (w34 cx)) (by decide) P0.1 (Ct.pay (W := 0) (ct_vl10 cx x u c0 (10 : Int32) h _ _ P0 (by decide) a1) (w35 cx) (w7 cx) (nle rfl) (nle rfl)) (by rw [hml]; rfl) (argsL := [.int 10]) (rest := []) (lenOf pd1 rfl) rfl rfl (Nat.le_of_eq rfl) (hb hby d5_12) (nle rfl) (nle rfl) ?_
  rintro T2 h2 _ _ _ X2 ⟨rfl, rfl, rfl, J2⟩
  rw [J2] at X2
  refine P.ifNo X2 hx 18 (hb hby d5_15) (by decide) rfl ?_
  refine P.aloadN X2 hx 19 (hb hby d5_18) rfl rfl rfl ?_
  refine P.bipush X2 hx 21 13 (hb hby d5_19) rfl rfl ?_
  refine X2.callV hx (w31 cx) (w32 cx) (w34 cx) (w33 cx) (fun _ hZ => nf hZ (w34 cx)) (by decide) P0.1 (Ct.pay (W := 0) (ct_vl11 cx x u c0 (13 : Int32) h _ _ P0 (by decide) b2) (w35 cx) (w7 cx) (nle rfl) (nle rfl)) (by rw [hml]; rfl) (argsL := [.int 13]) (rest := []) (lenOf pd1 rfl) rfl rfl (Nat.le_of_eq rfl) (hb hby d5_21) (nle rfl) (nle rfl) ?_
  rintro T3 h3 _ _ _ X3 ⟨x4, rfl, rfl, rfl, J3, G5⟩
  rw [J3] at X3
  refine P.ifYes X3 hx 31 (hb hby d5_24) ((if0 _ _).trans (flt G5).2.1) (by decide) (by decide) ?_
  refine P.iconst X3 hx 32 0 (hb hby d5_31) rfl rfl ?_
  exact WS.retN X3 (WL' := []) (FL' := []) hx (t := .boolean) hret (by simp) hlk (hb hby d5_32) (nle rfl) (nle rfl) ⟨rfl, rfl, rfl, rfl⟩
theorem ct_pr001 {l : Launch} {Z : State} {a0 : Array Value} {gC : Int32} {gF : Value} (cx : Cx a0 Z gC gF) {n0 : Nat} (x : Addr) (u : Addr) (c0 : Int32) (h : Heap) (WL FL : List Addr) (P0 : StrL Z h x u [c0]) (hF : (c0 = (9 : Int32) ∨ c0 = (10 : Int32) ∨ c0 = (13 : Int32))) :
    Ct l Z EL1 n0 (⟨"com/example/lynceus/lynceus/Bag", "isPrintable", "(Ljava/lang/String;)Z"⟩ : MethodName) prog_1_method_3_code 1 (Option.some Jvm.ClassFile.FieldType.boolean) ({ frames := 4, cells := 0, slots := 0, locals := 59 } : Room) #[(.ref x)] h WL FL (Q_pr001 Z gC gF x u c0 h) := by
  by_cases a0 : c0 = (9 : Int32)
  · exact ct_pr001_0 cx x u c0 h WL FL P0 hF a0
  by_cases a1 : c0 = (10 : Int32)
  · exact ct_pr001_1 cx x u c0 h WL FL P0 hF a0 a1
  have b2 : c0 = (13 : Int32) := Decidable.byContradiction fun q => (fun b => b.elim (fun z => a0 z) (fun b => b.elim (fun z => a1 z) (fun z => q z))) hF
  exact ct_pr001_2 cx x u c0 h WL FL P0 hF a0 a1 b2
def Q_pr102 (Z : State) (gC : Int32) (gF : Value) (x : Addr) (u : Addr) (c0 : Int32) (c1 : Int32) (h : Heap) (v : Option Value) (h' : Heap) (WL' FL' : List Addr) : Prop := v = some (.int 1) ∧ WL' = [] ∧ FL' = [] ∧ h' = h
theorem ct_pr102 {l : Launch} {Z : State} {a0 : Array Value} {gC : Int32} {gF : Value} (cx : Cx a0 Z gC gF) {n0 : Nat} (x : Addr) (u : Addr) (c0 : Int32) (c1 : Int32) (h : Heap) (WL FL : List Addr) (P0 : StrL Z h x u [c0, c1]) (hn0 : ¬ (c0 = (9 : Int32) ∨ c0 = (10 : Int32) ∨ c0 = (13 : Int32))) (hn1 : ¬ (c1 = (9 : Int32) ∨ c1 = (10 : Int32) ∨ c1 = (13 : Int32))) :
    Ct l Z EL1 n0 (⟨"com/example/lynceus/lynceus/Bag", "isPrintable", "(Ljava/lang/String;)Z"⟩ : MethodName) prog_1_method_3_code 1 (Option.some Jvm.ClassFile.FieldType.boolean) ({ frames := 4, cells := 0, slots := 0, locals := 59 } : Room) #[(.ref x)] h WL FL (Q_pr102 Z gC gF x u c0 c1 h) := by
  refine Ct.of (plainFor_of_name pn5) ?_
  intro p e s m below meth c s1 hx hby hml hnm hret hlk X0
  refine Wo.cast (f' := (mkF m 0 #[.val (.ref x)] [])) (by rfl) ?_
  show Wo _ _ _ _ _ _ _ _ _ _ _ s1 (mkF m 0 #[.val (.ref x)] [])
  refine P.aloadN X0 hx 1 (hb hby d5_0) rfl rfl rfl ?_
  refine P.bipush X0 hx 3 9 (hb hby d5_1) rfl rfl ?_
  refine X0.callV hx (w31 cx) (w32 cx) (w34 cx) (w33 cx) (fun _ hZ => nf hZ (w34 cx)) (by decide) P0.1 (Ct.pay (W := 0) (ct_vl20 cx x u c0 c1 (9 : Int32) h _ _ P0 (by decide) (fun b => b.elim (fun q => hn0 (Or.inl q)) (fun q => hn1 (Or.inl q)))) (w35 cx) (w7 cx) (nle rfl) (nle rfl)) (by rw [hml]; rfl) (argsL := [.int 9]) (rest := []) (lenOf pd1 rfl) rfl rfl (Nat.le_of_eq rfl) (hb hby d5_3) (nle rfl) (nle rfl) ?_
  rintro T1 h1 _ _ _ X1 ⟨rfl, rfl, rfl, J1⟩
  rw [J1] at X1
  refine P.ifNo X1 hx 9 (hb hby d5_6) (by decide) rfl ?_
  refine P.aloadN X1 hx 10 (hb hby d5_9) rfl rfl rfl ?_
  refine P.bipush X1 hx 12 10 (hb hby d5_10) rfl rfl ?_
  refine X1.callV hx (w31 cx) (w32 cx) (w34 cx) (w33 cx) (fun _ hZ => nf hZ (w34 cx)) (by decide) P0.1 (Ct.pay (W := 0) (ct_vl20 cx x u c0 c1 (10 : Int32) h _ _ P0 (by decide) (fun b => b.elim (fun q => hn0 (Or.inr (Or.inl q))) (fun q => hn1 (Or.inr (Or.inl q))))) (w35 cx) (w7 cx) (nle rfl) (nle rfl)) (by rw [hml]; rfl) (argsL := [.int 10]) (rest := []) (lenOf pd1 rfl) rfl rfl (Nat.le_of_eq rfl) (hb hby d5_12) (nle rfl) (nle rfl) ?_
  rintro T2 h2 _ _ _ X2 ⟨rfl, rfl, rfl, J2⟩
  rw [J2] at X2
  refine P.ifNo X2 hx 18 (hb hby d5_15) (by decide) rfl ?_
  refine P.aloadN X2 hx 19 (hb hby d5_18) rfl rfl rfl ?_
  refine P.bipush X2 hx 21 13 (hb hby d5_19) rfl rfl ?_
  refine X2.callV hx (w31 cx) (w32 cx) (w34 cx) (w33 cx) (fun _ hZ => nf hZ (w34 cx)) (by decide) P0.1 (Ct.pay (W := 0) (ct_vl20 cx x u c0 c1 (13 : Int32) h _ _ P0 (by decide) (fun b => b.elim (fun q => hn0 (Or.inr (Or.inr q))) (fun q => hn1 (Or.inr (Or.inr q))))) (w35 cx) (w7 cx) (nle rfl) (nle rfl)) (by rw [hml]; rfl) (argsL := [.int 13]) (rest := []) (lenOf pd1 rfl) rfl rfl (Nat.le_of_eq rfl) (hb hby d5_21) (nle rfl) (nle rfl) ?_
  rintro T3 h3 _ _ _ X3 ⟨rfl, rfl, rfl, J3⟩
  rw [J3] at X3
  refine P.ifNo X3 hx 27 (hb hby d5_24) (by decide) rfl ?_
  refine P.iconst X3 hx 28 1 (hb hby d5_27) rfl rfl ?_
  refine P.goto X3 hx 32 (hb hby d5_28) (by decide) (by decide) ?_
  exact WS.retN X3 (WL' := []) (FL' := []) hx (t := .boolean) hret (by simp) hlk (hb hby d5_32) (nle rfl) (nle rfl) ⟨rfl, rfl, rfl, rfl⟩
def Q_pr002 (Z : State) (gC : Int32) (gF : Value) (x : Addr) (u : Addr) (c0 : Int32) (c1 : Int32) (h : Heap) (v : Option Value) (h' : Heap) (WL' FL' : List Addr) : Prop := v = some (.int 0) ∧ WL' = [] ∧ FL' = [] ∧ h' = h
theorem ct_pr002_0 {l : Launch} {Z : State} {a0 : Array Value} {gC : Int32} {gF : Value} (cx : Cx a0 Z gC gF) {n0 : Nat} (x : Addr) (u : Addr) (c0 : Int32) (c1 : Int32) (h : Heap) (WL FL : List Addr) (P0 : StrL Z h x u [c0, c1]) (hF : (c0 = (9 : Int32) ∨ c0 = (10 : Int32) ∨ c0 = (13 : Int32)) ∨ (c1 = (9 : Int32) ∨ c1 = (10 : Int32) ∨ c1 = (13 : Int32))) (b0 : c0 = (9 : Int32) ∨ c1 = (9 : Int32)) :
    Ct l Z EL1 n0 (⟨"com/example/lynceus/lynceus/Bag", "isPrintable", "(Ljava/lang/String;)Z"⟩ : MethodName) prog_1_method_3_code 1 (Option.some Jvm.ClassFile.FieldType.boolean) ({ frames := 4, cells := 0, slots := 0, locals := 59 } : Room) #[(.ref x)] h WL FL (Q_pr002 Z gC gF x u c0 c1 h) := by
  refine Ct.of (plainFor_of_name pn5) ?_
  intro p e s m below meth c s1 hx hby hml hnm hret hlk X0
  refine Wo.cast (f' := (mkF m 0 #[.val (.ref x)] [])) (by rfl) ?_
  show Wo _ _ _ _ _ _ _ _ _ _ _ s1 (mkF m 0 #[.val (.ref x)] [])
  refine P.aloadN X0 hx 1 (hb hby d5_0) rfl rfl rfl ?_
  refine P.bipush X0 hx 3 9 (hb hby d5_1) rfl rfl ?_
  refine X0.callV hx (w31 cx) (w32 cx) (w34 cx) (w33 cx) (fun _ hZ => nf hZ (w34 cx)) (by decide) P0.1 (Ct.pay (W := 0) (ct_vl21 cx x u c0 c1 (9 : Int32) h _ _ P0 (by decide) b0) (w35 cx) (w7 cx) (nle rfl) (nle rfl)) (by rw [hml]; rfl) (argsL := [.int 9]) (rest := []) (lenOf pd1 rfl) rfl rfl (Nat.le_of_eq rfl) (hb hby d5_3) (nle rfl) (nle rfl) ?_
  rintro T1 h1 _ _ _ X1 ⟨x2, rfl, rfl, rfl, J1, G3⟩
  rw [J1] at X1
  refine P.ifYes X1 hx 31 (hb hby d5_6) ((if0 _ _).trans (flt G3).2.1) (by decide) (by decide) ?_
  refine P.iconst X1 hx 32 0 (hb hby d5_31) rfl rfl ?_
  exact WS.retN X1 (WL' := []) (FL' := []) hx (t := .boolean) hret (by simp) hlk (hb hby d5_32) (nle rfl) (nle rfl) ⟨rfl, rfl, rfl, rfl⟩
theorem ct_pr002_1 {l : Launch} {Z : State} {a0 : Array Value} {gC : Int32} {gF : Value} (cx : Cx a0 Z gC gF) {n0 : Nat} (x : Addr) (u : Addr) (c0 : Int32) (c1 : Int32) (h : Heap) (WL FL : List Addr) (P0 : StrL Z h x u [c0, c1]) (hF : (c0 = (9 : Int32) ∨ c0 = (10 : Int32) ∨ c0 = (13 : Int32)) ∨ (c1 = (9 : Int32) ∨ c1 = (10 : Int32) ∨ c1 = (13 : Int32))) (a0 : ¬ (c0 = (9 : Int32) ∨ c1 = (9 : Int32))) (b1 : c0 = (10 : Int32) ∨ c1 = (10 : Int32)) :
    Ct l Z EL1 n0 (⟨"com/example/lynceus/lynceus/Bag", "isPrintable", "(Ljava/lang/String;)Z"⟩ : MethodName) prog_1_method_3_code 1 (Option.some Jvm.ClassFile.FieldType.boolean) ({ frames := 4, cells := 0, slots := 0, locals := 59 } : Room) #[(.ref x)] h WL FL (Q_pr002 Z gC gF x u c0 c1 h) := by
  refine Ct.of (plainFor_of_name pn5) ?_
  intro p e s m below meth c s1 hx hby hml hnm hret hlk X0
  refine Wo.cast (f' := (mkF m 0 #[.val (.ref x)] [])) (by rfl) ?_
  show Wo _ _ _ _ _ _ _ _ _ _ _ s1 (mkF m 0 #[.val (.ref x)] [])
  refine P.aloadN X0 hx 1 (hb hby d5_0) rfl rfl rfl ?_
  refine P.bipush X0 hx 3 9 (hb hby d5_1) rfl rfl ?_
  refine X0.callV hx (w31 cx) (w32 cx) (w34 cx) (w33 cx) (fun _ hZ => nf hZ (w34 cx)) (by decide) P0.1 (Ct.pay (W := 0) (ct_vl20 cx x u c0 c1 (9 : Int32) h _ _ P0 (by decide) a0) (w35 cx) (w7 cx) (nle rfl) (nle rfl)) (by rw [hml]; rfl) (argsL := [.int 9]) (rest := []) (lenOf pd1 rfl) rfl rfl (Nat.le_of_eq rfl) (hb hby d5_3) (nle rfl) (nle rfl) ?_
  rintro T1 h1 _ _ _ X1 ⟨rfl, rfl, rfl, J1⟩
  rw [J1] at X1
  refine P.ifNo X1 hx 9 (hb hby d5_6) (by decide) rfl ?_
  refine P.aloadN X1 hx 10 (hb hby d5_9) rfl rfl rfl ?_
  refine P.bipush X1 hx 12 10 (hb hby d5_10) rfl rfl ?_
  refine X1.callV hx (w31 cx) (w32 cx) (w34 cx) (w33 cx) (fun _ hZ => nf hZ (w34 cx)) (by decide) P0.1 (Ct.pay (W := 0) (ct_vl21 cx x u c0 c1 (10 : Int32) h _ _ P0 (by decide) b1) (w35 cx) (w7 cx) (nle rfl) (nle rfl)) (by rw [hml]; rfl) (argsL := [.int 10]) (rest := []) (lenOf pd1 rfl) rfl rfl (Nat.le_of_eq rfl) (hb hby d5_12) (nle rfl) (nle rfl) ?_
  rintro T2 h2 _ _ _ X2 ⟨x3, rfl, rfl, rfl, J2, G4⟩
  rw [J2] at X2
  refine P.ifYes X2 hx 31 (hb hby d5_15) ((if0 _ _).trans (flt G4).2.1) (by decide) (by decide) ?_
  refine P.iconst X2 hx 32 0 (hb hby d5_31) rfl rfl ?_
  exact WS.retN X2 (WL' := []) (FL' := []) hx (t := .boolean) hret (by simp) hlk (hb hby d5_32) (nle rfl) (nle rfl) ⟨rfl, rfl, rfl, rfl⟩
theorem ct_pr002_2 {l : Launch} {Z : State} {a0 : Array Value} {gC : Int32} {gF : Value} (cx : Cx a0 Z gC gF) {n0 : Nat} (x : Addr) (u : Addr) (c0 : Int32) (c1 : Int32) (h : Heap) (WL FL : List Addr) (P0 : StrL Z h x u [c0, c1]) (hF : (c0 = (9 : Int32) ∨ c0 = (10 : Int32) ∨ c0 = (13 : Int32)) ∨ (c1 = (9 : Int32) ∨ c1 = (10 : Int32) ∨ c1 = (13 : Int32))) (a0 : ¬ (c0 = (9 : Int32) ∨ c1 = (9 : Int32))) (a1 : ¬ (c0 = (10 : Int32) ∨ c1 = (10 : Int32))) (b2 : c0 = (13 : Int32) ∨ c1 = (13 : Int32)) :
    Ct l Z EL1 n0 (⟨"com/example/lynceus/lynceus/Bag", "isPrintable", "(Ljava/lang/String;)Z"⟩ : MethodName) prog_1_method_3_code 1 (Option.some Jvm.ClassFile.FieldType.boolean) ({ frames := 4, cells := 0, slots := 0, locals := 59 } : Room) #[(.ref x)] h WL FL (Q_pr002 Z gC gF x u c0 c1 h) := by
  refine Ct.of (plainFor_of_name pn5) ?_
  intro p e s m below meth c s1 hx hby hml hnm hret hlk X0
  refine Wo.cast (f' := (mkF m 0 #[.val (.ref x)] [])) (by rfl) ?_
  show Wo _ _ _ _ _ _ _ _ _ _ _ s1 (mkF m 0 #[.val (.ref x)] [])
  refine P.aloadN X0 hx 1 (hb hby d5_0) rfl rfl rfl ?_
  refine P.bipush X0 hx 3 9 (hb hby d5_1) rfl rfl ?_
  refine X0.callV hx (w31 cx) (w32 cx) (w34 cx) (w33 cx) (fun _ hZ => nf hZ (w34 cx)) (by decide) P0.1 (Ct.pay (W := 0) (ct_vl20 cx x u c0 c1 (9 : Int32) h _ _ P0 (by decide) a0) (w35 cx) (w7 cx) (nle rfl) (nle rfl)) (by rw [hml]; rfl) (argsL := [.int 9]) (rest := []) (lenOf pd1 rfl) rfl rfl (Nat.le_of_eq rfl) (hb hby d5_3) (nle rfl) (nle rfl) ?_
  rintro T1 h1 _ _ _ X1 ⟨rfl, rfl, rfl, J1⟩
  rw [J1] at X1
  refine P.ifNo X1 hx 9 (hb hby d5_6) (by decide) rfl ?_
  refine P.aloadN X1 hx 10 (hb hby d5_9) rfl rfl rfl ?_
  refine P.bipush X1 hx 12 10 (hb hby d5_10) rfl rfl ?_
  refine X1.callV hx (w31 cx) (w32 cx) (w34 cx) (w33 cx) (fun _ hZ => nf hZ (w34 cx)) (by decide) P0.1 (Ct.pay (W := 0) (ct_vl20 cx x u c0 c1 (10 : Int32) h _ _ P0 (by decide) a1) (w35 cx) (w7 cx) (nle rfl) (nle rfl)) (by rw [hml]; rfl) (argsL := [.int 10]) (rest := []) (lenOf pd1 rfl) rfl rfl (Nat.le_of_eq rfl) (hb hby d5_12) (nle rfl) (nle rfl) ?_
  rintro T2 h2 _ _ _ X2 ⟨rfl, rfl, rfl, J2⟩
  rw [J2] at X2
  refine P.ifNo X2 hx 18 (hb hby d5_15) (by decide) rfl ?_
  refine P.aloadN X2 hx 19 (hb hby d5_18) rfl rfl rfl ?_
  refine P.bipush X2 hx 21 13 (hb hby d5_19) rfl rfl ?_
  refine X2.callV hx (w31 cx) (w32 cx) (w34 cx) (w33 cx) (fun _ hZ => nf hZ (w34 cx)) (by decide) P0.1 (Ct.pay (W := 0) (ct_vl21 cx x u c0 c1 (13 : Int32) h _ _ P0 (by decide) b2) (w35 cx) (w7 cx) (nle rfl) (nle rfl)) (by rw [hml]; rfl) (argsL := [.int 13]) (rest := []) (lenOf pd1 rfl) rfl rfl (Nat.le_of_eq rfl) (hb hby d5_21) (nle rfl) (nle rfl) ?_
  rintro T3 h3 _ _ _ X3 ⟨x4, rfl, rfl, rfl, J3, G5⟩
  rw [J3] at X3
  refine P.ifYes X3 hx 31 (hb hby d5_24) ((if0 _ _).trans (flt G5).2.1) (by decide) (by decide) ?_
  refine P.iconst X3 hx 32 0 (hb hby d5_31) rfl rfl ?_
  exact WS.retN X3 (WL' := []) (FL' := []) hx (t := .boolean) hret (by simp) hlk (hb hby d5_32) (nle rfl) (nle rfl) ⟨rfl, rfl, rfl, rfl⟩
theorem ct_pr002 {l : Launch} {Z : State} {a0 : Array Value} {gC : Int32} {gF : Value} (cx : Cx a0 Z gC gF) {n0 : Nat} (x : Addr) (u : Addr) (c0 : Int32) (c1 : Int32) (h : Heap) (WL FL : List Addr) (P0 : StrL Z h x u [c0, c1]) (hF : (c0 = (9 : Int32) ∨ c0 = (10 : Int32) ∨ c0 = (13 : Int32)) ∨ (c1 = (9 : Int32) ∨ c1 = (10 : Int32) ∨ c1 = (13 : Int32))) :
    Ct l Z EL1 n0 (⟨"com/example/lynceus/lynceus/Bag", "isPrintable", "(Ljava/lang/String;)Z"⟩ : MethodName) prog_1_method_3_code 1 (Option.some Jvm.ClassFile.FieldType.boolean) ({ frames := 4, cells := 0, slots := 0, locals := 59 } : Room) #[(.ref x)] h WL FL (Q_pr002 Z gC gF x u c0 c1 h) := by
  by_cases a0 : c0 = (9 : Int32) ∨ c1 = (9 : Int32)
  · exact ct_pr002_0 cx x u c0 c1 h WL FL P0 hF a0
  by_cases a1 : c0 = (10 : Int32) ∨ c1 = (10 : Int32)
  · exact ct_pr002_1 cx x u c0 c1 h WL FL P0 hF a0 a1
  have b2 : c0 = (13 : Int32) ∨ c1 = (13 : Int32) := Decidable.byContradiction fun q => (fun b => b.elim (fun b => b.elim (fun z => a0 (Or.inl z)) (fun b => b.elim (fun z => a1 (Or.inl z)) (fun z => q (Or.inl z)))) (fun b => b.elim (fun z => a0 (Or.inr z)) (fun b => b.elim (fun z => a1 (Or.inr z)) (fun z => q (Or.inr z))))) hF
  exact ct_pr002_2 cx x u c0 c1 h WL FL P0 hF a0 a1 b2
def Q_pr103 (Z : State) (gC : Int32) (gF : Value) (x : Addr) (u : Addr) (c0 : Int32) (c1 : Int32) (c2 : Int32) (h : Heap) (v : Option Value) (h' : Heap) (WL' FL' : List Addr) : Prop := v = some (.int 1) ∧ WL' = [] ∧ FL' = [] ∧ h' = h
theorem ct_pr103 {l : Launch} {Z : State} {a0 : Array Value} {gC : Int32} {gF : Value} (cx : Cx a0 Z gC gF) {n0 : Nat} (x : Addr) (u : Addr) (c0 : Int32) (c1 : Int32) (c2 : Int32) (h : Heap) (WL FL : List Addr) (P0 : StrL Z h x u [c0, c1, c2]) (hn0 : ¬ (c0 = (9 : Int32) ∨ c0 = (10 : Int32) ∨ c0 = (13 : Int32))) (hn1 : ¬ (c1 = (9 : Int32) ∨ c1 = (10 : Int32) ∨ c1 = (13 : Int32))) (hn2 : ¬ (c2 = (9 : Int32) ∨ c2 = (10 : Int32) ∨ c2 = (13 : Int32))) :
    Ct l Z EL1 n0 (⟨"com/example/lynceus/lynceus/Bag", "isPrintable", "(Ljava/lang/String;)Z"⟩ : MethodName) prog_1_method_3_code 1 (Option.some Jvm.ClassFile.FieldType.boolean) ({ frames := 4, cells := 0, slots := 0, locals := 59 } : Room) #[(.ref x)] h WL FL (Q_pr103 Z gC gF x u c0 c1 c2 h) := by
  refine Ct.of (plainFor_of_name pn5) ?_
  intro p e s m below meth c s1 hx hby hml hnm hret hlk X0
  refine Wo.cast (f' := (mkF m 0 #[.val (.ref x)] [])) (by rfl) ?_
  show Wo _ _ _ _ _ _ _ _ _ _ _ s1 (mkF m 0 #[.val (.ref x)] [])
  refine P.aloadN X0 hx 1 (hb hby d5_0) rfl rfl rfl ?_
  refine P.bipush X0 hx 3 9 (hb hby d5_1) rfl rfl ?_
  refine X0.callV hx (w31 cx) (w32 cx) (w34 cx) (w33 cx) (fun _ hZ => nf hZ (w34 cx)) (by decide) P0.1 (Ct.pay (W := 0) (ct_vl30 cx x u c0 c1 c2 (9 : Int32) h _ _ P0 (by decide) (fun b => b.elim (fun q => hn0 (Or.inl q)) (fun b => b.elim (fun q => hn1 (Or.inl q)) (fun q => hn2 (Or.inl q))))) (w35 cx) (w7 cx) (nle rfl) (nle rfl)) (by rw [hml]; rfl) (argsL := [.int 9]) (rest := []) (lenOf pd1 rfl) rfl rfl (Nat.le_of_eq rfl) (hb hby d5_3) (nle rfl) (nle rfl) ?_
  rintro T1 h1 _ _ _ X1 ⟨rfl, rfl, rfl, J1⟩
  rw [J1] at X1
  refine P.ifNo X1 hx 9 (hb hby d5_6) (by decide) rfl ?_
  refine P.aloadN X1 hx 10 (hb hby d5_9) rfl rfl rfl ?_
  refine P.bipush X1 hx 12 10 (hb hby d5_10) rfl rfl ?_
  refine X1.callV hx (w31 cx) (w32 cx) (w34 cx) (w33 cx) (fun _ hZ => nf hZ (w34 cx)) (by decide) P0.1 (Ct.pay (W := 0) (ct_vl30 cx x u c0 c1 c2 (10 : Int32) h _ _ P0 (by decide) (fun b => b.elim (fun q => hn0 (Or.inr (Or.inl q))) (fun b => b.elim (fun q => hn1 (Or.inr (Or.inl q))) (fun q => hn2 (Or.inr (Or.inl q)))))) (w35 cx) (w7 cx) (nle rfl) (nle rfl)) (by rw [hml]; rfl) (argsL := [.int 10]) (rest := []) (lenOf pd1 rfl) rfl rfl (Nat.le_of_eq rfl) (hb hby d5_12) (nle rfl) (nle rfl) ?_
  rintro T2 h2 _ _ _ X2 ⟨rfl, rfl, rfl, J2⟩
  rw [J2] at X2
  refine P.ifNo X2 hx 18 (hb hby d5_15) (by decide) rfl ?_
  refine P.aloadN X2 hx 19 (hb hby d5_18) rfl rfl rfl ?_
  refine P.bipush X2 hx 21 13 (hb hby d5_19) rfl rfl ?_
  refine X2.callV hx (w31 cx) (w32 cx) (w34 cx) (w33 cx) (fun _ hZ => nf hZ (w34 cx)) (by decide) P0.1 (Ct.pay (W := 0) (ct_vl30 cx x u c0 c1 c2 (13 : Int32) h _ _ P0 (by decide) (fun b => b.elim (fun q => hn0 (Or.inr (Or.inr q))) (fun b => b.elim (fun q => hn1 (Or.inr (Or.inr q))) (fun q => hn2 (Or.inr (Or.inr q)))))) (w35 cx) (w7 cx) (nle rfl) (nle rfl)) (by rw [hml]; rfl) (argsL := [.int 13]) (rest := []) (lenOf pd1 rfl) rfl rfl (Nat.le_of_eq rfl) (hb hby d5_21) (nle rfl) (nle rfl) ?_
  rintro T3 h3 _ _ _ X3 ⟨rfl, rfl, rfl, J3⟩
  rw [J3] at X3
  refine P.ifNo X3 hx 27 (hb hby d5_24) (by decide) rfl ?_
  refine P.iconst X3 hx 28 1 (hb hby d5_27) rfl rfl ?_
  refine P.goto X3 hx 32 (hb hby d5_28) (by decide) (by decide) ?_
  exact WS.retN X3 (WL' := []) (FL' := []) hx (t := .boolean) hret (by simp) hlk (hb hby d5_32) (nle rfl) (nle rfl) ⟨rfl, rfl, rfl, rfl⟩
def Q_pr003 (Z : State) (gC : Int32) (gF : Value) (x : Addr) (u : Addr) (c0 : Int32) (c1 : Int32) (c2 : Int32) (h : Heap) (v : Option Value) (h' : Heap) (WL' FL' : List Addr) : Prop := v = some (.int 0) ∧ WL' = [] ∧ FL' = [] ∧ h' = h
theorem ct_pr003_0 {l : Launch} {Z : State} {a0 : Array Value} {gC : Int32} {gF : Value} (cx : Cx a0 Z gC gF) {n0 : Nat} (x : Addr) (u : Addr) (c0 : Int32) (c1 : Int32) (c2 : Int32) (h : Heap) (WL FL : List Addr) (P0 : StrL Z h x u [c0, c1, c2]) (hF : (c0 = (9 : Int32) ∨ c0 = (10 : Int32) ∨ c0 = (13 : Int32)) ∨ (c1 = (9 : Int32) ∨ c1 = (10 : Int32) ∨ c1 = (13 : Int32)) ∨ (c2 = (9 : Int32) ∨ c2 = (10 : Int32) ∨ c2 = (13 : Int32))) (b0 : c0 = (9 : Int32) ∨ c1 = (9 : Int32) ∨ c2 = (9 : Int32)) :
    Ct l Z EL1 n0 (⟨"com/example/lynceus/lynceus/Bag", "isPrintable", "(Ljava/lang/String;)Z"⟩ : MethodName) prog_1_method_3_code 1 (Option.some Jvm.ClassFile.FieldType.boolean) ({ frames := 4, cells := 0, slots := 0, locals := 59 } : Room) #[(.ref x)] h WL FL (Q_pr003 Z gC gF x u c0 c1 c2 h) := by
  refine Ct.of (plainFor_of_name pn5) ?_
  intro p e s m below meth c s1 hx hby hml hnm hret hlk X0
  refine Wo.cast (f' := (mkF m 0 #[.val (.ref x)] [])) (by rfl) ?_
  show Wo _ _ _ _ _ _ _ _ _ _ _ s1 (mkF m 0 #[.val (.ref x)] [])
  refine P.aloadN X0 hx 1 (hb hby d5_0) rfl rfl rfl ?_
  refine P.bipush X0 hx 3 9 (hb hby d5_1) rfl rfl ?_
  refine X0.callV hx (w31 cx) (w32 cx) (w34 cx) (w33 cx) (fun _ hZ => nf hZ (w34 cx)) (by decide) P0.1 (Ct.pay (W := 0) (ct_vl31 cx x u c0 c1 c2 (9 : Int32) h _ _ P0 (by decide) b0) (w35 cx) (w7 cx) (nle rfl) (nle rfl)) (by rw [hml]; rfl) (argsL := [.int 9]) (rest := []) (lenOf pd1 rfl) rfl rfl (Nat.le_of_eq rfl) (hb hby d5_3) (nle rfl) (nle rfl) ?_
  rintro T1 h1 _ _ _ X1 ⟨x2, rfl, rfl, rfl, J1, G3⟩
  rw [J1] at X1
  refine P.ifYes X1 hx 31 (hb hby d5_6) ((if0 _ _).trans (flt G3).2.1) (by decide) (by decide) ?_
  refine P.iconst X1 hx 32 0 (hb hby d5_31) rfl rfl ?_
  exact WS.retN X1 (WL' := []) (FL' := []) hx (t := .boolean) hret (by simp) hlk (hb hby d5_32) (nle rfl) (nle rfl) ⟨rfl, rfl, rfl, rfl⟩
theorem ct_pr003_1 {l : Launch} {Z : State} {a0 : Array Value} {gC : Int32} {gF : Value} (cx : Cx a0 Z gC gF) {n0 : Nat} (x : Addr) (u : Addr) (c0 : Int32) (c1 : Int32) (c2 : Int32) (h : Heap) (WL FL : List Addr) (P0 : StrL Z h x u [c0, c1, c2]) (hF : (c0 = (9 : Int32) ∨ c0 = (10 : Int32) ∨ c0 = (13 : Int32)) ∨ (c1 = (9 : Int32) ∨ c1 = (10 : Int32) ∨ c1 = (13 : Int32)) ∨ (c2 = (9 : Int32) ∨ c2 = (10 : Int32) ∨ c2 = (13 : Int32))) (a0 : ¬ (c0 = (9 : Int32) ∨ c1 = (9 : Int32) ∨ c2 = (9 : Int32))) (b1 : c0 = (10 : Int32) ∨ c1 = (10 : Int32) ∨ c2 = (10 : Int32)) :
    Ct l Z EL1 n0 (⟨"com/example/lynceus/lynceus/Bag", "isPrintable", "(Ljava/lang/String;)Z"⟩ : MethodName) prog_1_method_3_code 1 (Option.some Jvm.ClassFile.FieldType.boolean) ({ frames := 4, cells := 0, slots := 0, locals := 59 } : Room) #[(.ref x)] h WL FL (Q_pr003 Z gC gF x u c0 c1 c2 h) := by
  refine Ct.of (plainFor_of_name pn5) ?_
  intro p e s m below meth c s1 hx hby hml hnm hret hlk X0
  refine Wo.cast (f' := (mkF m 0 #[.val (.ref x)] [])) (by rfl) ?_
  show Wo _ _ _ _ _ _ _ _ _ _ _ s1 (mkF m 0 #[.val (.ref x)] [])
  refine P.aloadN X0 hx 1 (hb hby d5_0) rfl rfl rfl ?_
  refine P.bipush X0 hx 3 9 (hb hby d5_1) rfl rfl ?_
  refine X0.callV hx (w31 cx) (w32 cx) (w34 cx) (w33 cx) (fun _ hZ => nf hZ (w34 cx)) (by decide) P0.1 (Ct.pay (W := 0) (ct_vl30 cx x u c0 c1 c2 (9 : Int32) h _ _ P0 (by decide) a0) (w35 cx) (w7 cx) (nle rfl) (nle rfl)) (by rw [hml]; rfl) (argsL := [.int 9]) (rest := []) (lenOf pd1 rfl) rfl rfl (Nat.le_of_eq rfl) (hb hby d5_3) (nle rfl) (nle rfl) ?_
  rintro T1 h1 _ _ _ X1 ⟨rfl, rfl, rfl, J1⟩
  rw [J1] at X1
  refine P.ifNo X1 hx 9 (hb hby d5_6) (by decide) rfl ?_
  refine P.aloadN X1 hx 10 (hb hby d5_9) rfl rfl rfl ?_
  refine P.bipush X1 hx 12 10 (hb hby d5_10) rfl rfl ?_
  refine X1.callV hx (w31 cx) (w32 cx) (w34 cx) (w33 cx) (fun _ hZ => nf hZ (w34 cx)) (by decide) P0.1 (Ct.pay (W := 0) (ct_vl31 cx x u c0 c1 c2 (10 : Int32) h _ _ P0 (by decide) b1) (w35 cx) (w7 cx) (nle rfl) (nle rfl)) (by rw [hml]; rfl) (argsL := [.int 10]) (rest := []) (lenOf pd1 rfl) rfl rfl (Nat.le_of_eq rfl) (hb hby d5_12) (nle rfl) (nle rfl) ?_
  rintro T2 h2 _ _ _ X2 ⟨x3, rfl, rfl, rfl, J2, G4⟩
  rw [J2] at X2
  refine P.ifYes X2 hx 31 (hb hby d5_15) ((if0 _ _).trans (flt G4).2.1) (by decide) (by decide) ?_
  refine P.iconst X2 hx 32 0 (hb hby d5_31) rfl rfl ?_
  exact WS.retN X2 (WL' := []) (FL' := []) hx (t := .boolean) hret (by simp) hlk (hb hby d5_32) (nle rfl) (nle rfl) ⟨rfl, rfl, rfl, rfl⟩
theorem ct_pr003_2 {l : Launch} {Z : State} {a0 : Array Value} {gC : Int32} {gF : Value} (cx : Cx a0 Z gC gF) {n0 : Nat} (x : Addr) (u : Addr) (c0 : Int32) (c1 : Int32) (c2 : Int32) (h : Heap) (WL FL : List Addr) (P0 : StrL Z h x u [c0, c1, c2]) (hF : (c0 = (9 : Int32) ∨ c0 = (10 : Int32) ∨ c0 = (13 : Int32)) ∨ (c1 = (9 : Int32) ∨ c1 = (10 : Int32) ∨ c1 = (13 : Int32)) ∨ (c2 = (9 : Int32) ∨ c2 = (10 : Int32) ∨ c2 = (13 : Int32))) (a0 : ¬ (c0 = (9 : Int32) ∨ c1 = (9 : Int32) ∨ c2 = (9 : Int32))) (a1 : ¬ (c0 = (10 : Int32) ∨ c1 = (10 : Int32) ∨ c2 = (10 : Int32))) (b2 : c0 = (13 : Int32) ∨ c1 = (13 : Int32) ∨ c2 = (13 : Int32)) :
    Ct l Z EL1 n0 (⟨"com/example/lynceus/lynceus/Bag", "isPrintable", "(Ljava/lang/String;)Z"⟩ : MethodName) prog_1_method_3_code 1 (Option.some Jvm.ClassFile.FieldType.boolean) ({ frames := 4, cells := 0, slots := 0, locals := 59 } : Room) #[(.ref x)] h WL FL (Q_pr003 Z gC gF x u c0 c1 c2 h) := by
  refine Ct.of (plainFor_of_name pn5) ?_
  intro p e s m below meth c s1 hx hby hml hnm hret hlk X0
  refine Wo.cast (f' := (mkF m 0 #[.val (.ref x)] [])) (by rfl) ?_
  show Wo _ _ _ _ _ _ _ _ _ _ _ s1 (mkF m 0 #[.val (.ref x)] [])
  refine P.aloadN X0 hx 1 (hb hby d5_0) rfl rfl rfl ?_
  refine P.bipush X0 hx 3 9 (hb hby d5_1) rfl rfl ?_
  refine X0.callV hx (w31 cx) (w32 cx) (w34 cx) (w33 cx) (fun _ hZ => nf hZ (w34 cx)) (by decide) P0.1 (Ct.pay (W := 0) (ct_vl30 cx x u c0 c1 c2 (9 : Int32) h _ _ P0 (by decide) a0) (w35 cx) (w7 cx) (nle rfl) (nle rfl)) (by rw [hml]; rfl) (argsL := [.int 9]) (rest := []) (lenOf pd1 rfl) rfl rfl (Nat.le_of_eq rfl) (hb hby d5_3) (nle rfl) (nle rfl) ?_
  rintro T1 h1 _ _ _ X1 ⟨rfl, rfl, rfl, J1⟩
  rw [J1] at X1
  refine P.ifNo X1 hx 9 (hb hby d5_6) (by decide) rfl ?_
  refine P.aloadN X1 hx 10 (hb hby d5_9) rfl rfl rfl ?_
  refine P.bipush X1 hx 12 10 (hb hby d5_10) rfl rfl ?_
  refine X1.callV hx (w31 cx) (w32 cx) (w34 cx) (w33 cx) (fun _ hZ => nf hZ (w34 cx)) (by decide) P0.1 (Ct.pay (W := 0) (ct_vl30 cx x u c0 c1 c2 (10 : Int32) h _ _ P0 (by decide) a1) (w35 cx) (w7 cx) (nle rfl) (nle rfl)) (by rw [hml]; rfl) (argsL := [.int 10]) (rest := []) (lenOf pd1 rfl) rfl rfl (Nat.le_of_eq rfl) (hb hby d5_12) (nle rfl) (nle rfl) ?_
  rintro T2 h2 _ _ _ X2 ⟨rfl, rfl, rfl, J2⟩
  rw [J2] at X2
  refine P.ifNo X2 hx 18 (hb hby d5_15) (by decide) rfl ?_
  refine P.aloadN X2 hx 19 (hb hby d5_18) rfl rfl rfl ?_
  refine P.bipush X2 hx 21 13 (hb hby d5_19) rfl rfl ?_
  refine X2.callV hx (w31 cx) (w32 cx) (w34 cx) (w33 cx) (fun _ hZ => nf hZ (w34 cx)) (by decide) P0.1 (Ct.pay (W := 0) (ct_vl31 cx x u c0 c1 c2 (13 : Int32) h _ _ P0 (by decide) b2) (w35 cx) (w7 cx) (nle rfl) (nle rfl)) (by rw [hml]; rfl) (argsL := [.int 13]) (rest := []) (lenOf pd1 rfl) rfl rfl (Nat.le_of_eq rfl) (hb hby d5_21) (nle rfl) (nle rfl) ?_
  rintro T3 h3 _ _ _ X3 ⟨x4, rfl, rfl, rfl, J3, G5⟩
  rw [J3] at X3
  refine P.ifYes X3 hx 31 (hb hby d5_24) ((if0 _ _).trans (flt G5).2.1) (by decide) (by decide) ?_
  refine P.iconst X3 hx 32 0 (hb hby d5_31) rfl rfl ?_
  exact WS.retN X3 (WL' := []) (FL' := []) hx (t := .boolean) hret (by simp) hlk (hb hby d5_32) (nle rfl) (nle rfl) ⟨rfl, rfl, rfl, rfl⟩
theorem ct_pr003 {l : Launch} {Z : State} {a0 : Array Value} {gC : Int32} {gF : Value} (cx : Cx a0 Z gC gF) {n0 : Nat} (x : Addr) (u : Addr) (c0 : Int32) (c1 : Int32) (c2 : Int32) (h : Heap) (WL FL : List Addr) (P0 : StrL Z h x u [c0, c1, c2]) (hF : (c0 = (9 : Int32) ∨ c0 = (10 : Int32) ∨ c0 = (13 : Int32)) ∨ (c1 = (9 : Int32) ∨ c1 = (10 : Int32) ∨ c1 = (13 : Int32)) ∨ (c2 = (9 : Int32) ∨ c2 = (10 : Int32) ∨ c2 = (13 : Int32))) :
    Ct l Z EL1 n0 (⟨"com/example/lynceus/lynceus/Bag", "isPrintable", "(Ljava/lang/String;)Z"⟩ : MethodName) prog_1_method_3_code 1 (Option.some Jvm.ClassFile.FieldType.boolean) ({ frames := 4, cells := 0, slots := 0, locals := 59 } : Room) #[(.ref x)] h WL FL (Q_pr003 Z gC gF x u c0 c1 c2 h) := by
  by_cases a0 : c0 = (9 : Int32) ∨ c1 = (9 : Int32) ∨ c2 = (9 : Int32)
  · exact ct_pr003_0 cx x u c0 c1 c2 h WL FL P0 hF a0
  by_cases a1 : c0 = (10 : Int32) ∨ c1 = (10 : Int32) ∨ c2 = (10 : Int32)
  · exact ct_pr003_1 cx x u c0 c1 c2 h WL FL P0 hF a0 a1
  have b2 : c0 = (13 : Int32) ∨ c1 = (13 : Int32) ∨ c2 = (13 : Int32) := Decidable.byContradiction fun q => (fun b => b.elim (fun b => b.elim (fun z => a0 (Or.inl z)) (fun b => b.elim (fun z => a1 (Or.inl z)) (fun z => q (Or.inl z)))) (fun b => b.elim (fun b => b.elim (fun z => a0 (Or.inr (Or.inl z))) (fun b => b.elim (fun z => a1 (Or.inr (Or.inl z))) (fun z => q (Or.inr (Or.inl z))))) (fun b => b.elim (fun z => a0 (Or.inr (Or.inr z))) (fun b => b.elim (fun z => a1 (Or.inr (Or.inr z))) (fun z => q (Or.inr (Or.inr z))))))) hF
  exact ct_pr003_2 cx x u c0 c1 c2 h WL FL P0 hF a0 a1 b2
def Q_pr111 (Z : State) (gC : Int32) (gF : Value) (x : Addr) (u : Addr) (ku : ClassId) (c0 : Int32) (h : Heap) (v : Option Value) (h' : Heap) (WL' FL' : List Addr) : Prop := v = some (.int 1) ∧ WL' = [] ∧ FL' = [] ∧ h' = h
theorem ct_pr111 {l : Launch} {Z : State} {a0 : Array Value} {gC : Int32} {gF : Value} (cx : Cx a0 Z gC gF) {n0 : Nat} (x : Addr) (u : Addr) (ku : ClassId) (c0 : Int32) (h : Heap) (WL FL : List Addr) (P0 : Exa Z h x "java/lang/String") (P1 : Fld Z h x "java/lang/String" "value" "[B" (.ref u)) (P2 : Fld Z h x "java/lang/String" "coder" "B" (.int 1)) (P3 : Arv Z h u ku .byte (2 : Int32) [(.int (c0.toInt8.toInt32)), (.int ((c0 >>> ((8 : Int32) &&& 31)).toInt8.toInt32))] (.int 0)) (hr_c0 : ¬ c0 < 0 ∧ ¬ (65535 : Int32) < c0) (hn0 : ¬ (c0 = (9 : Int32) ∨ c0 = (10 : Int32) ∨ c0 = (13 : Int32))) :
    Ct l Z EL1 n0 (⟨"com/example/lynceus/lynceus/Bag", "isPrintable", "(Ljava/lang/String;)Z"⟩ : MethodName) prog_1_method_3_code 1 (Option.some Jvm.ClassFile.FieldType.boolean) ({ frames := 7, cells := 0, slots := 0, locals := 100 } : Room) #[(.ref x)] h WL FL (Q_pr111 Z gC gF x u ku c0 h) := by
  refine Ct.of (plainFor_of_name pn5) ?_
  intro p e s m below meth c s1 hx hby hml hnm hret hlk X0
  refine Wo.cast (f' := (mkF m 0 #[.val (.ref x)] [])) (by rfl) ?_
  show Wo _ _ _ _ _ _ _ _ _ _ _ s1 (mkF m 0 #[.val (.ref x)] [])
  refine P.aloadN X0 hx 1 (hb hby d5_0) rfl rfl rfl ?_
  refine P.bipush X0 hx 3 9 (hb hby d5_1) rfl rfl ?_
  refine X0.callV hx (w31 cx) (w32 cx) (w34 cx) (w33 cx) (fun _ hZ => nf hZ (w34 cx)) (by decide) P0 (Ct.pay (W := 0) (ct_vu10 cx x u ku c0 (9 : Int32) h _ _ P0 P1 P2 P3 hr_c0 (by decide) (fun q => hn0 (Or.inl q))) (w35 cx) (w7 cx) (nle rfl) (nle rfl)) (by rw [hml]; rfl) (argsL := [.int 9]) (rest := []) (lenOf pd1 rfl) rfl rfl (Nat.le_of_eq rfl) (hb hby d5_3) (nle rfl) (nle rfl) ?_
  rintro T1 h1 _ _ _ X1 ⟨rfl, rfl, rfl, J1⟩
  rw [J1] at X1
  refine P.ifNo X1 hx 9 (hb hby d5_6) (by decide) rfl ?_
  refine P.aloadN X1 hx 10 (hb hby d5_9) rfl rfl rfl ?_
  refine P.bipush X1 hx 12 10 (hb hby d5_10) rfl rfl ?_
  refine X1.callV hx (w31 cx) (w32 cx) (w34 cx) (w33 cx) (fun _ hZ => nf hZ (w34 cx)) (by decide) P0 (Ct.pay (W := 0) (ct_vu10 cx x u ku c0 (10 : Int32) h _ _ P0 P1 P2 P3 hr_c0 (by decide) (fun q => hn0 (Or.inr (Or.inl q)))) (w35 cx) (w7 cx) (nle rfl) (nle rfl)) (by rw [hml]; rfl) (argsL := [.int 10]) (rest := []) (lenOf pd1 rfl) rfl rfl (Nat.le_of_eq rfl) (hb hby d5_12) (nle rfl) (nle rfl) ?_
  rintro T2 h2 _ _ _ X2 ⟨rfl, rfl, rfl, J2⟩
  rw [J2] at X2
  refine P.ifNo X2 hx 18 (hb hby d5_15) (by decide) rfl ?_
  refine P.aloadN X2 hx 19 (hb hby d5_18) rfl rfl rfl ?_
  refine P.bipush X2 hx 21 13 (hb hby d5_19) rfl rfl ?_
  refine X2.callV hx (w31 cx) (w32 cx) (w34 cx) (w33 cx) (fun _ hZ => nf hZ (w34 cx)) (by decide) P0 (Ct.pay (W := 0) (ct_vu10 cx x u ku c0 (13 : Int32) h _ _ P0 P1 P2 P3 hr_c0 (by decide) (fun q => hn0 (Or.inr (Or.inr q)))) (w35 cx) (w7 cx) (nle rfl) (nle rfl)) (by rw [hml]; rfl) (argsL := [.int 13]) (rest := []) (lenOf pd1 rfl) rfl rfl (Nat.le_of_eq rfl) (hb hby d5_21) (nle rfl) (nle rfl) ?_
  rintro T3 h3 _ _ _ X3 ⟨rfl, rfl, rfl, J3⟩
  rw [J3] at X3
  refine P.ifNo X3 hx 27 (hb hby d5_24) (by decide) rfl ?_
  refine P.iconst X3 hx 28 1 (hb hby d5_27) rfl rfl ?_
  refine P.goto X3 hx 32 (hb hby d5_28) (by decide) (by decide) ?_
  exact WS.retN X3 (WL' := []) (FL' := []) hx (t := .boolean) hret (by simp) hlk (hb hby d5_32) (nle rfl) (nle rfl) ⟨rfl, rfl, rfl, rfl⟩
def Q_pr011 (Z : State) (gC : Int32) (gF : Value) (x : Addr) (u : Addr) (ku : ClassId) (c0 : Int32) (h : Heap) (v : Option Value) (h' : Heap) (WL' FL' : List Addr) : Prop := v = some (.int 0) ∧ WL' = [] ∧ FL' = [] ∧ h' = h
theorem ct_pr011_0 {l : Launch} {Z : State} {a0 : Array Value} {gC : Int32} {gF : Value} (cx : Cx a0 Z gC gF) {n0 : Nat} (x : Addr) (u : Addr) (ku : ClassId) (c0 : Int32) (h : Heap) (WL FL : List Addr) (P0 : Exa Z h x "java/lang/String") (P1 : Fld Z h x "java/lang/String" "value" "[B" (.ref u)) (P2 : Fld Z h x "java/lang/String" "coder" "B" (.int 1)) (P3 : Arv Z h u ku .byte (2 : Int32) [(.int (c0.toInt8.toInt32)), (.int ((c0 >>> ((8 : Int32) &&& 31)).toInt8.toInt32))] (.int 0)) (hr_c0 : ¬ c0 < 0 ∧ ¬ (65535 : Int32) < c0) (hF : (c0 = (9 : Int32) ∨ c0 = (10 : Int32) ∨ c0 = (13 : Int32))) (b0 : c0 = (9 : Int32)) :
    Ct l Z EL1 n0 (⟨"com/example/lynceus/lynceus/Bag", "isPrintable", "(Ljava/lang/String;)Z"⟩ : MethodName) prog_1_method_3_code 1 (Option.some Jvm.ClassFile.FieldType.boolean) ({ frames := 7, cells := 0, slots := 0, locals := 100 } : Room) #[(.ref x)] h WL FL (Q_pr011 Z gC gF x u ku c0 h) := by
  refine Ct.of (plainFor_of_name pn5) ?_
  intro p e s m below meth c s1 hx hby hml hnm hret hlk X0
  refine Wo.cast (f' := (mkF m 0 #[.val (.ref x)] [])) (by rfl) ?_
  show Wo _ _ _ _ _ _ _ _ _ _ _ s1 (mkF m 0 #[.val (.ref x)] [])
  refine P.aloadN X0 hx 1 (hb hby d5_0) rfl rfl rfl ?_
  refine P.bipush X0 hx 3 9 (hb hby d5_1) rfl rfl ?_
  refine X0.callV hx (w31 cx) (w32 cx) (w34 cx) (w33 cx) (fun _ hZ => nf hZ (w34 cx)) (by decide) P0 (Ct.pay (W := 0) (ct_vu11 cx x u ku c0 (9 : Int32) h _ _ P0 P1 P2 P3 hr_c0 (by decide) b0) (w35 cx) (w7 cx) (nle rfl) (nle rfl)) (by rw [hml]; rfl) (argsL := [.int 9]) (rest := []) (lenOf pd1 rfl) rfl rfl (Nat.le_of_eq rfl) (hb hby d5_3) (nle rfl) (nle rfl) ?_
  rintro T1 h1 _ _ _ X1 ⟨x2, rfl, rfl, rfl, J1, G3⟩
  rw [J1] at X1
  refine P.ifYes X1 hx 31 (hb hby d5_6) ((if0 _ _).trans (flt G3).2.1) (by decide) (by decide) ?_
  refine P.iconst X1 hx 32 0 (hb hby d5_31) rfl rfl ?_
  exact WS.retN X1 (WL' := []) (FL' := []) hx (t := .boolean) hret (by simp) hlk (hb hby d5_32) (nle rfl) (nle rfl) ⟨rfl, rfl, rfl, rfl⟩
theorem ct_pr011_1 {l : Launch} {Z : State} {a0 : Array Value} {gC : Int32} {gF : Value} (cx : Cx a0 Z gC gF) {n0 : Nat} (x : Addr) (u : Addr) (ku : ClassId) (c0 : Int32) (h : Heap) (WL FL : List Addr) (P0 : Exa Z h x "java/lang/String") (P1 : Fld Z h x "java/lang/String" "value" "[B" (.ref u)) (P2 : Fld Z h x "java/lang/String" "coder" "B" (.int 1)) (P3 : Arv Z h u ku .byte (2 : Int32) [(.int (c0.toInt8.toInt32)), (.int ((c0 >>> ((8 : Int32) &&& 31)).toInt8.toInt32))] (.int 0)) (hr_c0 : ¬ c0 < 0 ∧ ¬ (65535 : Int32) < c0) (hF : (c0 = (9 : Int32) ∨ c0 = (10 : Int32) ∨ c0 = (13 : Int32))) (a0 : ¬ (c0 = (9 : Int32))) (b1 : c0 = (10 : Int32)) :
    Ct l Z EL1 n0 (⟨"com/example/lynceus/lynceus/Bag", "isPrintable", "(Ljava/lang/String;)Z"⟩ : MethodName) prog_1_method_3_code 1 (Option.some Jvm.ClassFile.FieldType.boolean) ({ frames := 7, cells := 0, slots := 0, locals := 100 } : Room) #[(.ref x)] h WL FL (Q_pr011 Z gC gF x u ku c0 h) := by
  refine Ct.of (plainFor_of_name pn5) ?_
  intro p e s m below meth c s1 hx hby hml hnm hret hlk X0
  refine Wo.cast (f' := (mkF m 0 #[.val (.ref x)] [])) (by rfl) ?_
  show Wo _ _ _ _ _ _ _ _ _ _ _ s1 (mkF m 0 #[.val (.ref x)] [])
  refine P.aloadN X0 hx 1 (hb hby d5_0) rfl rfl rfl ?_
  refine P.bipush X0 hx 3 9 (hb hby d5_1) rfl rfl ?_
  refine X0.callV hx (w31 cx) (w32 cx) (w34 cx) (w33 cx) (fun _ hZ => nf hZ (w34 cx)) (by decide) P0 (Ct.pay (W := 0) (ct_vu10 cx x u ku c0 (9 : Int32) h _ _ P0 P1 P2 P3 hr_c0 (by decide) a0) (w35 cx) (w7 cx) (nle rfl) (nle rfl)) (by rw [hml]; rfl) (argsL := [.int 9]) (rest := []) (lenOf pd1 rfl) rfl rfl (Nat.le_of_eq rfl) (hb hby d5_3) (nle rfl) (nle rfl) ?_
  rintro T1 h1 _ _ _ X1 ⟨rfl, rfl, rfl, J1⟩
  rw [J1] at X1
  refine P.ifNo X1 hx 9 (hb hby d5_6) (by decide) rfl ?_
  refine P.aloadN X1 hx 10 (hb hby d5_9) rfl rfl rfl ?_
  refine P.bipush X1 hx 12 10 (hb hby d5_10) rfl rfl ?_
  refine X1.callV hx (w31 cx) (w32 cx) (w34 cx) (w33 cx) (fun _ hZ => nf hZ (w34 cx)) (by decide) P0 (Ct.pay (W := 0) (ct_vu11 cx x u ku c0 (10 : Int32) h _ _ P0 P1 P2 P3 hr_c0 (by decide) b1) (w35 cx) (w7 cx) (nle rfl) (nle rfl)) (by rw [hml]; rfl) (argsL := [.int 10]) (rest := []) (lenOf pd1 rfl) rfl rfl (Nat.le_of_eq rfl) (hb hby d5_12) (nle rfl) (nle rfl) ?_
  rintro T2 h2 _ _ _ X2 ⟨x3, rfl, rfl, rfl, J2, G4⟩
  rw [J2] at X2
  refine P.ifYes X2 hx 31 (hb hby d5_15) ((if0 _ _).trans (flt G4).2.1) (by decide) (by decide) ?_
  refine P.iconst X2 hx 32 0 (hb hby d5_31) rfl rfl ?_
  exact WS.retN X2 (WL' := []) (FL' := []) hx (t := .boolean) hret (by simp) hlk (hb hby d5_32) (nle rfl) (nle rfl) ⟨rfl, rfl, rfl, rfl⟩
theorem ct_pr011_2 {l : Launch} {Z : State} {a0 : Array Value} {gC : Int32} {gF : Value} (cx : Cx a0 Z gC gF) {n0 : Nat} (x : Addr) (u : Addr) (ku : ClassId) (c0 : Int32) (h : Heap) (WL FL : List Addr) (P0 : Exa Z h x "java/lang/String") (P1 : Fld Z h x "java/lang/String" "value" "[B" (.ref u)) (P2 : Fld Z h x "java/lang/String" "coder" "B" (.int 1)) (P3 : Arv Z h u ku .byte (2 : Int32) [(.int (c0.toInt8.toInt32)), (.int ((c0 >>> ((8 : Int32) &&& 31)).toInt8.toInt32))] (.int 0)) (hr_c0 : ¬ c0 < 0 ∧ ¬ (65535 : Int32) < c0) (hF : (c0 = (9 : Int32) ∨ c0 = (10 : Int32) ∨ c0 = (13 : Int32))) (a0 : ¬ (c0 = (9 : Int32))) (a1 : ¬ (c0 = (10 : Int32))) (b2 : c0 = (13 : Int32)) :
    Ct l Z EL1 n0 (⟨"com/example/lynceus/lynceus/Bag", "isPrintable", "(Ljava/lang/String;)Z"⟩ : MethodName) prog_1_method_3_code 1 (Option.some Jvm.ClassFile.FieldType.boolean) ({ frames := 7, cells := 0, slots := 0, locals := 100 } : Room) #[(.ref x)] h WL FL (Q_pr011 Z gC gF x u ku c0 h) := by
  refine Ct.of (plainFor_of_name pn5) ?_
  intro p e s m below meth c s1 hx hby hml hnm hret hlk X0
  refine Wo.cast (f' := (mkF m 0 #[.val (.ref x)] [])) (by rfl) ?_
  show Wo _ _ _ _ _ _ _ _ _ _ _ s1 (mkF m 0 #[.val (.ref x)] [])
  refine P.aloadN X0 hx 1 (hb hby d5_0) rfl rfl rfl ?_
  refine P.bipush X0 hx 3 9 (hb hby d5_1) rfl rfl ?_
  refine X0.callV hx (w31 cx) (w32 cx) (w34 cx) (w33 cx) (fun _ hZ => nf hZ (w34 cx)) (by decide) P0 (Ct.pay (W := 0) (ct_vu10 cx x u ku c0 (9 : Int32) h _ _ P0 P1 P2 P3 hr_c0 (by decide) a0) (w35 cx) (w7 cx) (nle rfl) (nle rfl)) (by rw [hml]; rfl) (argsL := [.int 9]) (rest := []) (lenOf pd1 rfl) rfl rfl (Nat.le_of_eq rfl) (hb hby d5_3) (nle rfl) (nle rfl) ?_
  rintro T1 h1 _ _ _ X1 ⟨rfl, rfl, rfl, J1⟩
  rw [J1] at X1
  refine P.ifNo X1 hx 9 (hb hby d5_6) (by decide) rfl ?_
  refine P.aloadN X1 hx 10 (hb hby d5_9) rfl rfl rfl ?_
  refine P.bipush X1 hx 12 10 (hb hby d5_10) rfl rfl ?_
  refine X1.callV hx (w31 cx) (w32 cx) (w34 cx) (w33 cx) (fun _ hZ => nf hZ (w34 cx)) (by decide) P0 (Ct.pay (W := 0) (ct_vu10 cx x u ku c0 (10 : Int32) h _ _ P0 P1 P2 P3 hr_c0 (by decide) a1) (w35 cx) (w7 cx) (nle rfl) (nle rfl)) (by rw [hml]; rfl) (argsL := [.int 10]) (rest := []) (lenOf pd1 rfl) rfl rfl (Nat.le_of_eq rfl) (hb hby d5_12) (nle rfl) (nle rfl) ?_
  rintro T2 h2 _ _ _ X2 ⟨rfl, rfl, rfl, J2⟩
  rw [J2] at X2
  refine P.ifNo X2 hx 18 (hb hby d5_15) (by decide) rfl ?_
  refine P.aloadN X2 hx 19 (hb hby d5_18) rfl rfl rfl ?_
  refine P.bipush X2 hx 21 13 (hb hby d5_19) rfl rfl ?_
  refine X2.callV hx (w31 cx) (w32 cx) (w34 cx) (w33 cx) (fun _ hZ => nf hZ (w34 cx)) (by decide) P0 (Ct.pay (W := 0) (ct_vu11 cx x u ku c0 (13 : Int32) h _ _ P0 P1 P2 P3 hr_c0 (by decide) b2) (w35 cx) (w7 cx) (nle rfl) (nle rfl)) (by rw [hml]; rfl) (argsL := [.int 13]) (rest := []) (lenOf pd1 rfl) rfl rfl (Nat.le_of_eq rfl) (hb hby d5_21) (nle rfl) (nle rfl) ?_
  rintro T3 h3 _ _ _ X3 ⟨x4, rfl, rfl, rfl, J3, G5⟩
  rw [J3] at X3
  refine P.ifYes X3 hx 31 (hb hby d5_24) ((if0 _ _).trans (flt G5).2.1) (by decide) (by decide) ?_
  refine P.iconst X3 hx 32 0 (hb hby d5_31) rfl rfl ?_
  exact WS.retN X3 (WL' := []) (FL' := []) hx (t := .boolean) hret (by simp) hlk (hb hby d5_32) (nle rfl) (nle rfl) ⟨rfl, rfl, rfl, rfl⟩
theorem ct_pr011 {l : Launch} {Z : State} {a0 : Array Value} {gC : Int32} {gF : Value} (cx : Cx a0 Z gC gF) {n0 : Nat} (x : Addr) (u : Addr) (ku : ClassId) (c0 : Int32) (h : Heap) (WL FL : List Addr) (P0 : Exa Z h x "java/lang/String") (P1 : Fld Z h x "java/lang/String" "value" "[B" (.ref u)) (P2 : Fld Z h x "java/lang/String" "coder" "B" (.int 1)) (P3 : Arv Z h u ku .byte (2 : Int32) [(.int (c0.toInt8.toInt32)), (.int ((c0 >>> ((8 : Int32) &&& 31)).toInt8.toInt32))] (.int 0)) (hr_c0 : ¬ c0 < 0 ∧ ¬ (65535 : Int32) < c0) (hF : (c0 = (9 : Int32) ∨ c0 = (10 : Int32) ∨ c0 = (13 : Int32))) :
    Ct l Z EL1 n0 (⟨"com/example/lynceus/lynceus/Bag", "isPrintable", "(Ljava/lang/String;)Z"⟩ : MethodName) prog_1_method_3_code 1 (Option.some Jvm.ClassFile.FieldType.boolean) ({ frames := 7, cells := 0, slots := 0, locals := 100 } : Room) #[(.ref x)] h WL FL (Q_pr011 Z gC gF x u ku c0 h) := by
  by_cases a0 : c0 = (9 : Int32)
  · exact ct_pr011_0 cx x u ku c0 h WL FL P0 P1 P2 P3 hr_c0 hF a0
  by_cases a1 : c0 = (10 : Int32)
  · exact ct_pr011_1 cx x u ku c0 h WL FL P0 P1 P2 P3 hr_c0 hF a0 a1
  have b2 : c0 = (13 : Int32) := Decidable.byContradiction fun q => (fun b => b.elim (fun z => a0 z) (fun b => b.elim (fun z => a1 z) (fun z => q z))) hF
  exact ct_pr011_2 cx x u ku c0 h WL FL P0 P1 P2 P3 hr_c0 hF a0 a1 b2
def Q_pr112 (Z : State) (gC : Int32) (gF : Value) (x : Addr) (u : Addr) (ku : ClassId) (c0 : Int32) (c1 : Int32) (h : Heap) (v : Option Value) (h' : Heap) (WL' FL' : List Addr) : Prop := v = some (.int 1) ∧ WL' = [] ∧ FL' = [] ∧ h' = h
theorem ct_pr112 {l : Launch} {Z : State} {a0 : Array Value} {gC : Int32} {gF : Value} (cx : Cx a0 Z gC gF) {n0 : Nat} (x : Addr) (u : Addr) (ku : ClassId) (c0 : Int32) (c1 : Int32) (h : Heap) (WL FL : List Addr) (P0 : Exa Z h x "java/lang/String") (P1 : Fld Z h x "java/lang/String" "value" "[B" (.ref u)) (P2 : Fld Z h x "java/lang/String" "coder" "B" (.int 1)) (P3 : Arv Z h u ku .byte (4 : Int32) [(.int (c0.toInt8.toInt32)), (.int ((c0 >>> ((8 : Int32) &&& 31)).toInt8.toInt32)), (.int (c1.toInt8.toInt32)), (.int ((c1 >>> ((8 : Int32) &&& 31)).toInt8.toInt32))] (.int 0)) (hr_c0 : ¬ c0 < 0 ∧ ¬ (65535 : Int32) < c0) (hr_c1 : ¬ c1 < 0 ∧ ¬ (65535 : Int32) < c1) (hn0 : ¬ (c0 = (9 : Int32) ∨ c0 = (10 : Int32) ∨ c0 = (13 : Int32))) (hn1 : ¬ (c1 = (9 : Int32) ∨ c1 = (10 : Int32) ∨ c1 = (13 : Int32))) :
    Ct l Z EL1 n0 (⟨"com/example/lynceus/lynceus/Bag", "isPrintable", "(Ljava/lang/String;)Z"⟩ : MethodName) prog_1_method_3_code 1 (Option.some Jvm.ClassFile.FieldType.boolean) ({ frames := 7, cells := 0, slots := 0, locals := 100 } : Room) #[(.ref x)] h WL FL (Q_pr112 Z gC gF x u ku c0 c1 h) := by
  refine Ct.of (plainFor_of_name pn5) ?_
  intro p e s m below meth c s1 hx hby hml hnm hret hlk X0
  refine Wo.cast (f' := (mkF m 0 #[.val (.ref x)] [])) (by rfl) ?_
  show Wo _ _ _ _ _ _ _ _ _ _ _ s1 (mkF m 0 #[.val (.ref x)] [])
  refine P.aloadN X0 hx 1 (hb hby d5_0) rfl rfl rfl ?_
  refine P.bipush X0 hx 3 9 (hb hby d5_1) rfl rfl ?_
  refine X0.callV hx (w31 cx) (w32 cx) (w34 cx) (w33 cx) (fun _ hZ => nf hZ (w34 cx)) (by decide) P0 (Ct.pay (W := 0) (ct_vu20 cx x u ku c0 c1 (9 : Int32) h _ _ P0 P1 P2 P3 hr_c0 hr_c1 (by decide) (fun b => b.elim (fun q => hn0 (Or.inl q)) (fun q => hn1 (Or.inl q)))) (w35 cx) (w7 cx) (nle rfl) (nle rfl)) (by rw [hml]; rfl) (argsL := [.int 9]) (rest := []) (lenOf pd1 rfl) rfl rfl (Nat.le_of_eq rfl) (hb hby d5_3) (nle rfl) (nle rfl) ?_
  rintro T1 h1 _ _ _ X1 ⟨rfl, rfl, rfl, J1⟩
  rw [J1] at X1
  refine P.ifNo X1 hx 9 (hb hby d5_6) (by decide) rfl ?_
  refine P.aloadN X1 hx 10 (hb hby d5_9) rfl rfl rfl ?_
  refine P.bipush X1 hx 12 10 (hb hby d5_10) rfl rfl ?_
  refine X1.callV hx (w31 cx) (w32 cx) (w34 cx) (w33 cx) (fun _ hZ => nf hZ (w34 cx)) (by decide) P0 (Ct.pay (W := 0) (ct_vu20 cx x u ku c0 c1 (10 : Int32) h _ _ P0 P1 P2 P3 hr_c0 hr_c1 (by decide) (fun b => b.elim (fun q => hn0 (Or.inr (Or.inl q))) (fun q => hn1 (Or.inr (Or.inl q))))) (w35 cx) (w7 cx) (nle rfl) (nle rfl)) (by rw [hml]; rfl) (argsL := [.int 10]) (rest := []) (lenOf pd1 rfl) rfl rfl (Nat.le_of_eq rfl) (hb hby d5_12) (nle rfl) (nle rfl) ?_
  rintro T2 h2 _ _ _ X2 ⟨rfl, rfl, rfl, J2⟩
  rw [J2] at X2
  refine P.ifNo X2 hx 18 (hb hby d5_15) (by decide) rfl ?_
  refine P.aloadN X2 hx 19 (hb hby d5_18) rfl rfl rfl ?_
  refine P.bipush X2 hx 21 13 (hb hby d5_19) rfl rfl ?_
  refine X2.callV hx (w31 cx) (w32 cx) (w34 cx) (w33 cx) (fun _ hZ => nf hZ (w34 cx)) (by decide) P0 (Ct.pay (W := 0) (ct_vu20 cx x u ku c0 c1 (13 : Int32) h _ _ P0 P1 P2 P3 hr_c0 hr_c1 (by decide) (fun b => b.elim (fun q => hn0 (Or.inr (Or.inr q))) (fun q => hn1 (Or.inr (Or.inr q))))) (w35 cx) (w7 cx) (nle rfl) (nle rfl)) (by rw [hml]; rfl) (argsL := [.int 13]) (rest := []) (lenOf pd1 rfl) rfl rfl (Nat.le_of_eq rfl) (hb hby d5_21) (nle rfl) (nle rfl) ?_
  rintro T3 h3 _ _ _ X3 ⟨rfl, rfl, rfl, J3⟩
  rw [J3] at X3
  refine P.ifNo X3 hx 27 (hb hby d5_24) (by decide) rfl ?_
  refine P.iconst X3 hx 28 1 (hb hby d5_27) rfl rfl ?_
  refine P.goto X3 hx 32 (hb hby d5_28) (by decide) (by decide) ?_
  exact WS.retN X3 (WL' := []) (FL' := []) hx (t := .boolean) hret (by simp) hlk (hb hby d5_32) (nle rfl) (nle rfl) ⟨rfl, rfl, rfl, rfl⟩
def Q_pr012 (Z : State) (gC : Int32) (gF : Value) (x : Addr) (u : Addr) (ku : ClassId) (c0 : Int32) (c1 : Int32) (h : Heap) (v : Option Value) (h' : Heap) (WL' FL' : List Addr) : Prop := v = some (.int 0) ∧ WL' = [] ∧ FL' = [] ∧ h' = h
theorem ct_pr012_0 {l : Launch} {Z : State} {a0 : Array Value} {gC : Int32} {gF : Value} (cx : Cx a0 Z gC gF) {n0 : Nat} (x : Addr) (u : Addr) (ku : ClassId) (c0 : Int32) (c1 : Int32) (h : Heap) (WL FL : List Addr) (P0 : Exa Z h x "java/lang/String") (P1 : Fld Z h x "java/lang/String" "value" "[B" (.ref u)) (P2 : Fld Z h x "java/lang/String" "coder" "B" (.int 1)) (P3 : Arv Z h u ku .byte (4 : Int32) [(.int (c0.toInt8.toInt32)), (.int ((c0 >>> ((8 : Int32) &&& 31)).toInt8.toInt32)), (.int (c1.toInt8.toInt32)), (.int ((c1 >>> ((8 : Int32) &&& 31)).toInt8.toInt32))] (.int 0)) (hr_c0 : ¬ c0 < 0 ∧ ¬ (65535 : Int32) < c0) (hr_c1 : ¬ c1 < 0 ∧ ¬ (65535 : Int32) < c1) (hF : (c0 = (9 : Int32) ∨ c0 = (10 : Int32) ∨ c0 = (13 : Int32)) ∨ (c1 = (9 : Int32) ∨ c1 = (10 : Int32) ∨ c1 = (13 : Int32))) (b0 : c0 = (9 : Int32) ∨ c1 = (9 : Int32)) :
    Ct l Z EL1 n0 (⟨"com/example/lynceus/lynceus/Bag", "isPrintable", "(Ljava/lang/String;)Z"⟩ : MethodName) prog_1_method_3_code 1 (Option.some Jvm.ClassFile.FieldType.boolean) ({ frames := 7, cells := 0, slots := 0, locals := 100 } : Room) #[(.ref x)] h WL FL (Q_pr012 Z gC gF x u ku c0 c1 h) := by
  refine Ct.of (plainFor_of_name pn5) ?_
  intro p e s m below meth c s1 hx hby hml hnm hret hlk X0
  refine Wo.cast (f' := (mkF m 0 #[.val (.ref x)] [])) (by rfl) ?_
  show Wo _ _ _ _ _ _ _ _ _ _ _ s1 (mkF m 0 #[.val (.ref x)] [])
  refine P.aloadN X0 hx 1 (hb hby d5_0) rfl rfl rfl ?_
  refine P.bipush X0 hx 3 9 (hb hby d5_1) rfl rfl ?_
  refine X0.callV hx (w31 cx) (w32 cx) (w34 cx) (w33 cx) (fun _ hZ => nf hZ (w34 cx)) (by decide) P0 (Ct.pay (W := 0) (ct_vu21 cx x u ku c0 c1 (9 : Int32) h _ _ P0 P1 P2 P3 hr_c0 hr_c1 (by decide) b0) (w35 cx) (w7 cx) (nle rfl) (nle rfl)) (by rw [hml]; rfl) (argsL := [.int 9]) (rest := []) (lenOf pd1 rfl) rfl rfl (Nat.le_of_eq rfl) (hb hby d5_3) (nle rfl) (nle rfl) ?_
  rintro T1 h1 _ _ _ X1 ⟨x2, rfl, rfl, rfl, J1, G3⟩
  rw [J1] at X1
  refine P.ifYes X1 hx 31 (hb hby d5_6) ((if0 _ _).trans (flt G3).2.1) (by decide) (by decide) ?_
  refine P.iconst X1 hx 32 0 (hb hby d5_31) rfl rfl ?_
  exact WS.retN X1 (WL' := []) (FL' := []) hx (t := .boolean) hret (by simp) hlk (hb hby d5_32) (nle rfl) (nle rfl) ⟨rfl, rfl, rfl, rfl⟩
theorem ct_pr012_1 {l : Launch} {Z : State} {a0 : Array Value} {gC : Int32} {gF : Value} (cx : Cx a0 Z gC gF) {n0 : Nat} (x : Addr) (u : Addr) (ku : ClassId) (c0 : Int32) (c1 : Int32) (h : Heap) (WL FL : List Addr) (P0 : Exa Z h x "java/lang/String") (P1 : Fld Z h x "java/lang/String" "value" "[B" (.ref u)) (P2 : Fld Z h x "java/lang/String" "coder" "B" (.int 1)) (P3 : Arv Z h u ku .byte (4 : Int32) [(.int (c0.toInt8.toInt32)), (.int ((c0 >>> ((8 : Int32) &&& 31)).toInt8.toInt32)), (.int (c1.toInt8.toInt32)), (.int ((c1 >>> ((8 : Int32) &&& 31)).toInt8.toInt32))] (.int 0)) (hr_c0 : ¬ c0 < 0 ∧ ¬ (65535 : Int32) < c0) (hr_c1 : ¬ c1 < 0 ∧ ¬ (65535 : Int32) < c1) (hF : (c0 = (9 : Int32) ∨ c0 = (10 : Int32) ∨ c0 = (13 : Int32)) ∨ (c1 = (9 : Int32) ∨ c1 = (10 : Int32) ∨ c1 = (13 : Int32))) (a0 : ¬ (c0 = (9 : Int32) ∨ c1 = (9 : Int32))) (b1 : c0 = (10 : Int32) ∨ c1 = (10 : Int32)) :
    Ct l Z EL1 n0 (⟨"com/example/lynceus/lynceus/Bag", "isPrintable", "(Ljava/lang/String;)Z"⟩ : MethodName) prog_1_method_3_code 1 (Option.some Jvm.ClassFile.FieldType.boolean) ({ frames := 7, cells := 0, slots := 0, locals := 100 } : Room) #[(.ref x)] h WL FL (Q_pr012 Z gC gF x u ku c0 c1 h) := by
  refine Ct.of (plainFor_of_name pn5) ?_
  intro p e s m below meth c s1 hx hby hml hnm hret hlk X0
  refine Wo.cast (f' := (mkF m 0 #[.val (.ref x)] [])) (by rfl) ?_
  show Wo _ _ _ _ _ _ _ _ _ _ _ s1 (mkF m 0 #[.val (.ref x)] [])
  refine P.aloadN X0 hx 1 (hb hby d5_0) rfl rfl rfl ?_
  refine P.bipush X0 hx 3 9 (hb hby d5_1) rfl rfl ?_
  refine X0.callV hx (w31 cx) (w32 cx) (w34 cx) (w33 cx) (fun _ hZ => nf hZ (w34 cx)) (by decide) P0 (Ct.pay (W := 0) (ct_vu20 cx x u ku c0 c1 (9 : Int32) h _ _ P0 P1 P2 P3 hr_c0 hr_c1 (by decide) a0) (w35 cx) (w7 cx) (nle rfl) (nle rfl)) (by rw [hml]; rfl) (argsL := [.int 9]) (rest := []) (lenOf pd1 rfl) rfl rfl (Nat.le_of_eq rfl) (hb hby d5_3) (nle rfl) (nle rfl) ?_
  rintro T1 h1 _ _ _ X1 ⟨rfl, rfl, rfl, J1⟩
  rw [J1] at X1
  refine P.ifNo X1 hx 9 (hb hby d5_6) (by decide) rfl ?_
  refine P.aloadN X1 hx 10 (hb hby d5_9) rfl rfl rfl ?_
  refine P.bipush X1 hx 12 10 (hb hby d5_10) rfl rfl ?_
  refine X1.callV hx (w31 cx) (w32 cx) (w34 cx) (w33 cx) (fun _ hZ => nf hZ (w34 cx)) (by decide) P0 (Ct.pay (W := 0) (ct_vu21 cx x u ku c0 c1 (10 : Int32) h _ _ P0 P1 P2 P3 hr_c0 hr_c1 (by decide) b1) (w35 cx) (w7 cx) (nle rfl) (nle rfl)) (by rw [hml]; rfl) (argsL := [.int 10]) (rest := []) (lenOf pd1 rfl) rfl rfl (Nat.le_of_eq rfl) (hb hby d5_12) (nle rfl) (nle rfl) ?_
  rintro T2 h2 _ _ _ X2 ⟨x3, rfl, rfl, rfl, J2, G4⟩
  rw [J2] at X2
  refine P.ifYes X2 hx 31 (hb hby d5_15) ((if0 _ _).trans (flt G4).2.1) (by decide) (by decide) ?_
  refine P.iconst X2 hx 32 0 (hb hby d5_31) rfl rfl ?_
  exact WS.retN X2 (WL' := []) (FL' := []) hx (t := .boolean) hret (by simp) hlk (hb hby d5_32) (nle rfl) (nle rfl) ⟨rfl, rfl, rfl, rfl⟩
theorem ct_pr012_2 {l : Launch} {Z : State} {a0 : Array Value} {gC : Int32} {gF : Value} (cx : Cx a0 Z gC gF) {n0 : Nat} (x : Addr) (u : Addr) (ku : ClassId) (c0 : Int32) (c1 : Int32) (h : Heap) (WL FL : List Addr) (P0 : Exa Z h x "java/lang/String") (P1 : Fld Z h x "java/lang/String" "value" "[B" (.ref u)) (P2 : Fld Z h x "java/lang/String" "coder" "B" (.int 1)) (P3 : Arv Z h u ku .byte (4 : Int32) [(.int (c0.toInt8.toInt32)), (.int ((c0 >>> ((8 : Int32) &&& 31)).toInt8.toInt32)), (.int (c1.toInt8.toInt32)), (.int ((c1 >>> ((8 : Int32) &&& 31)).toInt8.toInt32))] (.int 0)) (hr_c0 : ¬ c0 < 0 ∧ ¬ (65535 : Int32) < c0) (hr_c1 : ¬ c1 < 0 ∧ ¬ (65535 : Int32) < c1) (hF : (c0 = (9 : Int32) ∨ c0 = (10 : Int32) ∨ c0 = (13 : Int32)) ∨ (c1 = (9 : Int32) ∨ c1 = (10 : Int32) ∨ c1 = (13 : Int32))) (a0 : ¬ (c0 = (9 : Int32) ∨ c1 = (9 : Int32))) (a1 : ¬ (c0 = (10 : Int32) ∨ c1 = (10 : Int32))) (b2 : c0 = (13 : Int32) ∨ c1 = (13 : Int32)) :
    Ct l Z EL1 n0 (⟨"com/example/lynceus/lynceus/Bag", "isPrintable", "(Ljava/lang/String;)Z"⟩ : MethodName) prog_1_method_3_code 1 (Option.some Jvm.ClassFile.FieldType.boolean) ({ frames := 7, cells := 0, slots := 0, locals := 100 } : Room) #[(.ref x)] h WL FL (Q_pr012 Z gC gF x u ku c0 c1 h) := by
  refine Ct.of (plainFor_of_name pn5) ?_
  intro p e s m below meth c s1 hx hby hml hnm hret hlk X0
  refine Wo.cast (f' := (mkF m 0 #[.val (.ref x)] [])) (by rfl) ?_
  show Wo _ _ _ _ _ _ _ _ _ _ _ s1 (mkF m 0 #[.val (.ref x)] [])
  refine P.aloadN X0 hx 1 (hb hby d5_0) rfl rfl rfl ?_
  refine P.bipush X0 hx 3 9 (hb hby d5_1) rfl rfl ?_
  refine X0.callV hx (w31 cx) (w32 cx) (w34 cx) (w33 cx) (fun _ hZ => nf hZ (w34 cx)) (by decide) P0 (Ct.pay (W := 0) (ct_vu20 cx x u ku c0 c1 (9 : Int32) h _ _ P0 P1 P2 P3 hr_c0 hr_c1 (by decide) a0) (w35 cx) (w7 cx) (nle rfl) (nle rfl)) (by rw [hml]; rfl) (argsL := [.int 9]) (rest := []) (lenOf pd1 rfl) rfl rfl (Nat.le_of_eq rfl) (hb hby d5_3) (nle rfl) (nle rfl) ?_
  rintro T1 h1 _ _ _ X1 ⟨rfl, rfl, rfl, J1⟩
  rw [J1] at X1
  refine P.ifNo X1 hx 9 (hb hby d5_6) (by decide) rfl ?_
  refine P.aloadN X1 hx 10 (hb hby d5_9) rfl rfl rfl ?_
  refine P.bipush X1 hx 12 10 (hb hby d5_10) rfl rfl ?_
  refine X1.callV hx (w31 cx) (w32 cx) (w34 cx) (w33 cx) (fun _ hZ => nf hZ (w34 cx)) (by decide) P0 (Ct.pay (W := 0) (ct_vu20 cx x u ku c0 c1 (10 : Int32) h _ _ P0 P1 P2 P3 hr_c0 hr_c1 (by decide) a1) (w35 cx) (w7 cx) (nle rfl) (nle rfl)) (by rw [hml]; rfl) (argsL := [.int 10]) (rest := []) (lenOf pd1 rfl) rfl rfl (Nat.le_of_eq rfl) (hb hby d5_12) (nle rfl) (nle rfl) ?_
  rintro T2 h2 _ _ _ X2 ⟨rfl, rfl, rfl, J2⟩
  rw [J2] at X2
  refine P.ifNo X2 hx 18 (hb hby d5_15) (by decide) rfl ?_
  refine P.aloadN X2 hx 19 (hb hby d5_18) rfl rfl rfl ?_
  refine P.bipush X2 hx 21 13 (hb hby d5_19) rfl rfl ?_
  refine X2.callV hx (w31 cx) (w32 cx) (w34 cx) (w33 cx) (fun _ hZ => nf hZ (w34 cx)) (by decide) P0 (Ct.pay (W := 0) (ct_vu21 cx x u ku c0 c1 (13 : Int32) h _ _ P0 P1 P2 P3 hr_c0 hr_c1 (by decide) b2) (w35 cx) (w7 cx) (nle rfl) (nle rfl)) (by rw [hml]; rfl) (argsL := [.int 13]) (rest := []) (lenOf pd1 rfl) rfl rfl (Nat.le_of_eq rfl) (hb hby d5_21) (nle rfl) (nle rfl) ?_
  rintro T3 h3 _ _ _ X3 ⟨x4, rfl, rfl, rfl, J3, G5⟩
  rw [J3] at X3
  refine P.ifYes X3 hx 31 (hb hby d5_24) ((if0 _ _).trans (flt G5).2.1) (by decide) (by decide) ?_
  refine P.iconst X3 hx 32 0 (hb hby d5_31) rfl rfl ?_
  exact WS.retN X3 (WL' := []) (FL' := []) hx (t := .boolean) hret (by simp) hlk (hb hby d5_32) (nle rfl) (nle rfl) ⟨rfl, rfl, rfl, rfl⟩
theorem ct_pr012 {l : Launch} {Z : State} {a0 : Array Value} {gC : Int32} {gF : Value} (cx : Cx a0 Z gC gF) {n0 : Nat} (x : Addr) (u : Addr) (ku : ClassId) (c0 : Int32) (c1 : Int32) (h : Heap) (WL FL : List Addr) (P0 : Exa Z h x "java/lang/String") (P1 : Fld Z h x "java/lang/String" "value" "[B" (.ref u)) (P2 : Fld Z h x "java/lang/String" "coder" "B" (.int 1)) (P3 : Arv Z h u ku .byte (4 : Int32) [(.int (c0.toInt8.toInt32)), (.int ((c0 >>> ((8 : Int32) &&& 31)).toInt8.toInt32)), (.int (c1.toInt8.toInt32)), (.int ((c1 >>> ((8 : Int32) &&& 31)).toInt8.toInt32))] (.int 0)) (hr_c0 : ¬ c0 < 0 ∧ ¬ (65535 : Int32) < c0) (hr_c1 : ¬ c1 < 0 ∧ ¬ (65535 : Int32) < c1) (hF : (c0 = (9 : Int32) ∨ c0 = (10 : Int32) ∨ c0 = (13 : Int32)) ∨ (c1 = (9 : Int32) ∨ c1 = (10 : Int32) ∨ c1 = (13 : Int32))) :
    Ct l Z EL1 n0 (⟨"com/example/lynceus/lynceus/Bag", "isPrintable", "(Ljava/lang/String;)Z"⟩ : MethodName) prog_1_method_3_code 1 (Option.some Jvm.ClassFile.FieldType.boolean) ({ frames := 7, cells := 0, slots := 0, locals := 100 } : Room) #[(.ref x)] h WL FL (Q_pr012 Z gC gF x u ku c0 c1 h) := by
  by_cases a0 : c0 = (9 : Int32) ∨ c1 = (9 : Int32)
  · exact ct_pr012_0 cx x u ku c0 c1 h WL FL P0 P1 P2 P3 hr_c0 hr_c1 hF a0
  by_cases a1 : c0 = (10 : Int32) ∨ c1 = (10 : Int32)
  · exact ct_pr012_1 cx x u ku c0 c1 h WL FL P0 P1 P2 P3 hr_c0 hr_c1 hF a0 a1
  have b2 : c0 = (13 : Int32) ∨ c1 = (13 : Int32) := Decidable.byContradiction fun q => (fun b => b.elim (fun b => b.elim (fun z => a0 (Or.inl z)) (fun b => b.elim (fun z => a1 (Or.inl z)) (fun z => q (Or.inl z)))) (fun b => b.elim (fun z => a0 (Or.inr z)) (fun b => b.elim (fun z => a1 (Or.inr z)) (fun z => q (Or.inr z))))) hF
  exact ct_pr012_2 cx x u ku c0 c1 h WL FL P0 P1 P2 P3 hr_c0 hr_c1 hF a0 a1 b2
def Q_pr113 (Z : State) (gC : Int32) (gF : Value) (x : Addr) (u : Addr) (ku : ClassId) (c0 : Int32) (c1 : Int32) (c2 : Int32) (h : Heap) (v : Option Value) (h' : Heap) (WL' FL' : List Addr) : Prop := v = some (.int 1) ∧ WL' = [] ∧ FL' = [] ∧ h' = h
theorem ct_pr113 {l : Launch} {Z : State} {a0 : Array Value} {gC : Int32} {gF : Value} (cx : Cx a0 Z gC gF) {n0 : Nat} (x : Addr) (u : Addr) (ku : ClassId) (c0 : Int32) (c1 : Int32) (c2 : Int32) (h : Heap) (WL FL : List Addr) (P0 : Exa Z h x "java/lang/String") (P1 : Fld Z h x "java/lang/String" "value" "[B" (.ref u)) (P2 : Fld Z h x "java/lang/String" "coder" "B" (.int 1)) (P3 : Arv Z h u ku .byte (6 : Int32) [(.int (c0.toInt8.toInt32)), (.int ((c0 >>> ((8 : Int32) &&& 31)).toInt8.toInt32)), (.int (c1.toInt8.toInt32)), (.int ((c1 >>> ((8 : Int32) &&& 31)).toInt8.toInt32)), (.int (c2.toInt8.toInt32)), (.int ((c2 >>> ((8 : Int32) &&& 31)).toInt8.toInt32))] (.int 0)) (hr_c0 : ¬ c0 < 0 ∧ ¬ (65535 : Int32) < c0) (hr_c1 : ¬ c1 < 0 ∧ ¬ (65535 : Int32) < c1) (hr_c2 : ¬ c2 < 0 ∧ ¬ (65535 : Int32) < c2) (hn0 : ¬ (c0 = (9 : Int32) ∨ c0 = (10 : Int32) ∨ c0 = (13 : Int32))) (hn1 : ¬ (c1 = (9 : Int32) ∨ c1 = (10 : Int32) ∨ c1 = (13 : Int32))) (hn2 : ¬ (c2 = (9 : Int32) ∨ c2 = (10 : Int32) ∨ c2 = (13 : Int32))) :
    Ct l Z EL1 n0 (⟨"com/example/lynceus/lynceus/Bag", "isPrintable", "(Ljava/lang/String;)Z"⟩ : MethodName) prog_1_method_3_code 1 (Option.some Jvm.ClassFile.FieldType.boolean) ({ frames := 7, cells := 0, slots := 0, locals := 100 } : Room) #[(.ref x)] h WL FL (Q_pr113 Z gC gF x u ku c0 c1 c2 h) := by
  refine Ct.of (plainFor_of_name pn5) ?_
  intro p e s m below meth c s1 hx hby hml hnm hret hlk X0
  refine Wo.cast (f' := (mkF m 0 #[.val (.ref x)] [])) (by rfl) ?_
  show Wo _ _ _ _ _ _ _ _ _ _ _ s1 (mkF m 0 #[.val (.ref x)] [])
  refine P.aloadN X0 hx 1 (hb hby d5_0) rfl rfl rfl ?_
  refine P.bipush X0 hx 3 9 (hb hby d5_1) rfl rfl ?_
  refine X0.callV hx (w31 cx) (w32 cx) (w34 cx) (w33 cx) (fun _ hZ => nf hZ (w34 cx)) (by decide) P0 (Ct.pay (W := 0) (ct_vu30 cx x u ku c0 c1 c2 (9 : Int32) h _ _ P0 P1 P2 P3 hr_c0 hr_c1 hr_c2 (by decide) (fun b => b.elim (fun q => hn0 (Or.inl q)) (fun b => b.elim (fun q => hn1 (Or.inl q)) (fun q => hn2 (Or.inl q))))) (w35 cx) (w7 cx) (nle rfl) (nle rfl)) (by rw [hml]; rfl) (argsL := [.int 9]) (rest := []) (lenOf pd1 rfl) rfl rfl (Nat.le_of_eq rfl) (hb hby d5_3) (nle rfl) (nle rfl) ?_
  rintro T1 h1 _ _ _ X1 ⟨rfl, rfl, rfl, J1⟩
  rw [J1] at X1
  refine P.ifNo X1 hx 9 (hb hby d5_6) (by decide) rfl ?_
  refine P.aloadN X1 hx 10 (hb hby d5_9) rfl rfl rfl ?_
  refine P.bipush X1 hx 12 10 (hb hby d5_10) rfl rfl ?_
  refine X1.callV hx (w31 cx) (w32 cx) (w34 cx) (w33 cx) (fun _ hZ => nf hZ (w34 cx)) (by decide) P0 (Ct.pay (W := 0) (ct_vu30 cx x u ku c0 c1 c2 (10 : Int32) h _ _ P0 P1 P2 P3 hr_c0 hr_c1 hr_c2 (by decide) (fun b => b.elim (fun q => hn0 (Or.inr (Or.inl q))) (fun b => b.elim (fun q => hn1 (Or.inr (Or.inl q))) (fun q => hn2 (Or.inr (Or.inl q)))))) (w35 cx) (w7 cx) (nle rfl) (nle rfl)) (by rw [hml]; rfl) (argsL := [.int 10]) (rest := []) (lenOf pd1 rfl) rfl rfl (Nat.le_of_eq rfl) (hb hby d5_12) (nle rfl) (nle rfl) ?_
  rintro T2 h2 _ _ _ X2 ⟨rfl, rfl, rfl, J2⟩
  rw [J2] at X2
  refine P.ifNo X2 hx 18 (hb hby d5_15) (by decide) rfl ?_
  refine P.aloadN X2 hx 19 (hb hby d5_18) rfl rfl rfl ?_
  refine P.bipush X2 hx 21 13 (hb hby d5_19) rfl rfl ?_
  refine X2.callV hx (w31 cx) (w32 cx) (w34 cx) (w33 cx) (fun _ hZ => nf hZ (w34 cx)) (by decide) P0 (Ct.pay (W := 0) (ct_vu30 cx x u ku c0 c1 c2 (13 : Int32) h _ _ P0 P1 P2 P3 hr_c0 hr_c1 hr_c2 (by decide) (fun b => b.elim (fun q => hn0 (Or.inr (Or.inr q))) (fun b => b.elim (fun q => hn1 (Or.inr (Or.inr q))) (fun q => hn2 (Or.inr (Or.inr q)))))) (w35 cx) (w7 cx) (nle rfl) (nle rfl)) (by rw [hml]; rfl) (argsL := [.int 13]) (rest := []) (lenOf pd1 rfl) rfl rfl (Nat.le_of_eq rfl) (hb hby d5_21) (nle rfl) (nle rfl) ?_
  rintro T3 h3 _ _ _ X3 ⟨rfl, rfl, rfl, J3⟩
  rw [J3] at X3
  refine P.ifNo X3 hx 27 (hb hby d5_24) (by decide) rfl ?_
  refine P.iconst X3 hx 28 1 (hb hby d5_27) rfl rfl ?_
  refine P.goto X3 hx 32 (hb hby d5_28) (by decide) (by decide) ?_
  exact WS.retN X3 (WL' := []) (FL' := []) hx (t := .boolean) hret (by simp) hlk (hb hby d5_32) (nle rfl) (nle rfl) ⟨rfl, rfl, rfl, rfl⟩
def Q_pr013 (Z : State) (gC : Int32) (gF : Value) (x : Addr) (u : Addr) (ku : ClassId) (c0 : Int32) (c1 : Int32) (c2 : Int32) (h : Heap) (v : Option Value) (h' : Heap) (WL' FL' : List Addr) : Prop := v = some (.int 0) ∧ WL' = [] ∧ FL' = [] ∧ h' = h
theorem ct_pr013_0 {l : Launch} {Z : State} {a0 : Array Value} {gC : Int32} {gF : Value} (cx : Cx a0 Z gC gF) {n0 : Nat} (x : Addr) (u : Addr) (ku : ClassId) (c0 : Int32) (c1 : Int32) (c2 : Int32) (h : Heap) (WL FL : List Addr) (P0 : Exa Z h x "java/lang/String") (P1 : Fld Z h x "java/lang/String" "value" "[B" (.ref u)) (P2 : Fld Z h x "java/lang/String" "coder" "B" (.int 1)) (P3 : Arv Z h u ku .byte (6 : Int32) [(.int (c0.toInt8.toInt32)), (.int ((c0 >>> ((8 : Int32) &&& 31)).toInt8.toInt32)), (.int (c1.toInt8.toInt32)), (.int ((c1 >>> ((8 : Int32) &&& 31)).toInt8.toInt32)), (.int (c2.toInt8.toInt32)), (.int ((c2 >>> ((8 : Int32) &&& 31)).toInt8.toInt32))] (.int 0)) (hr_c0 : ¬ c0 < 0 ∧ ¬ (65535 : Int32) < c0) (hr_c1 : ¬ c1 < 0 ∧ ¬ (65535 : Int32) < c1) (hr_c2 : ¬ c2 < 0 ∧ ¬ (65535 : Int32) < c2) (hF : (c0 = (9 : Int32) ∨ c0 = (10 : Int32) ∨ c0 = (13 : Int32)) ∨ (c1 = (9 : Int32) ∨ c1 = (10 : Int32) ∨ c1 = (13 : Int32)) ∨ (c2 = (9 : Int32) ∨ c2 = (10 : Int32) ∨ c2 = (13 : Int32))) (b0 : c0 = (9 : Int32) ∨ c1 = (9 : Int32) ∨ c2 = (9 : Int32)) :
    Ct l Z EL1 n0 (⟨"com/example/lynceus/lynceus/Bag", "isPrintable", "(Ljava/lang/String;)Z"⟩ : MethodName) prog_1_method_3_code 1 (Option.some Jvm.ClassFile.FieldType.boolean) ({ frames := 7, cells := 0, slots := 0, locals := 100 } : Room) #[(.ref x)] h WL FL (Q_pr013 Z gC gF x u ku c0 c1 c2 h) := by
  refine Ct.of (plainFor_of_name pn5) ?_
  intro p e s m below meth c s1 hx hby hml hnm hret hlk X0
  refine Wo.cast (f' := (mkF m 0 #[.val (.ref x)] [])) (by rfl) ?_
  show Wo _ _ _ _ _ _ _ _ _ _ _ s1 (mkF m 0 #[.val (.ref x)] [])
  refine P.aloadN X0 hx 1 (hb hby d5_0) rfl rfl rfl ?_
  refine P.bipush X0 hx 3 9 (hb hby d5_1) rfl rfl ?_
  refine X0.callV hx (w31 cx) (w32 cx) (w34 cx) (w33 cx) (fun _ hZ => nf hZ (w34 cx)) (by decide) P0 (Ct.pay (W := 0) (ct_vu31 cx x u ku c0 c1 c2 (9 : Int32) h _ _ P0 P1 P2 P3 hr_c0 hr_c1 hr_c2 (by decide) b0) (w35 cx) (w7 cx) (nle rfl) (nle rfl)) (by rw [hml]; rfl) (argsL := [.int 9]) (rest := []) (lenOf pd1 rfl) rfl rfl (Nat.le_of_eq rfl) (hb hby d5_3) (nle rfl) (nle rfl) ?_
  rintro T1 h1 _ _ _ X1 ⟨x2, rfl, rfl, rfl, J1, G3⟩
  rw [J1] at X1
  refine P.ifYes X1 hx 31 (hb hby d5_6) ((if0 _ _).trans (flt G3).2.1) (by decide) (by decide) ?_
  refine P.iconst X1 hx 32 0 (hb hby d5_31) rfl rfl ?_
  exact WS.retN X1 (WL' := []) (FL' := []) hx (t := .boolean) hret (by simp) hlk (hb hby d5_32) (nle rfl) (nle rfl) ⟨rfl, rfl, rfl, rfl⟩
theorem ct_pr013_1 {l : Launch} {Z : State} {a0 : Array Value} {gC : Int32} {gF : Value} (cx : Cx a0 Z gC gF) {n0 : Nat} (x : Addr) (u : Addr) (ku : ClassId) (c0 : Int32) (c1 : Int32) (c2 : Int32) (h : Heap) (WL FL : List Addr) (P0 : Exa Z h x "java/lang/String") (P1 : Fld Z h x "java/lang/String" "value" "[B" (.ref u)) (P2 : Fld Z h x "java/lang/String" "coder" "B" (.int 1)) (P3 : Arv Z h u ku .byte (6 : Int32) [(.int (c0.toInt8.toInt32)), (.int ((c0 >>> ((8 : Int32) &&& 31)).toInt8.toInt32)), (.int (c1.toInt8.toInt32)), (.int ((c1 >>> ((8 : Int32) &&& 31)).toInt8.toInt32)), (.int (c2.toInt8.toInt32)), (.int ((c2 >>> ((8 : Int32) &&& 31)).toInt8.toInt32))] (.int 0)) (hr_c0 : ¬ c0 < 0 ∧ ¬ (65535 : Int32) < c0) (hr_c1 : ¬ c1 < 0 ∧ ¬ (65535 : Int32) < c1) (hr_c2 : ¬ c2 < 0 ∧ ¬ (65535 : Int32) < c2) (hF : (c0 = (9 : Int32) ∨ c0 = (10 : Int32) ∨ c0 = (13 : Int32)) ∨ (c1 = (9 : Int32) ∨ c1 = (10 : Int32) ∨ c1 = (13 : Int32)) ∨ (c2 = (9 : Int32) ∨ c2 = (10 : Int32) ∨ c2 = (13 : Int32))) (a0 : ¬ (c0 = (9 : Int32) ∨ c1 = (9 : Int32) ∨ c2 = (9 : Int32))) (b1 : c0 = (10 : Int32) ∨ c1 = (10 : Int32) ∨ c2 = (10 : Int32)) :
    Ct l Z EL1 n0 (⟨"com/example/lynceus/lynceus/Bag", "isPrintable", "(Ljava/lang/String;)Z"⟩ : MethodName) prog_1_method_3_code 1 (Option.some Jvm.ClassFile.FieldType.boolean) ({ frames := 7, cells := 0, slots := 0, locals := 100 } : Room) #[(.ref x)] h WL FL (Q_pr013 Z gC gF x u ku c0 c1 c2 h) := by
  refine Ct.of (plainFor_of_name pn5) ?_
  intro p e s m below meth c s1 hx hby hml hnm hret hlk X0
  refine Wo.cast (f' := (mkF m 0 #[.val (.ref x)] [])) (by rfl) ?_
  show Wo _ _ _ _ _ _ _ _ _ _ _ s1 (mkF m 0 #[.val (.ref x)] [])
  refine P.aloadN X0 hx 1 (hb hby d5_0) rfl rfl rfl ?_
  refine P.bipush X0 hx 3 9 (hb hby d5_1) rfl rfl ?_
  refine X0.callV hx (w31 cx) (w32 cx) (w34 cx) (w33 cx) (fun _ hZ => nf hZ (w34 cx)) (by decide) P0 (Ct.pay (W := 0) (ct_vu30 cx x u ku c0 c1 c2 (9 : Int32) h _ _ P0 P1 P2 P3 hr_c0 hr_c1 hr_c2 (by decide) a0) (w35 cx) (w7 cx) (nle rfl) (nle rfl)) (by rw [hml]; rfl) (argsL := [.int 9]) (rest := []) (lenOf pd1 rfl) rfl rfl (Nat.le_of_eq rfl) (hb hby d5_3) (nle rfl) (nle rfl) ?_
  rintro T1 h1 _ _ _ X1 ⟨rfl, rfl, rfl, J1⟩
  rw [J1] at X1
  refine P.ifNo X1 hx 9 (hb hby d5_6) (by decide) rfl ?_
  refine P.aloadN X1 hx 10 (hb hby d5_9) rfl rfl rfl ?_
  refine P.bipush X1 hx 12 10 (hb hby d5_10) rfl rfl ?_
  refine X1.callV hx (w31 cx) (w32 cx) (w34 cx) (w33 cx) (fun _ hZ => nf hZ (w34 cx)) (by decide) P0 (Ct.pay (W := 0) (ct_vu31 cx x u ku c0 c1 c2 (10 : Int32) h _ _ P0 P1 P2 P3 hr_c0 hr_c1 hr_c2 (by decide) b1) (w35 cx) (w7 cx) (nle rfl) (nle rfl)) (by rw [hml]; rfl) (argsL := [.int 10]) (rest := []) (lenOf pd1 rfl) rfl rfl (Nat.le_of_eq rfl) (hb hby d5_12) (nle rfl) (nle rfl) ?_
  rintro T2 h2 _ _ _ X2 ⟨x3, rfl, rfl, rfl, J2, G4⟩
  rw [J2] at X2
  refine P.ifYes X2 hx 31 (hb hby d5_15) ((if0 _ _).trans (flt G4).2.1) (by decide) (by decide) ?_
  refine P.iconst X2 hx 32 0 (hb hby d5_31) rfl rfl ?_
  exact WS.retN X2 (WL' := []) (FL' := []) hx (t := .boolean) hret (by simp) hlk (hb hby d5_32) (nle rfl) (nle rfl) ⟨rfl, rfl, rfl, rfl⟩
theorem ct_pr013_2 {l : Launch} {Z : State} {a0 : Array Value} {gC : Int32} {gF : Value} (cx : Cx a0 Z gC gF) {n0 : Nat} (x : Addr) (u : Addr) (ku : ClassId) (c0 : Int32) (c1 : Int32) (c2 : Int32) (h : Heap) (WL FL : List Addr) (P0 : Exa Z h x "java/lang/String") (P1 : Fld Z h x "java/lang/String" "value" "[B" (.ref u)) (P2 : Fld Z h x "java/lang/String" "coder" "B" (.int 1)) (P3 : Arv Z h u ku .byte (6 : Int32) [(.int (c0.toInt8.toInt32)), (.int ((c0 >>> ((8 : Int32) &&& 31)).toInt8.toInt32)), (.int (c1.toInt8.toInt32)), (.int ((c1 >>> ((8 : Int32) &&& 31)).toInt8.toInt32)), (.int (c2.toInt8.toInt32)), (.int ((c2 >>> ((8 : Int32) &&& 31)).toInt8.toInt32))] (.int 0)) (hr_c0 : ¬ c0 < 0 ∧ ¬ (65535 : Int32) < c0) (hr_c1 : ¬ c1 < 0 ∧ ¬ (65535 : Int32) < c1) (hr_c2 : ¬ c2 < 0 ∧ ¬ (65535 : Int32) < c2) (hF : (c0 = (9 : Int32) ∨ c0 = (10 : Int32) ∨ c0 = (13 : Int32)) ∨ (c1 = (9 : Int32) ∨ c1 = (10 : Int32) ∨ c1 = (13 : Int32)) ∨ (c2 = (9 : Int32) ∨ c2 = (10 : Int32) ∨ c2 = (13 : Int32))) (a0 : ¬ (c0 = (9 : Int32) ∨ c1 = (9 : Int32) ∨ c2 = (9 : Int32))) (a1 : ¬ (c0 = (10 : Int32) ∨ c1 = (10 : Int32) ∨ c2 = (10 : Int32))) (b2 : c0 = (13 : Int32) ∨ c1 = (13 : Int32) ∨ c2 = (13 : Int32)) :
    Ct l Z EL1 n0 (⟨"com/example/lynceus/lynceus/Bag", "isPrintable", "(Ljava/lang/String;)Z"⟩ : MethodName) prog_1_method_3_code 1 (Option.some Jvm.ClassFile.FieldType.boolean) ({ frames := 7, cells := 0, slots := 0, locals := 100 } : Room) #[(.ref x)] h WL FL (Q_pr013 Z gC gF x u ku c0 c1 c2 h) := by
  refine Ct.of (plainFor_of_name pn5) ?_
  intro p e s m below meth c s1 hx hby hml hnm hret hlk X0
  refine Wo.cast (f' := (mkF m 0 #[.val (.ref x)] [])) (by rfl) ?_
  show Wo _ _ _ _ _ _ _ _ _ _ _ s1 (mkF m 0 #[.val (.ref x)] [])
  refine P.aloadN X0 hx 1 (hb hby d5_0) rfl rfl rfl ?_
  refine P.bipush X0 hx 3 9 (hb hby d5_1) rfl rfl ?_
  refine X0.callV hx (w31 cx) (w32 cx) (w34 cx) (w33 cx) (fun _ hZ => nf hZ (w34 cx)) (by decide) P0 (Ct.pay (W := 0) (ct_vu30 cx x u ku c0 c1 c2 (9 : Int32) h _ _ P0 P1 P2 P3 hr_c0 hr_c1 hr_c2 (by decide) a0) (w35 cx) (w7 cx) (nle rfl) (nle rfl)) (by rw [hml]; rfl) (argsL := [.int 9]) (rest := []) (lenOf pd1 rfl) rfl rfl (Nat.le_of_eq rfl) (hb hby d5_3) (nle rfl) (nle rfl) ?_
  rintro T1 h1 _ _ _ X1 ⟨rfl, rfl, rfl, J1⟩
  rw [J1] at X1
  refine P.ifNo X1 hx 9 (hb hby d5_6) (by decide) rfl ?_
  refine P.aloadN X1 hx 10 (hb hby d5_9) rfl rfl rfl ?_
  refine P.bipush X1 hx 12 10 (hb hby d5_10) rfl rfl ?_
  refine X1.callV hx (w31 cx) (w32 cx) (w34 cx) (w33 cx) (fun _ hZ => nf hZ (w34 cx)) (by decide) P0 (Ct.pay (W := 0) (ct_vu30 cx x u ku c0 c1 c2 (10 : Int32) h _ _ P0 P1 P2 P3 hr_c0 hr_c1 hr_c2 (by decide) a1) (w35 cx) (w7 cx) (nle rfl) (nle rfl)) (by rw [hml]; rfl) (argsL := [.int 10]) (rest := []) (lenOf pd1 rfl) rfl rfl (Nat.le_of_eq rfl) (hb hby d5_12) (nle rfl) (nle rfl) ?_
  rintro T2 h2 _ _ _ X2 ⟨rfl, rfl, rfl, J2⟩
  rw [J2] at X2
  refine P.ifNo X2 hx 18 (hb hby d5_15) (by decide) rfl ?_
  refine P.aloadN X2 hx 19 (hb hby d5_18) rfl rfl rfl ?_
  refine P.bipush X2 hx 21 13 (hb hby d5_19) rfl rfl ?_
  refine X2.callV hx (w31 cx) (w32 cx) (w34 cx) (w33 cx) (fun _ hZ => nf hZ (w34 cx)) (by decide) P0 (Ct.pay (W := 0) (ct_vu31 cx x u ku c0 c1 c2 (13 : Int32) h _ _ P0 P1 P2 P3 hr_c0 hr_c1 hr_c2 (by decide) b2) (w35 cx) (w7 cx) (nle rfl) (nle rfl)) (by rw [hml]; rfl) (argsL := [.int 13]) (rest := []) (lenOf pd1 rfl) rfl rfl (Nat.le_of_eq rfl) (hb hby d5_21) (nle rfl) (nle rfl) ?_
  rintro T3 h3 _ _ _ X3 ⟨x4, rfl, rfl, rfl, J3, G5⟩
  rw [J3] at X3
  refine P.ifYes X3 hx 31 (hb hby d5_24) ((if0 _ _).trans (flt G5).2.1) (by decide) (by decide) ?_
  refine P.iconst X3 hx 32 0 (hb hby d5_31) rfl rfl ?_
  exact WS.retN X3 (WL' := []) (FL' := []) hx (t := .boolean) hret (by simp) hlk (hb hby d5_32) (nle rfl) (nle rfl) ⟨rfl, rfl, rfl, rfl⟩
theorem ct_pr013 {l : Launch} {Z : State} {a0 : Array Value} {gC : Int32} {gF : Value} (cx : Cx a0 Z gC gF) {n0 : Nat} (x : Addr) (u : Addr) (ku : ClassId) (c0 : Int32) (c1 : Int32) (c2 : Int32) (h : Heap) (WL FL : List Addr) (P0 : Exa Z h x "java/lang/String") (P1 : Fld Z h x "java/lang/String" "value" "[B" (.ref u)) (P2 : Fld Z h x "java/lang/String" "coder" "B" (.int 1)) (P3 : Arv Z h u ku .byte (6 : Int32) [(.int (c0.toInt8.toInt32)), (.int ((c0 >>> ((8 : Int32) &&& 31)).toInt8.toInt32)), (.int (c1.toInt8.toInt32)), (.int ((c1 >>> ((8 : Int32) &&& 31)).toInt8.toInt32)), (.int (c2.toInt8.toInt32)), (.int ((c2 >>> ((8 : Int32) &&& 31)).toInt8.toInt32))] (.int 0)) (hr_c0 : ¬ c0 < 0 ∧ ¬ (65535 : Int32) < c0) (hr_c1 : ¬ c1 < 0 ∧ ¬ (65535 : Int32) < c1) (hr_c2 : ¬ c2 < 0 ∧ ¬ (65535 : Int32) < c2) (hF : (c0 = (9 : Int32) ∨ c0 = (10 : Int32) ∨ c0 = (13 : Int32)) ∨ (c1 = (9 : Int32) ∨ c1 = (10 : Int32) ∨ c1 = (13 : Int32)) ∨ (c2 = (9 : Int32) ∨ c2 = (10 : Int32) ∨ c2 = (13 : Int32))) :
    Ct l Z EL1 n0 (⟨"com/example/lynceus/lynceus/Bag", "isPrintable", "(Ljava/lang/String;)Z"⟩ : MethodName) prog_1_method_3_code 1 (Option.some Jvm.ClassFile.FieldType.boolean) ({ frames := 7, cells := 0, slots := 0, locals := 100 } : Room) #[(.ref x)] h WL FL (Q_pr013 Z gC gF x u ku c0 c1 c2 h) := by
  by_cases a0 : c0 = (9 : Int32) ∨ c1 = (9 : Int32) ∨ c2 = (9 : Int32)
  · exact ct_pr013_0 cx x u ku c0 c1 c2 h WL FL P0 P1 P2 P3 hr_c0 hr_c1 hr_c2 hF a0
  by_cases a1 : c0 = (10 : Int32) ∨ c1 = (10 : Int32) ∨ c2 = (10 : Int32)
  · exact ct_pr013_1 cx x u ku c0 c1 c2 h WL FL P0 P1 P2 P3 hr_c0 hr_c1 hr_c2 hF a0 a1
  have b2 : c0 = (13 : Int32) ∨ c1 = (13 : Int32) ∨ c2 = (13 : Int32) := Decidable.byContradiction fun q => (fun b => b.elim (fun b => b.elim (fun z => a0 (Or.inl z)) (fun b => b.elim (fun z => a1 (Or.inl z)) (fun z => q (Or.inl z)))) (fun b => b.elim (fun b => b.elim (fun z => a0 (Or.inr (Or.inl z))) (fun b => b.elim (fun z => a1 (Or.inr (Or.inl z))) (fun z => q (Or.inr (Or.inl z))))) (fun b => b.elim (fun z => a0 (Or.inr (Or.inr z))) (fun b => b.elim (fun z => a1 (Or.inr (Or.inr z))) (fun z => q (Or.inr (Or.inr z))))))) hF
  exact ct_pr013_2 cx x u ku c0 c1 c2 h WL FL P0 P1 P2 P3 hr_c0 hr_c1 hr_c2 hF a0 a1 b2
def Q_law (Z : State) (gC : Int32) (gF : Value) (p0 : Int32) (p1 : Int32) (p2 : Int32) (p3 : Int32) (h : Heap) (v : Option Value) (h' : Heap) (WL' FL' : List Addr) : Prop := v = some (.int 1) ∧ WL' = [] ∧ FL' = [] ∧ Keep h h' []
theorem ct_law_0 {l : Launch} {Z : State} {a0 : Array Value} {gC : Int32} {gF : Value} (cx : Cx a0 Z gC gF) {n0 : Nat} (p0 : Int32) (p1 : Int32) (p2 : Int32) (p3 : Int32) (h : Heap) (WL FL : List Addr)  (en : (p0 &&& (3 : Int32)) = (0 : Int32)) :
    Ct l Z EL1 n0 x code maxLocals ret room_1 #[(.int p0), (.int p1), (.int p2), (.int p3)] h WL FL (Q_law Z gC gF p0 p1 p2 p3 h) := by
  refine Ct.of (plainFor_of_name pn2) ?_
  intro p e s m below meth c s1 hx hby hml hnm hret hlk X0
  refine Wo.cast (f' := (mkF m 0 #[.val (.int p0), .val (.int p1), .val (.int p2), .val (.int p3), .unset, .unset, .unset, .unset, .unset, .unset] [])) (by rfl) ?_
  have K0 : Keep h h [] := Keep.refl _ _
  show Wo _ _ _ _ _ _ _ _ _ _ _ s1 (mkF m 0 #[.val (.int p0), .val (.int p1), .val (.int p2), .val (.int p3), .unset, .unset, .unset, .unset, .unset, .unset] [])
  refine P.iloadN X0 hx 1 (hb hby at_0) rfl rfl ?_
  refine P.iconst X0 hx 2 3 (hb hby at_1) rfl rfl ?_
  refine P.iand X0 hx 3 (z := (0 : Int32)) (hb hby at_2) (by rw [en]) rfl ?_
  refine P.istore X0 hx 5 #[.val (.int p0), .val (.int p1), .val (.int p2), .val (.int p3), .val (.int 0), .unset, .unset, .unset, .unset, .unset] (hb hby at_3) rfl rfl ?_
  refine P.iloadN X0 hx 6 (hb hby at_5) rfl rfl ?_
  refine X0.callS hx (w0 cx) (w1 cx) (w2 cx) (w3 cx) (by decide) (Ct.pay (W := 0) (ct_draw cx p1 h _ _ ) (w3 cx) (w2 cx) (nle rfl) (nle rfl)) (by rw [hml]; rfl) (argsL := [.int p1]) (rest := []) (lenOf pd18 rfl) rfl rfl (Nat.le_of_eq rfl) (hb hby at_6) (nle rfl) (nle rfl) ?_
  rintro T1 h1 _ _ _ X1 ⟨x2, rfl, rfl, rfl, J1, G3⟩
  rw [J1] at X1
  refine P.istore X1 hx 11 #[.val (.int p0), .val (.int p1), .val (.int p2), .val (.int p3), .val (.int 0), .val (.int x2), .unset, .unset, .unset, .unset] (hb hby at_9) rfl rfl ?_
  refine P.iloadN X1 hx 12 (hb hby at_11) rfl rfl ?_
  refine X1.callS hx (w0 cx) (w1 cx) (w2 cx) (w3 cx) (by decide) (Ct.pay (W := 0) (ct_draw cx p2 h _ _ ) (w3 cx) (w2 cx) (nle rfl) (nle rfl)) (by rw [hml]; rfl) (argsL := [.int p2]) (rest := []) (lenOf pd18 rfl) rfl rfl (Nat.le_of_eq rfl) (hb hby at_12) (nle rfl) (nle rfl) ?_
  rintro T4 h4 _ _ _ X4 ⟨x5, rfl, rfl, rfl, J4, G6⟩
  rw [J4] at X4
  refine P.istore X4 hx 17 #[.val (.int p0), .val (.int p1), .val (.int p2), .val (.int p3), .val (.int 0), .val (.int x2), .val (.int x5), .unset, .unset, .unset] (hb hby at_15) rfl rfl ?_
  refine P.iloadN X4 hx 18 (hb hby at_17) rfl rfl ?_
  refine X4.callS hx (w0 cx) (w1 cx) (w2 cx) (w3 cx) (by decide) (Ct.pay (W := 0) (ct_draw cx p3 h _ _ ) (w3 cx) (w2 cx) (nle rfl) (nle rfl)) (by rw [hml]; rfl) (argsL := [.int p3]) (rest := []) (lenOf pd18 rfl) rfl rfl (Nat.le_of_eq rfl) (hb hby at_18) (nle rfl) (nle rfl) ?_
  rintro T7 h7 _ _ _ X7 ⟨x8, rfl, rfl, rfl, J7, G9⟩
  rw [J7] at X7
  refine P.istore X7 hx 23 #[.val (.int p0), .val (.int p1), .val (.int p2), .val (.int p3), .val (.int 0), .val (.int x2), .val (.int x5), .val (.int x8), .unset, .unset] (hb hby at_21) rfl rfl ?_
  refine P.iload X7 hx 25 (hb hby at_23) rfl rfl ?_
  refine P.ifNo X7 hx 28 (hb hby at_25) (by decide) rfl ?_
  refine X7.newO hx (w5 cx) (w6 cx) (w7 cx) (hb hby at_28) (nle rfl) (nle rfl) ?_
  intro T10 h10 a10 X10 E10 g10 A10 D10
  have ge11 : h.size ≤ a10 := Nat.le_trans K0.1 g10
  have K12 : Keep h h10 [] := K0.ext E10
  have D13 : Fld Z h10 a10 "java/lang/String" "value" "[B" .null := D10 (Or.inr (w21 cx)) (ty := (.array .byte)) (by decide)
  have D14 : Fld Z h10 a10 "java/lang/String" "coder" "B" (.int 0) := D10 (Or.inr (w22 cx)) (ty := .byte) (by decide)
  refine P.dup X10 hx 32 (hb hby at_31) rfl rfl ?_
  refine P.iconst X10 hx 33 0 (hb hby at_32) rfl rfl ?_
  refine X10.newP (aty := .char) hx (w8 cx) (hb hby at_33) (by decide) (cap := 0) (nle rfl) (nle rfl) (nle rfl) (nle rfl) ?_
  intro T15 h15 a15 k15 X15 E15 g15 A15
  have ge16 : h.size ≤ a15 := Nat.le_trans K12.1 g15
  have K17 : Keep h h15 [] := K12.ext E15
  have V18 : Arv Z h15 a15 k15 .char (0 : Int32) [] (.int 0) := A15
  have F19 : Exa Z h15 a10 "java/lang/String" := (A10.ext E15)
  have F20 : Fld Z h15 a10 "java/lang/String" "value" "[B" .null := (D13.ext E15)
  have F21 : Fld Z h15 a10 "java/lang/String" "coder" "B" (.int 0) := (D14.ext E15)
  refine X15.callC hx rfl (w9 cx) (w10 cx) (w11 cx) (by decide) (Ct.pay (W := 1) (ct_s1e cx a10 a15 _ _ h15 _ _ F19 F20 F21 (List.mem_of_getElem? (i := 1) rfl) V18) (w11 cx) (w7 cx) (nle rfl) (nle rfl)) (by rw [hml]; rfl) (argsL := [.ref a15]) (rest := [.ref a10]) (lenOf pd19 rfl) rfl rfl (Nat.le_of_eq rfl) (hb hby at_35) (nle rfl) (nle rfl) ?_
  rintro T22 h22 _ _ _ X22 ⟨a23, rfl, rfl, rfl, J22, G24⟩
  have K25 : Keep h h22 [] := K17.trans J22 (allS (Or.inr ge11) all0)
  refine P.astore X22 hx 40 #[.val (.int p0), .val (.int p1), .val (.int p2), .val (.int p3), .val (.int 0), .val (.int x2), .val (.int x5), .val (.int x8), .val (.ref a10), .unset] (hb hby at_38) rfl rfl rfl ?_
  refine P.goto X22 hx 127 (hb hby at_40) (by decide) (by decide) ?_
  refine P.iconst X22 hx 128 1 (hb hby at_127) rfl rfl ?_
  refine P.istore X22 hx 130 #[.val (.int p0), .val (.int p1), .val (.int p2), .val (.int p3), .val (.int 0), .val (.int x2), .val (.int x5), .val (.int x8), .val (.ref a10), .val (.int 1)] (hb hby at_128) rfl rfl ?_
  refine P.iload X22 hx 132 (hb hby at_130) rfl rfl ?_
  refine P.iconst X22 hx 133 1 (hb hby at_132) rfl rfl ?_
  refine P.icmpYes X22 hx 147 (hb hby at_133) (by decide) (by decide) (by decide) ?_
  refine P.iload X22 hx 149 (hb hby at_147) rfl rfl ?_
  refine P.iconst X22 hx 150 2 (hb hby at_149) rfl rfl ?_
  refine P.icmpYes X22 hx 164 (hb hby at_150) (by decide) (by decide) (by decide) ?_
  refine P.iload X22 hx 166 (hb hby at_164) rfl rfl ?_
  refine P.iconst X22 hx 167 3 (hb hby at_166) rfl rfl ?_
  refine P.icmpYes X22 hx 181 (hb hby at_167) (by decide) (by decide) (by decide) ?_
  refine P.aload X22 hx 183 (hb hby at_181) rfl rfl rfl ?_
  refine X22.callS hx (w27 cx) (w28 cx) (w29 cx) (w30 cx) (by decide) (Ct.pay (W := 0) (ct_pr100 cx a10 a23 h22 _ _ G24) (w30 cx) (w29 cx) (nle rfl) (nle rfl)) (by rw [hml]; rfl) (argsL := [.ref a10]) (rest := []) (lenOf pd20 rfl) rfl rfl (Nat.le_of_eq rfl) (hb hby at_183) (nle rfl) (nle rfl) ?_
  rintro T26 h26 _ _ _ X26 ⟨rfl, rfl, rfl, J26⟩
  rw [J26] at X26
  refine P.iload X26 hx 188 (hb hby at_186) rfl rfl ?_
  refine P.icmpNo X26 hx 191 (hb hby at_188) (by decide) rfl ?_
  refine P.iconst X26 hx 192 1 (hb hby at_191) rfl rfl ?_
  refine P.goto X26 hx 196 (hb hby at_192) (by decide) (by decide) ?_
  have X27 := WS.drop (A := []) (B := (a10 :: WL)) X26
  have X28 := WS.drop (A := []) (B := WL) X27
  have X29 := WS.fl (FL2 := FL) X28 (fun y hy => (List.mem_append_right [a10, a15, a23] hy))
  exact WS.retN X29 (WL' := []) (FL' := []) hx (t := .boolean) hret (by simp) hlk (hb hby at_196) (nle rfl) (nle rfl) ⟨rfl, rfl, rfl, K25⟩
theorem ct_law_1 {l : Launch} {Z : State} {a0 : Array Value} {gC : Int32} {gF : Value} (cx : Cx a0 Z gC gF) {n0 : Nat} (p0 : Int32) (p1 : Int32) (p2 : Int32) (p3 : Int32) (h : Heap) (WL FL : List Addr)  (en : (p0 &&& (3 : Int32)) = (1 : Int32)) :
    Ct l Z EL1 n0 x code maxLocals ret room_1 #[(.int p0), (.int p1), (.int p2), (.int p3)] h WL FL (Q_law Z gC gF p0 p1 p2 p3 h) := by
  refine Ct.of (plainFor_of_name pn2) ?_
  intro p e s m below meth c s1 hx hby hml hnm hret hlk X0
  refine Wo.cast (f' := (mkF m 0 #[.val (.int p0), .val (.int p1), .val (.int p2), .val (.int p3), .unset, .unset, .unset, .unset, .unset, .unset] [])) (by rfl) ?_
  have K0 : Keep h h [] := Keep.refl _ _
  show Wo _ _ _ _ _ _ _ _ _ _ _ s1 (mkF m 0 #[.val (.int p0), .val (.int p1), .val (.int p2), .val (.int p3), .unset, .unset, .unset, .unset, .unset, .unset] [])
  refine P.iloadN X0 hx 1 (hb hby at_0) rfl rfl ?_
  refine P.iconst X0 hx 2 3 (hb hby at_1) rfl rfl ?_
  refine P.iand X0 hx 3 (z := (1 : Int32)) (hb hby at_2) (by rw [en]) rfl ?_
  refine P.istore X0 hx 5 #[.val (.int p0), .val (.int p1), .val (.int p2), .val (.int p3), .val (.int 1), .unset, .unset, .unset, .unset, .unset] (hb hby at_3) rfl rfl ?_
  refine P.iloadN X0 hx 6 (hb hby at_5) rfl rfl ?_
  refine X0.callS hx (w0 cx) (w1 cx) (w2 cx) (w3 cx) (by decide) (Ct.pay (W := 0) (ct_draw cx p1 h _ _ ) (w3 cx) (w2 cx) (nle rfl) (nle rfl)) (by rw [hml]; rfl) (argsL := [.int p1]) (rest := []) (lenOf pd18 rfl) rfl rfl (Nat.le_of_eq rfl) (hb hby at_6) (nle rfl) (nle rfl) ?_
  rintro T1 h1 _ _ _ X1 ⟨x2, rfl, rfl, rfl, J1, G3⟩
  rw [J1] at X1
  refine P.istore X1 hx 11 #[.val (.int p0), .val (.int p1), .val (.int p2), .val (.int p3), .val (.int 1), .val (.int x2), .unset, .unset, .unset, .unset] (hb hby at_9) rfl rfl ?_
  refine P.iloadN X1 hx 12 (hb hby at_11) rfl rfl ?_
  refine X1.callS hx (w0 cx) (w1 cx) (w2 cx) (w3 cx) (by decide) (Ct.pay (W := 0) (ct_draw cx p2 h _ _ ) (w3 cx) (w2 cx) (nle rfl) (nle rfl)) (by rw [hml]; rfl) (argsL := [.int p2]) (rest := []) (lenOf pd18 rfl) rfl rfl (Nat.le_of_eq rfl) (hb hby at_12) (nle rfl) (nle rfl) ?_
  rintro T4 h4 _ _ _ X4 ⟨x5, rfl, rfl, rfl, J4, G6⟩
  rw [J4] at X4
  refine P.istore X4 hx 17 #[.val (.int p0), .val (.int p1), .val (.int p2), .val (.int p3), .val (.int 1), .val (.int x2), .val (.int x5), .unset, .unset, .unset] (hb hby at_15) rfl rfl ?_
  refine P.iloadN X4 hx 18 (hb hby at_17) rfl rfl ?_
  refine X4.callS hx (w0 cx) (w1 cx) (w2 cx) (w3 cx) (by decide) (Ct.pay (W := 0) (ct_draw cx p3 h _ _ ) (w3 cx) (w2 cx) (nle rfl) (nle rfl)) (by rw [hml]; rfl) (argsL := [.int p3]) (rest := []) (lenOf pd18 rfl) rfl rfl (Nat.le_of_eq rfl) (hb hby at_18) (nle rfl) (nle rfl) ?_
  rintro T7 h7 _ _ _ X7 ⟨x8, rfl, rfl, rfl, J7, G9⟩
  rw [J7] at X7
  refine P.istore X7 hx 23 #[.val (.int p0), .val (.int p1), .val (.int p2), .val (.int p3), .val (.int 1), .val (.int x2), .val (.int x5), .val (.int x8), .unset, .unset] (hb hby at_21) rfl rfl ?_
  by_cases hU : (255 : Int32) < x2
  · skip
    refine P.iload X7 hx 25 (hb hby at_23) rfl rfl ?_
    refine P.ifYes X7 hx 43 (hb hby at_25) (by decide) (by decide) (by decide) ?_
    refine P.iload X7 hx 45 (hb hby at_43) rfl rfl ?_
    refine P.iconst X7 hx 46 1 (hb hby at_45) rfl rfl ?_
    refine P.icmpNo X7 hx 49 (hb hby at_46) (by decide) rfl ?_
    refine X7.newO hx (w5 cx) (w6 cx) (w7 cx) (hb hby at_49) (nle rfl) (nle rfl) ?_
    intro T10 h10 a10 X10 E10 g10 A10 D10
    have ge11 : h.size ≤ a10 := Nat.le_trans K0.1 g10
    have K12 : Keep h h10 [] := K0.ext E10
    have D13 : Fld Z h10 a10 "java/lang/String" "value" "[B" .null := D10 (Or.inr (w21 cx)) (ty := (.array .byte)) (by decide)
    have D14 : Fld Z h10 a10 "java/lang/String" "coder" "B" (.int 0) := D10 (Or.inr (w22 cx)) (ty := .byte) (by decide)
    refine P.dup X10 hx 53 (hb hby at_52) rfl rfl ?_
    refine P.iconst X10 hx 54 1 (hb hby at_53) rfl rfl ?_
    refine X10.newP (aty := .char) hx (w8 cx) (hb hby at_54) (by decide) (cap := 1) (nle rfl) (nle rfl) (nle rfl) (nle rfl) ?_
    intro T15 h15 a15 k15 X15 E15 g15 A15
    have ge16 : h.size ≤ a15 := Nat.le_trans K12.1 g15
    have K17 : Keep h h15 [] := K12.ext E15
    have V18 : Arv Z h15 a15 k15 .char (1 : Int32) [(.int 0)] (.int 0) := Arv.pad A15 (pad_rep [] _ 1)
    refine P.dup X15 hx 57 (hb hby at_56) rfl rfl ?_
    refine P.iconst X15 hx 58 0 (hb hby at_57) rfl rfl ?_
    refine P.iload X15 hx 60 (hb hby at_58) rfl rfl ?_
    refine X15.stC hx V18 (j := (0 : Int32)) (x := x2) (i := 0) (by decide) rfl (nlt rfl) (List.mem_of_getElem? (i := 0) rfl) (hb hby at_60) ?_
    intro T19 h19 X19 W19 G19
    have K20 : Keep h h19 [] := K17.wr W19 (Or.inr ge16)
    have V21 : Arv Z h19 a15 k15 .char (1 : Int32) [(.int x2)] (.int 0) := by have q := G19; rw [narU G3] at q; exact q
    have X22 := WS.drop (A := []) (B := (a10 :: WL)) X19
    have F23 : Exa Z h19 a10 "java/lang/String" := ((A10.ext E15).wr W19)
    have F24 : Fld Z h19 a10 "java/lang/String" "value" "[B" .null := ((D13.ext E15).other W19 (Or.inl (Ne.symm (X22.neF (List.mem_of_getElem? (i := 0) rfl) (List.mem_of_getElem? (i := 0) rfl)))))
    have F25 : Fld Z h19 a10 "java/lang/String" "coder" "B" (.int 0) := ((D14.ext E15).other W19 (Or.inl (Ne.symm (X22.neF (List.mem_of_getElem? (i := 0) rfl) (List.mem_of_getElem? (i := 0) rfl)))))
    refine X22.callC hx rfl (w9 cx) (w10 cx) (w11 cx) (by decide) (Ct.pay (W := 1) (ct_s1U1 cx a10 a15 k15 x2 h19 _ _ F23 F24 F25 (List.mem_of_getElem? (i := 0) rfl) V21 (List.mem_of_getElem? (i := 0) rfl) G3 hU) (w11 cx) (w7 cx) (nle rfl) (nle rfl)) (by rw [hml]; rfl) (argsL := [.ref a15]) (rest := [.ref a10]) (lenOf pd19 rfl) rfl rfl (Nat.le_of_eq rfl) (hb hby at_61) (nle rfl) (nle rfl) ?_
    rintro T26 h26 _ _ _ X26 ⟨a27, k28, rfl, rfl, rfl, J26, G29, G30, G31⟩
    have K32 : Keep h h26 [] := K20.trans J26 (allS (Or.inr ge11) all0)
    refine P.astore X26 hx 66 #[.val (.int p0), .val (.int p1), .val (.int p2), .val (.int p3), .val (.int 1), .val (.int x2), .val (.int x5), .val (.int x8), .val (.ref a10), .unset] (hb hby at_64) rfl rfl rfl ?_
    refine P.goto X26 hx 127 (hb hby at_66) (by decide) (by decide) ?_
    refine P.iconst X26 hx 128 1 (hb hby at_127) rfl rfl ?_
    refine P.istore X26 hx 130 #[.val (.int p0), .val (.int p1), .val (.int p2), .val (.int p3), .val (.int 1), .val (.int x2), .val (.int x5), .val (.int x8), .val (.ref a10), .val (.int 1)] (hb hby at_128) rfl rfl ?_
    by_cases hb0 : (x2 = (9 : Int32) ∨ x2 = (10 : Int32) ∨ x2 = (13 : Int32))
    · skip
      refine P.iload X26 hx 132 (hb hby at_130) rfl rfl ?_
      refine P.iconst X26 hx 133 1 (hb hby at_132) rfl rfl ?_
      refine P.icmpNo X26 hx 136 (hb hby at_133) (by decide) rfl ?_
      refine P.iload X26 hx 138 (hb hby at_136) rfl rfl ?_
      refine X26.callS hx (w81 cx) (w82 cx) (w2 cx) (w83 cx) (by decide) (Ct.pay (W := 0) (ct_bad1 cx x2 h26 _ _ hb0) (w83 cx) (w2 cx) (nle rfl) (nle rfl)) (by rw [hml]; rfl) (argsL := [.int x2]) (rest := []) (lenOf pd21 rfl) rfl rfl (Nat.le_of_eq rfl) (hb hby at_138) (nle rfl) (nle rfl) ?_
      rintro T33 h33 _ _ _ X33 ⟨rfl, rfl, rfl, J33⟩
      rw [J33] at X33
      refine P.ifNo X33 hx 144 (hb hby at_141) (by decide) rfl ?_
      refine P.iconst X33 hx 145 0 (hb hby at_144) rfl rfl ?_
      refine P.istore X33 hx 147 #[.val (.int p0), .val (.int p1), .val (.int p2), .val (.int p3), .val (.int 1), .val (.int x2), .val (.int x5), .val (.int x8), .val (.ref a10), .val (.int 0)] (hb hby at_145) rfl rfl ?_
      refine P.iload X33 hx 149 (hb hby at_147) rfl rfl ?_
      refine P.iconst X33 hx 150 2 (hb hby at_149) rfl rfl ?_
      refine P.icmpYes X33 hx 164 (hb hby at_150) (by decide) (by decide) (by decide) ?_
      refine P.iload X33 hx 166 (hb hby at_164) rfl rfl ?_
      refine P.iconst X33 hx 167 3 (hb hby at_166) rfl rfl ?_
      refine P.icmpYes X33 hx 181 (hb hby at_167) (by decide) (by decide) (by decide) ?_
      refine P.aload X33 hx 183 (hb hby at_181) rfl rfl rfl ?_
      have F34 : Exa Z h26 a10 "java/lang/String" := (F23.keep J26)
      refine X33.callS hx (w27 cx) (w28 cx) (w29 cx) (w30 cx) (by decide) (Ct.pay (W := 0) (ct_pr011 cx a10 a27 k28 x2 h26 _ _ F34 G29 G30 G31 G3 hb0) (w30 cx) (w29 cx) (nle rfl) (nle rfl)) (by rw [hml]; rfl) (argsL := [.ref a10]) (rest := []) (lenOf pd20 rfl) rfl rfl (Nat.le_of_eq rfl) (hb hby at_183) (nle rfl) (nle rfl) ?_
      rintro T35 h35 _ _ _ X35 ⟨rfl, rfl, rfl, J35⟩
      rw [J35] at X35
      refine P.iload X35 hx 188 (hb hby at_186) rfl rfl ?_
      refine P.icmpNo X35 hx 191 (hb hby at_188) (by decide) rfl ?_
      refine P.iconst X35 hx 192 1 (hb hby at_191) rfl rfl ?_
      refine P.goto X35 hx 196 (hb hby at_192) (by decide) (by decide) ?_
      have X36 := WS.drop (A := []) (B := WL) X35
      have X37 := WS.fl (FL2 := FL) X36 (fun y hy => (List.mem_append_right [a10, a27, a15] hy))
      exact WS.retN X37 (WL' := []) (FL' := []) hx (t := .boolean) hret (by simp) hlk (hb hby at_196) (nle rfl) (nle rfl) ⟨rfl, rfl, rfl, K32⟩
    · skip
      refine P.iload X26 hx 132 (hb hby at_130) rfl rfl ?_
      refine P.iconst X26 hx 133 1 (hb hby at_132) rfl rfl ?_
      refine P.icmpNo X26 hx 136 (hb hby at_133) (by decide) rfl ?_
      refine P.iload X26 hx 138 (hb hby at_136) rfl rfl ?_
      refine X26.callS hx (w81 cx) (w82 cx) (w2 cx) (w83 cx) (by decide) (Ct.pay (W := 0) (ct_bad0 cx x2 h26 _ _ hb0) (w83 cx) (w2 cx) (nle rfl) (nle rfl)) (by rw [hml]; rfl) (argsL := [.int x2]) (rest := []) (lenOf pd21 rfl) rfl rfl (Nat.le_of_eq rfl) (hb hby at_138) (nle rfl) (nle rfl) ?_
      rintro T33 h33 _ _ _ X33 ⟨rfl, rfl, rfl, J33⟩
      rw [J33] at X33
      refine P.ifYes X33 hx 147 (hb hby at_141) (by decide) (by decide) (by decide) ?_
      refine P.iload X33 hx 149 (hb hby at_147) rfl rfl ?_
      refine P.iconst X33 hx 150 2 (hb hby at_149) rfl rfl ?_
      refine P.icmpYes X33 hx 164 (hb hby at_150) (by decide) (by decide) (by decide) ?_
      refine P.iload X33 hx 166 (hb hby at_164) rfl rfl ?_
      refine P.iconst X33 hx 167 3 (hb hby at_166) rfl rfl ?_
      refine P.icmpYes X33 hx 181 (hb hby at_167) (by decide) (by decide) (by decide) ?_
      refine P.aload X33 hx 183 (hb hby at_181) rfl rfl rfl ?_
      have F34 : Exa Z h26 a10 "java/lang/String" := (F23.keep J26)
      refine X33.callS hx (w27 cx) (w28 cx) (w29 cx) (w30 cx) (by decide) (Ct.pay (W := 0) (ct_pr111 cx a10 a27 k28 x2 h26 _ _ F34 G29 G30 G31 G3 hb0) (w30 cx) (w29 cx) (nle rfl) (nle rfl)) (by rw [hml]; rfl) (argsL := [.ref a10]) (rest := []) (lenOf pd20 rfl) rfl rfl (Nat.le_of_eq rfl) (hb hby at_183) (nle rfl) (nle rfl) ?_
      rintro T35 h35 _ _ _ X35 ⟨rfl, rfl, rfl, J35⟩
      rw [J35] at X35
      refine P.iload X35 hx 188 (hb hby at_186) rfl rfl ?_
      refine P.icmpNo X35 hx 191 (hb hby at_188) (by decide) rfl ?_
      refine P.iconst X35 hx 192 1 (hb hby at_191) rfl rfl ?_
      refine P.goto X35 hx 196 (hb hby at_192) (by decide) (by decide) ?_
      have X36 := WS.drop (A := []) (B := WL) X35
      have X37 := WS.fl (FL2 := FL) X36 (fun y hy => (List.mem_append_right [a10, a27, a15] hy))
      exact WS.retN X37 (WL' := []) (FL' := []) hx (t := .boolean) hret (by simp) hlk (hb hby at_196) (nle rfl) (nle rfl) ⟨rfl, rfl, rfl, K32⟩
  · skip
    refine P.iload X7 hx 25 (hb hby at_23) rfl rfl ?_
    refine P.ifYes X7 hx 43 (hb hby at_25) (by decide) (by decide) (by decide) ?_
    refine P.iload X7 hx 45 (hb hby at_43) rfl rfl ?_
    refine P.iconst X7 hx 46 1 (hb hby at_45) rfl rfl ?_
    refine P.icmpNo X7 hx 49 (hb hby at_46) (by decide) rfl ?_
    refine X7.newO hx (w5 cx) (w6 cx) (w7 cx) (hb hby at_49) (nle rfl) (nle rfl) ?_
    intro T10 h10 a10 X10 E10 g10 A10 D10
    have ge11 : h.size ≤ a10 := Nat.le_trans K0.1 g10
    have K12 : Keep h h10 [] := K0.ext E10
    have D13 : Fld Z h10 a10 "java/lang/String" "value" "[B" .null := D10 (Or.inr (w21 cx)) (ty := (.array .byte)) (by decide)
    have D14 : Fld Z h10 a10 "java/lang/String" "coder" "B" (.int 0) := D10 (Or.inr (w22 cx)) (ty := .byte) (by decide)
    refine P.dup X10 hx 53 (hb hby at_52) rfl rfl ?_
    refine P.iconst X10 hx 54 1 (hb hby at_53) rfl rfl ?_
    refine X10.newP (aty := .char) hx (w8 cx) (hb hby at_54) (by decide) (cap := 1) (nle rfl) (nle rfl) (nle rfl) (nle rfl) ?_
    intro T15 h15 a15 k15 X15 E15 g15 A15
    have ge16 : h.size ≤ a15 := Nat.le_trans K12.1 g15
    have K17 : Keep h h15 [] := K12.ext E15
    have V18 : Arv Z h15 a15 k15 .char (1 : Int32) [(.int 0)] (.int 0) := Arv.pad A15 (pad_rep [] _ 1)
    refine P.dup X15 hx 57 (hb hby at_56) rfl rfl ?_
    refine P.iconst X15 hx 58 0 (hb hby at_57) rfl rfl ?_
    refine P.iload X15 hx 60 (hb hby at_58) rfl rfl ?_
    refine X15.stC hx V18 (j := (0 : Int32)) (x := x2) (i := 0) (by decide) rfl (nlt rfl) (List.mem_of_getElem? (i := 0) rfl) (hb hby at_60) ?_
    intro T19 h19 X19 W19 G19
    have K20 : Keep h h19 [] := K17.wr W19 (Or.inr ge16)
    have V21 : Arv Z h19 a15 k15 .char (1 : Int32) [(.int x2)] (.int 0) := by have q := G19; rw [narU G3] at q; exact q
    have F22 : Exa Z h19 a10 "java/lang/String" := ((A10.ext E15).wr W19)
    have F23 : Fld Z h19 a10 "java/lang/String" "value" "[B" .null := ((D13.ext E15).other W19 (Or.inl (X19.ne (i := 1) (j := 0) rfl rfl (by decide))))
    have F24 : Fld Z h19 a10 "java/lang/String" "coder" "B" (.int 0) := ((D14.ext E15).other W19 (Or.inl (X19.ne (i := 1) (j := 0) rfl rfl (by decide))))
    refine X19.callC hx rfl (w9 cx) (w10 cx) (w11 cx) (by decide) (pay_new (W := 1) (hws cx) (w6 cx) (cs := [x2]) (n := 1) (X19.ge (List.mem_of_getElem? (i := 1) rfl)) X19.n0le (List.mem_of_getElem? (i := 1) rfl) F22 F23 F24 V21 (X19.sta (S_C cx)) (N_C cx) rfl rfl (nle rfl) (nle rfl) (fcS ⟨G3.1, fun q => hU q⟩ fc0) (nle rfl) (nle rfl)) (by rw [hml]; rfl) (argsL := [.ref a15]) (rest := [.ref a10]) (lenOf pd19 rfl) rfl rfl (Nat.le_of_eq rfl) (hb hby at_61) (nle rfl) (nle rfl) ?_
    rintro T25 h25 _ _ _ X25 ⟨a26, rfl, rfl, rfl, J25, G27⟩
    have K28 : Keep h h25 [] := K20.trans J25 (allS (Or.inr ge11) all0)
    refine P.astore X25 hx 66 #[.val (.int p0), .val (.int p1), .val (.int p2), .val (.int p3), .val (.int 1), .val (.int x2), .val (.int x5), .val (.int x8), .val (.ref a10), .unset] (hb hby at_64) rfl rfl rfl ?_
    refine P.goto X25 hx 127 (hb hby at_66) (by decide) (by decide) ?_
    refine P.iconst X25 hx 128 1 (hb hby at_127) rfl rfl ?_
    refine P.istore X25 hx 130 #[.val (.int p0), .val (.int p1), .val (.int p2), .val (.int p3), .val (.int 1), .val (.int x2), .val (.int x5), .val (.int x8), .val (.ref a10), .val (.int 1)] (hb hby at_128) rfl rfl ?_
    by_cases hb0 : (x2 = (9 : Int32) ∨ x2 = (10 : Int32) ∨ x2 = (13 : Int32))
    · skip
      refine P.iload X25 hx 132 (hb hby at_130) rfl rfl ?_
      refine P.iconst X25 hx 133 1 (hb hby at_132) rfl rfl ?_
      refine P.icmpNo X25 hx 136 (hb hby at_133) (by decide) rfl ?_
      refine P.iload X25 hx 138 (hb hby at_136) rfl rfl ?_
      refine X25.callS hx (w81 cx) (w82 cx) (w2 cx) (w83 cx) (by decide) (Ct.pay (W := 0) (ct_bad1 cx x2 h25 _ _ hb0) (w83 cx) (w2 cx) (nle rfl) (nle rfl)) (by rw [hml]; rfl) (argsL := [.int x2]) (rest := []) (lenOf pd21 rfl) rfl rfl (Nat.le_of_eq rfl) (hb hby at_138) (nle rfl) (nle rfl) ?_
      rintro T29 h29 _ _ _ X29 ⟨rfl, rfl, rfl, J29⟩
      rw [J29] at X29
      refine P.ifNo X29 hx 144 (hb hby at_141) (by decide) rfl ?_
      refine P.iconst X29 hx 145 0 (hb hby at_144) rfl rfl ?_
      refine P.istore X29 hx 147 #[.val (.int p0), .val (.int p1), .val (.int p2), .val (.int p3), .val (.int 1), .val (.int x2), .val (.int x5), .val (.int x8), .val (.ref a10), .val (.int 0)] (hb hby at_145) rfl rfl ?_
      refine P.iload X29 hx 149 (hb hby at_147) rfl rfl ?_
      refine P.iconst X29 hx 150 2 (hb hby at_149) rfl rfl ?_
      refine P.icmpYes X29 hx 164 (hb hby at_150) (by decide) (by decide) (by decide) ?_
      refine P.iload X29 hx 166 (hb hby at_164) rfl rfl ?_
      refine P.iconst X29 hx 167 3 (hb hby at_166) rfl rfl ?_
      refine P.icmpYes X29 hx 181 (hb hby at_167) (by decide) (by decide) (by decide) ?_
      refine P.aload X29 hx 183 (hb hby at_181) rfl rfl rfl ?_
      refine X29.callS hx (w27 cx) (w28 cx) (w29 cx) (w30 cx) (by decide) (Ct.pay (W := 0) (ct_pr001 cx a10 a26 x2 h25 _ _ G27 hb0) (w30 cx) (w29 cx) (nle rfl) (nle rfl)) (by rw [hml]; rfl) (argsL := [.ref a10]) (rest := []) (lenOf pd20 rfl) rfl rfl (Nat.le_of_eq rfl) (hb hby at_183) (nle rfl) (nle rfl) ?_
      rintro T30 h30 _ _ _ X30 ⟨rfl, rfl, rfl, J30⟩
      rw [J30] at X30
      refine P.iload X30 hx 188 (hb hby at_186) rfl rfl ?_
      refine P.icmpNo X30 hx 191 (hb hby at_188) (by decide) rfl ?_
      refine P.iconst X30 hx 192 1 (hb hby at_191) rfl rfl ?_
      refine P.goto X30 hx 196 (hb hby at_192) (by decide) (by decide) ?_
      have X31 := WS.drop (A := []) (B := (a10 :: WL)) X30
      have X32 := WS.drop (A := []) (B := WL) X31
      have X33 := WS.fl (FL2 := FL) X32 (fun y hy => (List.mem_append_right [a10, a15, a26] hy))
      exact WS.retN X33 (WL' := []) (FL' := []) hx (t := .boolean) hret (by simp) hlk (hb hby at_196) (nle rfl) (nle rfl) ⟨rfl, rfl, rfl, K28⟩
    · skip
      refine P.iload X25 hx 132 (hb hby at_130) rfl rfl ?_
      refine P.iconst X25 hx 133 1 (hb hby at_132) rfl rfl ?_
      refine P.icmpNo X25 hx 136 (hb hby at_133) (by decide) rfl ?_
      refine P.iload X25 hx 138 (hb hby at_136) rfl rfl ?_
      refine X25.callS hx (w81 cx) (w82 cx) (w2 cx) (w83 cx) (by decide) (Ct.pay (W := 0) (ct_bad0 cx x2 h25 _ _ hb0) (w83 cx) (w2 cx) (nle rfl) (nle rfl)) (by rw [hml]; rfl) (argsL := [.int x2]) (rest := []) (lenOf pd21 rfl) rfl rfl (Nat.le_of_eq rfl) (hb hby at_138) (nle rfl) (nle rfl) ?_
      rintro T29 h29 _ _ _ X29 ⟨rfl, rfl, rfl, J29⟩
      rw [J29] at X29
      refine P.ifYes X29 hx 147 (hb hby at_141) (by decide) (by decide) (by decide) ?_
      refine P.iload X29 hx 149 (hb hby at_147) rfl rfl ?_
      refine P.iconst X29 hx 150 2 (hb hby at_149) rfl rfl ?_
      refine P.icmpYes X29 hx 164 (hb hby at_150) (by decide) (by decide) (by decide) ?_
      refine P.iload X29 hx 166 (hb hby at_164) rfl rfl ?_
      refine P.iconst X29 hx 167 3 (hb hby at_166) rfl rfl ?_
      refine P.icmpYes X29 hx 181 (hb hby at_167) (by decide) (by decide) (by decide) ?_
      refine P.aload X29 hx 183 (hb hby at_181) rfl rfl rfl ?_
      refine X29.callS hx (w27 cx) (w28 cx) (w29 cx) (w30 cx) (by decide) (Ct.pay (W := 0) (ct_pr101 cx a10 a26 x2 h25 _ _ G27 hb0) (w30 cx) (w29 cx) (nle rfl) (nle rfl)) (by rw [hml]; rfl) (argsL := [.ref a10]) (rest := []) (lenOf pd20 rfl) rfl rfl (Nat.le_of_eq rfl) (hb hby at_183) (nle rfl) (nle rfl) ?_
      rintro T30 h30 _ _ _ X30 ⟨rfl, rfl, rfl, J30⟩
      rw [J30] at X30
      refine P.iload X30 hx 188 (hb hby at_186) rfl rfl ?_
      refine P.icmpNo X30 hx 191 (hb hby at_188) (by decide) rfl ?_
      refine P.iconst X30 hx 192 1 (hb hby at_191) rfl rfl ?_
      refine P.goto X30 hx 196 (hb hby at_192) (by decide) (by decide) ?_
      have X31 := WS.drop (A := []) (B := (a10 :: WL)) X30
      have X32 := WS.drop (A := []) (B := WL) X31
      have X33 := WS.fl (FL2 := FL) X32 (fun y hy => (List.mem_append_right [a10, a15, a26] hy))
      exact WS.retN X33 (WL' := []) (FL' := []) hx (t := .boolean) hret (by simp) hlk (hb hby at_196) (nle rfl) (nle rfl) ⟨rfl, rfl, rfl, K28⟩
theorem ct_law_2 {l : Launch} {Z : State} {a0 : Array Value} {gC : Int32} {gF : Value} (cx : Cx a0 Z gC gF) {n0 : Nat} (p0 : Int32) (p1 : Int32) (p2 : Int32) (p3 : Int32) (h : Heap) (WL FL : List Addr)  (en : (p0 &&& (3 : Int32)) = (2 : Int32)) :
    Ct l Z EL1 n0 x code maxLocals ret room_1 #[(.int p0), (.int p1), (.int p2), (.int p3)] h WL FL (Q_law Z gC gF p0 p1 p2 p3 h) := by
  refine Ct.of (plainFor_of_name pn2) ?_
  intro p e s m below meth c s1 hx hby hml hnm hret hlk X0
  refine Wo.cast (f' := (mkF m 0 #[.val (.int p0), .val (.int p1), .val (.int p2), .val (.int p3), .unset, .unset, .unset, .unset, .unset, .unset] [])) (by rfl) ?_
  have K0 : Keep h h [] := Keep.refl _ _
  show Wo _ _ _ _ _ _ _ _ _ _ _ s1 (mkF m 0 #[.val (.int p0), .val (.int p1), .val (.int p2), .val (.int p3), .unset, .unset, .unset, .unset, .unset, .unset] [])
  refine P.iloadN X0 hx 1 (hb hby at_0) rfl rfl ?_
  refine P.iconst X0 hx 2 3 (hb hby at_1) rfl rfl ?_
  refine P.iand X0 hx 3 (z := (2 : Int32)) (hb hby at_2) (by rw [en]) rfl ?_
  refine P.istore X0 hx 5 #[.val (.int p0), .val (.int p1), .val (.int p2), .val (.int p3), .val (.int 2), .unset, .unset, .unset, .unset, .unset] (hb hby at_3) rfl rfl ?_
  refine P.iloadN X0 hx 6 (hb hby at_5) rfl rfl ?_
  refine X0.callS hx (w0 cx) (w1 cx) (w2 cx) (w3 cx) (by decide) (Ct.pay (W := 0) (ct_draw cx p1 h _ _ ) (w3 cx) (w2 cx) (nle rfl) (nle rfl)) (by rw [hml]; rfl) (argsL := [.int p1]) (rest := []) (lenOf pd18 rfl) rfl rfl (Nat.le_of_eq rfl) (hb hby at_6) (nle rfl) (nle rfl) ?_
  rintro T1 h1 _ _ _ X1 ⟨x2, rfl, rfl, rfl, J1, G3⟩
  rw [J1] at X1
  refine P.istore X1 hx 11 #[.val (.int p0), .val (.int p1), .val (.int p2), .val (.int p3), .val (.int 2), .val (.int x2), .unset, .unset, .unset, .unset] (hb hby at_9) rfl rfl ?_
  refine P.iloadN X1 hx 12 (hb hby at_11) rfl rfl ?_
  refine X1.callS hx (w0 cx) (w1 cx) (w2 cx) (w3 cx) (by decide) (Ct.pay (W := 0) (ct_draw cx p2 h _ _ ) (w3 cx) (w2 cx) (nle rfl) (nle rfl)) (by rw [hml]; rfl) (argsL := [.int p2]) (rest := []) (lenOf pd18 rfl) rfl rfl (Nat.le_of_eq rfl) (hb hby at_12) (nle rfl) (nle rfl) ?_
  rintro T4 h4 _ _ _ X4 ⟨x5, rfl, rfl, rfl, J4, G6⟩
  rw [J4] at X4
  refine P.istore X4 hx 17 #[.val (.int p0), .val (.int p1), .val (.int p2), .val (.int p3), .val (.int 2), .val (.int x2), .val (.int x5), .unset, .unset, .unset] (hb hby at_15) rfl rfl ?_
  refine P.iloadN X4 hx 18 (hb hby at_17) rfl rfl ?_
  refine X4.callS hx (w0 cx) (w1 cx) (w2 cx) (w3 cx) (by decide) (Ct.pay (W := 0) (ct_draw cx p3 h _ _ ) (w3 cx) (w2 cx) (nle rfl) (nle rfl)) (by rw [hml]; rfl) (argsL := [.int p3]) (rest := []) (lenOf pd18 rfl) rfl rfl (Nat.le_of_eq rfl) (hb hby at_18) (nle rfl) (nle rfl) ?_
  rintro T7 h7 _ _ _ X7 ⟨x8, rfl, rfl, rfl, J7, G9⟩
  rw [J7] at X7
  refine P.istore X7 hx 23 #[.val (.int p0), .val (.int p1), .val (.int p2), .val (.int p3), .val (.int 2), .val (.int x2), .val (.int x5), .val (.int x8), .unset, .unset] (hb hby at_21) rfl rfl ?_
  by_cases hU : (255 : Int32) < x2 ∨ (255 : Int32) < x5
  · skip
    refine P.iload X7 hx 25 (hb hby at_23) rfl rfl ?_
    refine P.ifYes X7 hx 43 (hb hby at_25) (by decide) (by decide) (by decide) ?_
    refine P.iload X7 hx 45 (hb hby at_43) rfl rfl ?_
    refine P.iconst X7 hx 46 1 (hb hby at_45) rfl rfl ?_
    refine P.icmpYes X7 hx 69 (hb hby at_46) (by decide) (by decide) (by decide) ?_
    refine P.iload X7 hx 71 (hb hby at_69) rfl rfl ?_
    refine P.iconst X7 hx 72 2 (hb hby at_71) rfl rfl ?_
    refine P.icmpNo X7 hx 75 (hb hby at_72) (by decide) rfl ?_
    refine X7.newO hx (w5 cx) (w6 cx) (w7 cx) (hb hby at_75) (nle rfl) (nle rfl) ?_
    intro T10 h10 a10 X10 E10 g10 A10 D10
    have ge11 : h.size ≤ a10 := Nat.le_trans K0.1 g10
    have K12 : Keep h h10 [] := K0.ext E10
    have D13 : Fld Z h10 a10 "java/lang/String" "value" "[B" .null := D10 (Or.inr (w21 cx)) (ty := (.array .byte)) (by decide)
    have D14 : Fld Z h10 a10 "java/lang/String" "coder" "B" (.int 0) := D10 (Or.inr (w22 cx)) (ty := .byte) (by decide)
    refine P.dup X10 hx 79 (hb hby at_78) rfl rfl ?_
    refine P.iconst X10 hx 80 2 (hb hby at_79) rfl rfl ?_
    refine X10.newP (aty := .char) hx (w8 cx) (hb hby at_80) (by decide) (cap := 2) (nle rfl) (nle rfl) (nle rfl) (nle rfl) ?_
    intro T15 h15 a15 k15 X15 E15 g15 A15
    have ge16 : h.size ≤ a15 := Nat.le_trans K12.1 g15
    have K17 : Keep h h15 [] := K12.ext E15
    have V18 : Arv Z h15 a15 k15 .char (2 : Int32) [(.int 0), (.int 0)] (.int 0) := Arv.pad A15 (pad_rep [] _ 2)
    refine P.dup X15 hx 83 (hb hby at_82) rfl rfl ?_
    refine P.iconst X15 hx 84 0 (hb hby at_83) rfl rfl ?_
    refine P.iload X15 hx 86 (hb hby at_84) rfl rfl ?_
    refine X15.stC hx V18 (j := (0 : Int32)) (x := x2) (i := 0) (by decide) rfl (nlt rfl) (List.mem_of_getElem? (i := 0) rfl) (hb hby at_86) ?_
    intro T19 h19 X19 W19 G19
    have K20 : Keep h h19 [] := K17.wr W19 (Or.inr ge16)
    have V21 : Arv Z h19 a15 k15 .char (2 : Int32) [(.int x2), (.int 0)] (.int 0) := by have q := G19; rw [narU G3] at q; exact q
    refine P.dup X19 hx 88 (hb hby at_87) rfl rfl ?_
    refine P.iconst X19 hx 89 1 (hb hby at_88) rfl rfl ?_
    refine P.iload X19 hx 91 (hb hby at_89) rfl rfl ?_
    refine X19.stC hx V21 (j := (1 : Int32)) (x := x5) (i := 1) (by decide) rfl (nlt rfl) (List.mem_of_getElem? (i := 0) rfl) (hb hby at_91) ?_
    intro T22 h22 X22 W22 G22
    have K23 : Keep h h22 [] := K20.wr W22 (Or.inr ge16)
    have V24 : Arv Z h22 a15 k15 .char (2 : Int32) [(.int x2), (.int x5)] (.int 0) := by have q := G22; rw [narU G6] at q; exact q
    have X25 := WS.drop (A := []) (B := (a10 :: WL)) X22
    have F26 : Exa Z h22 a10 "java/lang/String" := (((A10.ext E15).wr W19).wr W22)
    have F27 : Fld Z h22 a10 "java/lang/String" "value" "[B" .null := (((D13.ext E15).other W19 (Or.inl (Ne.symm (X25.neF (List.mem_of_getElem? (i := 0) rfl) (List.mem_of_getElem? (i := 0) rfl))))).other W22 (Or.inl (Ne.symm (X25.neF (List.mem_of_getElem? (i := 0) rfl) (List.mem_of_getElem? (i := 0) rfl)))))
    have F28 : Fld Z h22 a10 "java/lang/String" "coder" "B" (.int 0) := (((D14.ext E15).other W19 (Or.inl (Ne.symm (X25.neF (List.mem_of_getElem? (i := 0) rfl) (List.mem_of_getElem? (i := 0) rfl))))).other W22 (Or.inl (Ne.symm (X25.neF (List.mem_of_getElem? (i := 0) rfl) (List.mem_of_getElem? (i := 0) rfl)))))
    refine X25.callC hx rfl (w9 cx) (w10 cx) (w11 cx) (by decide) (Ct.pay (W := 1) (ct_s1U2 cx a10 a15 k15 x2 x5 h22 _ _ F26 F27 F28 (List.mem_of_getElem? (i := 0) rfl) V24 (List.mem_of_getElem? (i := 0) rfl) G3 G6 hU) (w11 cx) (w7 cx) (nle rfl) (nle rfl)) (by rw [hml]; rfl) (argsL := [.ref a15]) (rest := [.ref a10]) (lenOf pd19 rfl) rfl rfl (Nat.le_of_eq rfl) (hb hby at_92) (nle rfl) (nle rfl) ?_
    rintro T29 h29 _ _ _ X29 ⟨a30, k31, rfl, rfl, rfl, J29, G32, G33, G34⟩
    have K35 : Keep h h29 [] := K23.trans J29 (allS (Or.inr ge11) all0)
    refine P.astore X29 hx 97 #[.val (.int p0), .val (.int p1), .val (.int p2), .val (.int p3), .val (.int 2), .val (.int x2), .val (.int x5), .val (.int x8), .val (.ref a10), .unset] (hb hby at_95) rfl rfl rfl ?_
    refine P.goto X29 hx 127 (hb hby at_97) (by decide) (by decide) ?_
    refine P.iconst X29 hx 128 1 (hb hby at_127) rfl rfl ?_
    refine P.istore X29 hx 130 #[.val (.int p0), .val (.int p1), .val (.int p2), .val (.int p3), .val (.int 2), .val (.int x2), .val (.int x5), .val (.int x8), .val (.ref a10), .val (.int 1)] (hb hby at_128) rfl rfl ?_
    by_cases hb0 : (x2 = (9 : Int32) ∨ x2 = (10 : Int32) ∨ x2 = (13 : Int32))
    · skip
      by_cases hb1 : (x5 = (9 : Int32) ∨ x5 = (10 : Int32) ∨ x5 = (13 : Int32))
      · skip
        refine P.iload X29 hx 132 (hb hby at_130) rfl rfl ?_
        refine P.iconst X29 hx 133 1 (hb hby at_132) rfl rfl ?_
        refine P.icmpNo X29 hx 136 (hb hby at_133) (by decide) rfl ?_
        refine P.iload X29 hx 138 (hb hby at_136) rfl rfl ?_
        refine X29.callS hx (w81 cx) (w82 cx) (w2 cx) (w83 cx) (by decide) (Ct.pay (W := 0) (ct_bad1 cx x2 h29 _ _ hb0) (w83 cx) (w2 cx) (nle rfl) (nle rfl)) (by rw [hml]; rfl) (argsL := [.int x2]) (rest := []) (lenOf pd21 rfl) rfl rfl (Nat.le_of_eq rfl) (hb hby at_138) (nle rfl) (nle rfl) ?_
        rintro T36 h36 _ _ _ X36 ⟨rfl, rfl, rfl, J36⟩
        rw [J36] at X36
        refine P.ifNo X36 hx 144 (hb hby at_141) (by decide) rfl ?_
        refine P.iconst X36 hx 145 0 (hb hby at_144) rfl rfl ?_
        refine P.istore X36 hx 147 #[.val (.int p0), .val (.int p1), .val (.int p2), .val (.int p3), .val (.int 2), .val (.int x2), .val (.int x5), .val (.int x8), .val (.ref a10), .val (.int 0)] (hb hby at_145) rfl rfl ?_
        refine P.iload X36 hx 149 (hb hby at_147) rfl rfl ?_
        refine P.iconst X36 hx 150 2 (hb hby at_149) rfl rfl ?_
        refine P.icmpNo X36 hx 153 (hb hby at_150) (by decide) rfl ?_
        refine P.iload X36 hx 155 (hb hby at_153) rfl rfl ?_
        refine X36.callS hx (w81 cx) (w82 cx) (w2 cx) (w83 cx) (by decide) (Ct.pay (W := 0) (ct_bad1 cx x5 h29 _ _ hb1) (w83 cx) (w2 cx) (nle rfl) (nle rfl)) (by rw [hml]; rfl) (argsL := [.int x5]) (rest := []) (lenOf pd21 rfl) rfl rfl (Nat.le_of_eq rfl) (hb hby at_155) (nle rfl) (nle rfl) ?_
        rintro T37 h37 _ _ _ X37 ⟨rfl, rfl, rfl, J37⟩
        rw [J37] at X37
        refine P.ifNo X37 hx 161 (hb hby at_158) (by decide) rfl ?_
        refine P.iconst X37 hx 162 0 (hb hby at_161) rfl rfl ?_
        refine P.istore X37 hx 164 #[.val (.int p0), .val (.int p1), .val (.int p2), .val (.int p3), .val (.int 2), .val (.int x2), .val (.int x5), .val (.int x8), .val (.ref a10), .val (.int 0)] (hb hby at_162) rfl rfl ?_
        refine P.iload X37 hx 166 (hb hby at_164) rfl rfl ?_
        refine P.iconst X37 hx 167 3 (hb hby at_166) rfl rfl ?_
        refine P.icmpYes X37 hx 181 (hb hby at_167) (by decide) (by decide) (by decide) ?_
        refine P.aload X37 hx 183 (hb hby at_181) rfl rfl rfl ?_
        have F38 : Exa Z h29 a10 "java/lang/String" := (F26.keep J29)
        refine X37.callS hx (w27 cx) (w28 cx) (w29 cx) (w30 cx) (by decide) (Ct.pay (W := 0) (ct_pr012 cx a10 a30 k31 x2 x5 h29 _ _ F38 G32 G33 G34 G3 G6 (Or.inl hb0)) (w30 cx) (w29 cx) (nle rfl) (nle rfl)) (by rw [hml]; rfl) (argsL := [.ref a10]) (rest := []) (lenOf pd20 rfl) rfl rfl (Nat.le_of_eq rfl) (hb hby at_183) (nle rfl) (nle rfl) ?_
        rintro T39 h39 _ _ _ X39 ⟨rfl, rfl, rfl, J39⟩
        rw [J39] at X39
        refine P.iload X39 hx 188 (hb hby at_186) rfl rfl ?_
        refine P.icmpNo X39 hx 191 (hb hby at_188) (by decide) rfl ?_
        refine P.iconst X39 hx 192 1 (hb hby at_191) rfl rfl ?_
        refine P.goto X39 hx 196 (hb hby at_192) (by decide) (by decide) ?_
        have X40 := WS.drop (A := []) (B := WL) X39
        have X41 := WS.fl (FL2 := FL) X40 (fun y hy => (List.mem_append_right [a10, a30, a15] hy))
        exact WS.retN X41 (WL' := []) (FL' := []) hx (t := .boolean) hret (by simp) hlk (hb hby at_196) (nle rfl) (nle rfl) ⟨rfl, rfl, rfl, K35⟩
      · skip
        refine P.iload X29 hx 132 (hb hby at_130) rfl rfl ?_
        refine P.iconst X29 hx 133 1 (hb hby at_132) rfl rfl ?_
        refine P.icmpNo X29 hx 136 (hb hby at_133) (by decide) rfl ?_
        refine P.iload X29 hx 138 (hb hby at_136) rfl rfl ?_
        refine X29.callS hx (w81 cx) (w82 cx) (w2 cx) (w83 cx) (by decide) (Ct.pay (W := 0) (ct_bad1 cx x2 h29 _ _ hb0) (w83 cx) (w2 cx) (nle rfl) (nle rfl)) (by rw [hml]; rfl) (argsL := [.int x2]) (rest := []) (lenOf pd21 rfl) rfl rfl (Nat.le_of_eq rfl) (hb hby at_138) (nle rfl) (nle rfl) ?_
        rintro T36 h36 _ _ _ X36 ⟨rfl, rfl, rfl, J36⟩
        rw [J36] at X36
        refine P.ifNo X36 hx 144 (hb hby at_141) (by decide) rfl ?_
        refine P.iconst X36 hx 145 0 (hb hby at_144) rfl rfl ?_
        refine P.istore X36 hx 147 #[.val (.int p0), .val (.int p1), .val (.int p2), .val (.int p3), .val (.int 2), .val (.int x2), .val (.int x5), .val (.int x8), .val (.ref a10), .val (.int 0)] (hb hby at_145) rfl rfl ?_
        refine P.iload X36 hx 149 (hb hby at_147) rfl rfl ?_
        refine P.iconst X36 hx 150 2 (hb hby at_149) rfl rfl ?_
        refine P.icmpNo X36 hx 153 (hb hby at_150) (by decide) rfl ?_
        refine P.iload X36 hx 155 (hb hby at_153) rfl rfl ?_
        refine X36.callS hx (w81 cx) (w82 cx) (w2 cx) (w83 cx) (by decide) (Ct.pay (W := 0) (ct_bad0 cx x5 h29 _ _ hb1) (w83 cx) (w2 cx) (nle rfl) (nle rfl)) (by rw [hml]; rfl) (argsL := [.int x5]) (rest := []) (lenOf pd21 rfl) rfl rfl (Nat.le_of_eq rfl) (hb hby at_155) (nle rfl) (nle rfl) ?_
        rintro T37 h37 _ _ _ X37 ⟨rfl, rfl, rfl, J37⟩
        rw [J37] at X37
        refine P.ifYes X37 hx 164 (hb hby at_158) (by decide) (by decide) (by decide) ?_
        refine P.iload X37 hx 166 (hb hby at_164) rfl rfl ?_
        refine P.iconst X37 hx 167 3 (hb hby at_166) rfl rfl ?_
        refine P.icmpYes X37 hx 181 (hb hby at_167) (by decide) (by decide) (by decide) ?_
        refine P.aload X37 hx 183 (hb hby at_181) rfl rfl rfl ?_
        have F38 : Exa Z h29 a10 "java/lang/String" := (F26.keep J29)
        refine X37.callS hx (w27 cx) (w28 cx) (w29 cx) (w30 cx) (by decide) (Ct.pay (W := 0) (ct_pr012 cx a10 a30 k31 x2 x5 h29 _ _ F38 G32 G33 G34 G3 G6 (Or.inl hb0)) (w30 cx) (w29 cx) (nle rfl) (nle rfl)) (by rw [hml]; rfl) (argsL := [.ref a10]) (rest := []) (lenOf pd20 rfl) rfl rfl (Nat.le_of_eq rfl) (hb hby at_183) (nle rfl) (nle rfl) ?_
        rintro T39 h39 _ _ _ X39 ⟨rfl, rfl, rfl, J39⟩
        rw [J39] at X39
        refine P.iload X39 hx 188 (hb hby at_186) rfl rfl ?_
        refine P.icmpNo X39 hx 191 (hb hby at_188) (by decide) rfl ?_
        refine P.iconst X39 hx 192 1 (hb hby at_191) rfl rfl ?_
        refine P.goto X39 hx 196 (hb hby at_192) (by decide) (by decide) ?_
        have X40 := WS.drop (A := []) (B := WL) X39
        have X41 := WS.fl (FL2 := FL) X40 (fun y hy => (List.mem_append_right [a10, a30, a15] hy))
        exact WS.retN X41 (WL' := []) (FL' := []) hx (t := .boolean) hret (by simp) hlk (hb hby at_196) (nle rfl) (nle rfl) ⟨rfl, rfl, rfl, K35⟩
    · skip
      by_cases hb1 : (x5 = (9 : Int32) ∨ x5 = (10 : Int32) ∨ x5 = (13 : Int32))
      · skip
        refine P.iload X29 hx 132 (hb hby at_130) rfl rfl ?_
        refine P.iconst X29 hx 133 1 (hb hby at_132) rfl rfl ?_
        refine P.icmpNo X29 hx 136 (hb hby at_133) (by decide) rfl ?_
        refine P.iload X29 hx 138 (hb hby at_136) rfl rfl ?_
        refine X29.callS hx (w81 cx) (w82 cx) (w2 cx) (w83 cx) (by decide) (Ct.pay (W := 0) (ct_bad0 cx x2 h29 _ _ hb0) (w83 cx) (w2 cx) (nle rfl) (nle rfl)) (by rw [hml]; rfl) (argsL := [.int x2]) (rest := []) (lenOf pd21 rfl) rfl rfl (Nat.le_of_eq rfl) (hb hby at_138) (nle rfl) (nle rfl) ?_
        rintro T36 h36 _ _ _ X36 ⟨rfl, rfl, rfl, J36⟩
        rw [J36] at X36
        refine P.ifYes X36 hx 147 (hb hby at_141) (by decide) (by decide) (by decide) ?_
        refine P.iload X36 hx 149 (hb hby at_147) rfl rfl ?_
        refine P.iconst X36 hx 150 2 (hb hby at_149) rfl rfl ?_
        refine P.icmpNo X36 hx 153 (hb hby at_150) (by decide) rfl ?_
        refine P.iload X36 hx 155 (hb hby at_153) rfl rfl ?_
        refine X36.callS hx (w81 cx) (w82 cx) (w2 cx) (w83 cx) (by decide) (Ct.pay (W := 0) (ct_bad1 cx x5 h29 _ _ hb1) (w83 cx) (w2 cx) (nle rfl) (nle rfl)) (by rw [hml]; rfl) (argsL := [.int x5]) (rest := []) (lenOf pd21 rfl) rfl rfl (Nat.le_of_eq rfl) (hb hby at_155) (nle rfl) (nle rfl) ?_
        rintro T37 h37 _ _ _ X37 ⟨rfl, rfl, rfl, J37⟩
        rw [J37] at X37
        refine P.ifNo X37 hx 161 (hb hby at_158) (by decide) rfl ?_
        refine P.iconst X37 hx 162 0 (hb hby at_161) rfl rfl ?_
        refine P.istore X37 hx 164 #[.val (.int p0), .val (.int p1), .val (.int p2), .val (.int p3), .val (.int 2), .val (.int x2), .val (.int x5), .val (.int x8), .val (.ref a10), .val (.int 0)] (hb hby at_162) rfl rfl ?_
        refine P.iload X37 hx 166 (hb hby at_164) rfl rfl ?_
        refine P.iconst X37 hx 167 3 (hb hby at_166) rfl rfl ?_
        refine P.icmpYes X37 hx 181 (hb hby at_167) (by decide) (by decide) (by decide) ?_
        refine P.aload X37 hx 183 (hb hby at_181) rfl rfl rfl ?_
        have F38 : Exa Z h29 a10 "java/lang/String" := (F26.keep J29)
        refine X37.callS hx (w27 cx) (w28 cx) (w29 cx) (w30 cx) (by decide) (Ct.pay (W := 0) (ct_pr012 cx a10 a30 k31 x2 x5 h29 _ _ F38 G32 G33 G34 G3 G6 (Or.inr hb1)) (w30 cx) (w29 cx) (nle rfl) (nle rfl)) (by rw [hml]; rfl) (argsL := [.ref a10]) (rest := []) (lenOf pd20 rfl) rfl rfl (Nat.le_of_eq rfl) (hb hby at_183) (nle rfl) (nle rfl) ?_
        rintro T39 h39 _ _ _ X39 ⟨rfl, rfl, rfl, J39⟩
        rw [J39] at X39
        refine P.iload X39 hx 188 (hb hby at_186) rfl rfl ?_
        refine P.icmpNo X39 hx 191 (hb hby at_188) (by decide) rfl ?_
        refine P.iconst X39 hx 192 1 (hb hby at_191) rfl rfl ?_
        refine P.goto X39 hx 196 (hb hby at_192) (by decide) (by decide) ?_
        have X40 := WS.drop (A := []) (B := WL) X39
        have X41 := WS.fl (FL2 := FL) X40 (fun y hy => (List.mem_append_right [a10, a30, a15] hy))
        exact WS.retN X41 (WL' := []) (FL' := []) hx (t := .boolean) hret (by simp) hlk (hb hby at_196) (nle rfl) (nle rfl) ⟨rfl, rfl, rfl, K35⟩
      · skip
        refine P.iload X29 hx 132 (hb hby at_130) rfl rfl ?_
        refine P.iconst X29 hx 133 1 (hb hby at_132) rfl rfl ?_
        refine P.icmpNo X29 hx 136 (hb hby at_133) (by decide) rfl ?_
        refine P.iload X29 hx 138 (hb hby at_136) rfl rfl ?_
        refine X29.callS hx (w81 cx) (w82 cx) (w2 cx) (w83 cx) (by decide) (Ct.pay (W := 0) (ct_bad0 cx x2 h29 _ _ hb0) (w83 cx) (w2 cx) (nle rfl) (nle rfl)) (by rw [hml]; rfl) (argsL := [.int x2]) (rest := []) (lenOf pd21 rfl) rfl rfl (Nat.le_of_eq rfl) (hb hby at_138) (nle rfl) (nle rfl) ?_
        rintro T36 h36 _ _ _ X36 ⟨rfl, rfl, rfl, J36⟩
        rw [J36] at X36
        refine P.ifYes X36 hx 147 (hb hby at_141) (by decide) (by decide) (by decide) ?_
        refine P.iload X36 hx 149 (hb hby at_147) rfl rfl ?_
        refine P.iconst X36 hx 150 2 (hb hby at_149) rfl rfl ?_
        refine P.icmpNo X36 hx 153 (hb hby at_150) (by decide) rfl ?_
        refine P.iload X36 hx 155 (hb hby at_153) rfl rfl ?_
        refine X36.callS hx (w81 cx) (w82 cx) (w2 cx) (w83 cx) (by decide) (Ct.pay (W := 0) (ct_bad0 cx x5 h29 _ _ hb1) (w83 cx) (w2 cx) (nle rfl) (nle rfl)) (by rw [hml]; rfl) (argsL := [.int x5]) (rest := []) (lenOf pd21 rfl) rfl rfl (Nat.le_of_eq rfl) (hb hby at_155) (nle rfl) (nle rfl) ?_
        rintro T37 h37 _ _ _ X37 ⟨rfl, rfl, rfl, J37⟩
        rw [J37] at X37
        refine P.ifYes X37 hx 164 (hb hby at_158) (by decide) (by decide) (by decide) ?_
        refine P.iload X37 hx 166 (hb hby at_164) rfl rfl ?_
        refine P.iconst X37 hx 167 3 (hb hby at_166) rfl rfl ?_
        refine P.icmpYes X37 hx 181 (hb hby at_167) (by decide) (by decide) (by decide) ?_
        refine P.aload X37 hx 183 (hb hby at_181) rfl rfl rfl ?_
        have F38 : Exa Z h29 a10 "java/lang/String" := (F26.keep J29)
        refine X37.callS hx (w27 cx) (w28 cx) (w29 cx) (w30 cx) (by decide) (Ct.pay (W := 0) (ct_pr112 cx a10 a30 k31 x2 x5 h29 _ _ F38 G32 G33 G34 G3 G6 hb0 hb1) (w30 cx) (w29 cx) (nle rfl) (nle rfl)) (by rw [hml]; rfl) (argsL := [.ref a10]) (rest := []) (lenOf pd20 rfl) rfl rfl (Nat.le_of_eq rfl) (hb hby at_183) (nle rfl) (nle rfl) ?_
        rintro T39 h39 _ _ _ X39 ⟨rfl, rfl, rfl, J39⟩
        rw [J39] at X39
        refine P.iload X39 hx 188 (hb hby at_186) rfl rfl ?_
        refine P.icmpNo X39 hx 191 (hb hby at_188) (by decide) rfl ?_
        refine P.iconst X39 hx 192 1 (hb hby at_191) rfl rfl ?_
        refine P.goto X39 hx 196 (hb hby at_192) (by decide) (by decide) ?_
        have X40 := WS.drop (A := []) (B := WL) X39
        have X41 := WS.fl (FL2 := FL) X40 (fun y hy => (List.mem_append_right [a10, a30, a15] hy))
        exact WS.retN X41 (WL' := []) (FL' := []) hx (t := .boolean) hret (by simp) hlk (hb hby at_196) (nle rfl) (nle rfl) ⟨rfl, rfl, rfl, K35⟩
  · skip
    refine P.iload X7 hx 25 (hb hby at_23) rfl rfl ?_
    refine P.ifYes X7 hx 43 (hb hby at_25) (by decide) (by decide) (by decide) ?_
    refine P.iload X7 hx 45 (hb hby at_43) rfl rfl ?_
    refine P.iconst X7 hx 46 1 (hb hby at_45) rfl rfl ?_
    refine P.icmpYes X7 hx 69 (hb hby at_46) (by decide) (by decide) (by decide) ?_
    refine P.iload X7 hx 71 (hb hby at_69) rfl rfl ?_
    refine P.iconst X7 hx 72 2 (hb hby at_71) rfl rfl ?_
    refine P.icmpNo X7 hx 75 (hb hby at_72) (by decide) rfl ?_
    refine X7.newO hx (w5 cx) (w6 cx) (w7 cx) (hb hby at_75) (nle rfl) (nle rfl) ?_
    intro T10 h10 a10 X10 E10 g10 A10 D10
    have ge11 : h.size ≤ a10 := Nat.le_trans K0.1 g10
    have K12 : Keep h h10 [] := K0.ext E10
    have D13 : Fld Z h10 a10 "java/lang/String" "value" "[B" .null := D10 (Or.inr (w21 cx)) (ty := (.array .byte)) (by decide)
    have D14 : Fld Z h10 a10 "java/lang/String" "coder" "B" (.int 0) := D10 (Or.inr (w22 cx)) (ty := .byte) (by decide)
    refine P.dup X10 hx 79 (hb hby at_78) rfl rfl ?_
    refine P.iconst X10 hx 80 2 (hb hby at_79) rfl rfl ?_
    refine X10.newP (aty := .char) hx (w8 cx) (hb hby at_80) (by decide) (cap := 2) (nle rfl) (nle rfl) (nle rfl) (nle rfl) ?_
    intro T15 h15 a15 k15 X15 E15 g15 A15
    have ge16 : h.size ≤ a15 := Nat.le_trans K12.1 g15
    have K17 : Keep h h15 [] := K12.ext E15
    have V18 : Arv Z h15 a15 k15 .char (2 : Int32) [(.int 0), (.int 0)] (.int 0) := Arv.pad A15 (pad_rep [] _ 2)
    refine P.dup X15 hx 83 (hb hby at_82) rfl rfl ?_
    refine P.iconst X15 hx 84 0 (hb hby at_83) rfl rfl ?_
    refine P.iload X15 hx 86 (hb hby at_84) rfl rfl ?_
    refine X15.stC hx V18 (j := (0 : Int32)) (x := x2) (i := 0) (by decide) rfl (nlt rfl) (List.mem_of_getElem? (i := 0) rfl) (hb hby at_86) ?_
    intro T19 h19 X19 W19 G19
    have K20 : Keep h h19 [] := K17.wr W19 (Or.inr ge16)
    have V21 : Arv Z h19 a15 k15 .char (2 : Int32) [(.int x2), (.int 0)] (.int 0) := by have q := G19; rw [narU G3] at q; exact q
    refine P.dup X19 hx 88 (hb hby at_87) rfl rfl ?_
    refine P.iconst X19 hx 89 1 (hb hby at_88) rfl rfl ?_
    refine P.iload X19 hx 91 (hb hby at_89) rfl rfl ?_
    refine X19.stC hx V21 (j := (1 : Int32)) (x := x5) (i := 1) (by decide) rfl (nlt rfl) (List.mem_of_getElem? (i := 0) rfl) (hb hby at_91) ?_
    intro T22 h22 X22 W22 G22
    have K23 : Keep h h22 [] := K20.wr W22 (Or.inr ge16)
    have V24 : Arv Z h22 a15 k15 .char (2 : Int32) [(.int x2), (.int x5)] (.int 0) := by have q := G22; rw [narU G6] at q; exact q
    have F25 : Exa Z h22 a10 "java/lang/String" := (((A10.ext E15).wr W19).wr W22)
    have F26 : Fld Z h22 a10 "java/lang/String" "value" "[B" .null := (((D13.ext E15).other W19 (Or.inl (X22.ne (i := 1) (j := 0) rfl rfl (by decide)))).other W22 (Or.inl (X22.ne (i := 1) (j := 0) rfl rfl (by decide))))
    have F27 : Fld Z h22 a10 "java/lang/String" "coder" "B" (.int 0) := (((D14.ext E15).other W19 (Or.inl (X22.ne (i := 1) (j := 0) rfl rfl (by decide)))).other W22 (Or.inl (X22.ne (i := 1) (j := 0) rfl rfl (by decide))))
    refine X22.callC hx rfl (w9 cx) (w10 cx) (w11 cx) (by decide) (pay_new (W := 1) (hws cx) (w6 cx) (cs := [x2, x5]) (n := 2) (X22.ge (List.mem_of_getElem? (i := 1) rfl)) X22.n0le (List.mem_of_getElem? (i := 1) rfl) F25 F26 F27 V24 (X22.sta (S_C cx)) (N_C cx) rfl rfl (nle rfl) (nle rfl) (fcS ⟨G3.1, fun q => hU (Or.inl q)⟩ (fcS ⟨G6.1, fun q => hU (Or.inr q)⟩ fc0)) (nle rfl) (nle rfl)) (by rw [hml]; rfl) (argsL := [.ref a15]) (rest := [.ref a10]) (lenOf pd19 rfl) rfl rfl (Nat.le_of_eq rfl) (hb hby at_92) (nle rfl) (nle rfl) ?_
    rintro T28 h28 _ _ _ X28 ⟨a29, rfl, rfl, rfl, J28, G30⟩
    have K31 : Keep h h28 [] := K23.trans J28 (allS (Or.inr ge11) all0)
    refine P.astore X28 hx 97 #[.val (.int p0), .val (.int p1), .val (.int p2), .val (.int p3), .val (.int 2), .val (.int x2), .val (.int x5), .val (.int x8), .val (.ref a10), .unset] (hb hby at_95) rfl rfl rfl ?_
    refine P.goto X28 hx 127 (hb hby at_97) (by decide) (by decide) ?_
    refine P.iconst X28 hx 128 1 (hb hby at_127) rfl rfl ?_
    refine P.istore X28 hx 130 #[.val (.int p0), .val (.int p1), .val (.int p2), .val (.int p3), .val (.int 2), .val (.int x2), .val (.int x5), .val (.int x8), .val (.ref a10), .val (.int 1)] (hb hby at_128) rfl rfl ?_
    by_cases hb0 : (x2 = (9 : Int32) ∨ x2 = (10 : Int32) ∨ x2 = (13 : Int32))
    · skip
      by_cases hb1 : (x5 = (9 : Int32) ∨ x5 = (10 : Int32) ∨ x5 = (13 : Int32))
      · skip
        refine P.iload X28 hx 132 (hb hby at_130) rfl rfl ?_
        refine P.iconst X28 hx 133 1 (hb hby at_132) rfl rfl ?_
        refine P.icmpNo X28 hx 136 (hb hby at_133) (by decide) rfl ?_
        refine P.iload X28 hx 138 (hb hby at_136) rfl rfl ?_
        refine X28.callS hx (w81 cx) (w82 cx) (w2 cx) (w83 cx) (by decide) (Ct.pay (W := 0) (ct_bad1 cx x2 h28 _ _ hb0) (w83 cx) (w2 cx) (nle rfl) (nle rfl)) (by rw [hml]; rfl) (argsL := [.int x2]) (rest := []) (lenOf pd21 rfl) rfl rfl (Nat.le_of_eq rfl) (hb hby at_138) (nle rfl) (nle rfl) ?_
        rintro T32 h32 _ _ _ X32 ⟨rfl, rfl, rfl, J32⟩
        rw [J32] at X32
        refine P.ifNo X32 hx 144 (hb hby at_141) (by decide) rfl ?_
        refine P.iconst X32 hx 145 0 (hb hby at_144) rfl rfl ?_
        refine P.istore X32 hx 147 #[.val (.int p0), .val (.int p1), .val (.int p2), .val (.int p3), .val (.int 2), .val (.int x2), .val (.int x5), .val (.int x8), .val (.ref a10), .val (.int 0)] (hb hby at_145) rfl rfl ?_
        refine P.iload X32 hx 149 (hb hby at_147) rfl rfl ?_
        refine P.iconst X32 hx 150 2 (hb hby at_149) rfl rfl ?_
        refine P.icmpNo X32 hx 153 (hb hby at_150) (by decide) rfl ?_
        refine P.iload X32 hx 155 (hb hby at_153) rfl rfl ?_
        refine X32.callS hx (w81 cx) (w82 cx) (w2 cx) (w83 cx) (by decide) (Ct.pay (W := 0) (ct_bad1 cx x5 h28 _ _ hb1) (w83 cx) (w2 cx) (nle rfl) (nle rfl)) (by rw [hml]; rfl) (argsL := [.int x5]) (rest := []) (lenOf pd21 rfl) rfl rfl (Nat.le_of_eq rfl) (hb hby at_155) (nle rfl) (nle rfl) ?_
        rintro T33 h33 _ _ _ X33 ⟨rfl, rfl, rfl, J33⟩
        rw [J33] at X33
        refine P.ifNo X33 hx 161 (hb hby at_158) (by decide) rfl ?_
        refine P.iconst X33 hx 162 0 (hb hby at_161) rfl rfl ?_
        refine P.istore X33 hx 164 #[.val (.int p0), .val (.int p1), .val (.int p2), .val (.int p3), .val (.int 2), .val (.int x2), .val (.int x5), .val (.int x8), .val (.ref a10), .val (.int 0)] (hb hby at_162) rfl rfl ?_
        refine P.iload X33 hx 166 (hb hby at_164) rfl rfl ?_
        refine P.iconst X33 hx 167 3 (hb hby at_166) rfl rfl ?_
        refine P.icmpYes X33 hx 181 (hb hby at_167) (by decide) (by decide) (by decide) ?_
        refine P.aload X33 hx 183 (hb hby at_181) rfl rfl rfl ?_
        refine X33.callS hx (w27 cx) (w28 cx) (w29 cx) (w30 cx) (by decide) (Ct.pay (W := 0) (ct_pr002 cx a10 a29 x2 x5 h28 _ _ G30 (Or.inl hb0)) (w30 cx) (w29 cx) (nle rfl) (nle rfl)) (by rw [hml]; rfl) (argsL := [.ref a10]) (rest := []) (lenOf pd20 rfl) rfl rfl (Nat.le_of_eq rfl) (hb hby at_183) (nle rfl) (nle rfl) ?_
        rintro T34 h34 _ _ _ X34 ⟨rfl, rfl, rfl, J34⟩
        rw [J34] at X34
        refine P.iload X34 hx 188 (hb hby at_186) rfl rfl ?_
        refine P.icmpNo X34 hx 191 (hb hby at_188) (by decide) rfl ?_
        refine P.iconst X34 hx 192 1 (hb hby at_191) rfl rfl ?_
        refine P.goto X34 hx 196 (hb hby at_192) (by decide) (by decide) ?_
        have X35 := WS.drop (A := []) (B := (a10 :: WL)) X34
        have X36 := WS.drop (A := []) (B := WL) X35
        have X37 := WS.fl (FL2 := FL) X36 (fun y hy => (List.mem_append_right [a10, a15, a29] hy))
        exact WS.retN X37 (WL' := []) (FL' := []) hx (t := .boolean) hret (by simp) hlk (hb hby at_196) (nle rfl) (nle rfl) ⟨rfl, rfl, rfl, K31⟩
      · skip
        refine P.iload X28 hx 132 (hb hby at_130) rfl rfl ?_
        refine P.iconst X28 hx 133 1 (hb hby at_132) rfl rfl ?_
        refine P.icmpNo X28 hx 136 (hb hby at_133) (by decide) rfl ?_
        refine P.iload X28 hx 138 (hb hby at_136) rfl rfl ?_
        refine X28.callS hx (w81 cx) (w82 cx) (w2 cx) (w83 cx) (by decide) (Ct.pay (W := 0) (ct_bad1 cx x2 h28 _ _ hb0) (w83 cx) (w2 cx) (nle rfl) (nle rfl)) (by rw [hml]; rfl) (argsL := [.int x2]) (rest := []) (lenOf pd21 rfl) rfl rfl (Nat.le_of_eq rfl) (hb hby at_138) (nle rfl) (nle rfl) ?_
        rintro T32 h32 _ _ _ X32 ⟨rfl, rfl, rfl, J32⟩
        rw [J32] at X32
        refine P.ifNo X32 hx 144 (hb hby at_141) (by decide) rfl ?_
        refine P.iconst X32 hx 145 0 (hb hby at_144) rfl rfl ?_
        refine P.istore X32 hx 147 #[.val (.int p0), .val (.int p1), .val (.int p2), .val (.int p3), .val (.int 2), .val (.int x2), .val (.int x5), .val (.int x8), .val (.ref a10), .val (.int 0)] (hb hby at_145) rfl rfl ?_
        refine P.iload X32 hx 149 (hb hby at_147) rfl rfl ?_
        refine P.iconst X32 hx 150 2 (hb hby at_149) rfl rfl ?_
        refine P.icmpNo X32 hx 153 (hb hby at_150) (by decide) rfl ?_
        refine P.iload X32 hx 155 (hb hby at_153) rfl rfl ?_
        refine X32.callS hx (w81 cx) (w82 cx) (w2 cx) (w83 cx) (by decide) (Ct.pay (W := 0) (ct_bad0 cx x5 h28 _ _ hb1) (w83 cx) (w2 cx) (nle rfl) (nle rfl)) (by rw [hml]; rfl) (argsL := [.int x5]) (rest := []) (lenOf pd21 rfl) rfl rfl (Nat.le_of_eq rfl) (hb hby at_155) (nle rfl) (nle rfl) ?_
        rintro T33 h33 _ _ _ X33 ⟨rfl, rfl, rfl, J33⟩
        rw [J33] at X33
        refine P.ifYes X33 hx 164 (hb hby at_158) (by decide) (by decide) (by decide) ?_
        refine P.iload X33 hx 166 (hb hby at_164) rfl rfl ?_
        refine P.iconst X33 hx 167 3 (hb hby at_166) rfl rfl ?_
        refine P.icmpYes X33 hx 181 (hb hby at_167) (by decide) (by decide) (by decide) ?_
        refine P.aload X33 hx 183 (hb hby at_181) rfl rfl rfl ?_
        refine X33.callS hx (w27 cx) (w28 cx) (w29 cx) (w30 cx) (by decide) (Ct.pay (W := 0) (ct_pr002 cx a10 a29 x2 x5 h28 _ _ G30 (Or.inl hb0)) (w30 cx) (w29 cx) (nle rfl) (nle rfl)) (by rw [hml]; rfl) (argsL := [.ref a10]) (rest := []) (lenOf pd20 rfl) rfl rfl (Nat.le_of_eq rfl) (hb hby at_183) (nle rfl) (nle rfl) ?_
        rintro T34 h34 _ _ _ X34 ⟨rfl, rfl, rfl, J34⟩
        rw [J34] at X34
        refine P.iload X34 hx 188 (hb hby at_186) rfl rfl ?_
        refine P.icmpNo X34 hx 191 (hb hby at_188) (by decide) rfl ?_
        refine P.iconst X34 hx 192 1 (hb hby at_191) rfl rfl ?_
        refine P.goto X34 hx 196 (hb hby at_192) (by decide) (by decide) ?_
        have X35 := WS.drop (A := []) (B := (a10 :: WL)) X34
        have X36 := WS.drop (A := []) (B := WL) X35
        have X37 := WS.fl (FL2 := FL) X36 (fun y hy => (List.mem_append_right [a10, a15, a29] hy))
        exact WS.retN X37 (WL' := []) (FL' := []) hx (t := .boolean) hret (by simp) hlk (hb hby at_196) (nle rfl) (nle rfl) ⟨rfl, rfl, rfl, K31⟩
    · skip
      by_cases hb1 : (x5 = (9 : Int32) ∨ x5 = (10 : Int32) ∨ x5 = (13 : Int32))
      · skip
        refine P.iload X28 hx 132 (hb hby at_130) rfl rfl ?_
        refine P.iconst X28 hx 133 1 (hb hby at_132) rfl rfl ?_
        refine P.icmpNo X28 hx 136 (hb hby at_133) (by decide) rfl ?_
        refine P.iload X28 hx 138 (hb hby at_136) rfl rfl ?_
        refine X28.callS hx (w81 cx) (w82 cx) (w2 cx) (w83 cx) (by decide) (Ct.pay (W := 0) (ct_bad0 cx x2 h28 _ _ hb0) (w83 cx) (w2 cx) (nle rfl) (nle rfl)) (by rw [hml]; rfl) (argsL := [.int x2]) (rest := []) (lenOf pd21 rfl) rfl rfl (Nat.le_of_eq rfl) (hb hby at_138) (nle rfl) (nle rfl) ?_
        rintro T32 h32 _ _ _ X32 ⟨rfl, rfl, rfl, J32⟩
        rw [J32] at X32
        refine P.ifYes X32 hx 147 (hb hby at_141) (by decide) (by decide) (by decide) ?_
        refine P.iload X32 hx 149 (hb hby at_147) rfl rfl ?_
        refine P.iconst X32 hx 150 2 (hb hby at_149) rfl rfl ?_
        refine P.icmpNo X32 hx 153 (hb hby at_150) (by decide) rfl ?_
        refine P.iload X32 hx 155 (hb hby at_153) rfl rfl ?_
        refine X32.callS hx (w81 cx) (w82 cx) (w2 cx) (w83 cx) (by decide) (Ct.pay (W := 0) (ct_bad1 cx x5 h28 _ _ hb1) (w83 cx) (w2 cx) (nle rfl) (nle rfl)) (by rw [hml]; rfl) (argsL := [.int x5]) (rest := []) (lenOf pd21 rfl) rfl rfl (Nat.le_of_eq rfl) (hb hby at_155) (nle rfl) (nle rfl) ?_
        rintro T33 h33 _ _ _ X33 ⟨rfl, rfl, rfl, J33⟩
        rw [J33] at X33
        refine P.ifNo X33 hx 161 (hb hby at_158) (by decide) rfl ?_
        refine P.iconst X33 hx 162 0 (hb hby at_161) rfl rfl ?_
        refine P.istore X33 hx 164 #[.val (.int p0), .val (.int p1), .val (.int p2), .val (.int p3), .val (.int 2), .val (.int x2), .val (.int x5), .val (.int x8), .val (.ref a10), .val (.int 0)] (hb hby at_162) rfl rfl ?_
        refine P.iload X33 hx 166 (hb hby at_164) rfl rfl ?_
        refine P.iconst X33 hx 167 3 (hb hby at_166) rfl rfl ?_
        refine P.icmpYes X33 hx 181 (hb hby at_167) (by decide) (by decide) (by decide) ?_
        refine P.aload X33 hx 183 (hb hby at_181) rfl rfl rfl ?_
        refine X33.callS hx (w27 cx) (w28 cx) (w29 cx) (w30 cx) (by decide) (Ct.pay (W := 0) (ct_pr002 cx a10 a29 x2 x5 h28 _ _ G30 (Or.inr hb1)) (w30 cx) (w29 cx) (nle rfl) (nle rfl)) (by rw [hml]; rfl) (argsL := [.ref a10]) (rest := []) (lenOf pd20 rfl) rfl rfl (Nat.le_of_eq rfl) (hb hby at_183) (nle rfl) (nle rfl) ?_
        rintro T34 h34 _ _ _ X34 ⟨rfl, rfl, rfl, J34⟩
        rw [J34] at X34
        refine P.iload X34 hx 188 (hb hby at_186) rfl rfl ?_
        refine P.icmpNo X34 hx 191 (hb hby at_188) (by decide) rfl ?_
        refine P.iconst X34 hx 192 1 (hb hby at_191) rfl rfl ?_
        refine P.goto X34 hx 196 (hb hby at_192) (by decide) (by decide) ?_
        have X35 := WS.drop (A := []) (B := (a10 :: WL)) X34
        have X36 := WS.drop (A := []) (B := WL) X35
        have X37 := WS.fl (FL2 := FL) X36 (fun y hy => (List.mem_append_right [a10, a15, a29] hy))
        exact WS.retN X37 (WL' := []) (FL' := []) hx (t := .boolean) hret (by simp) hlk (hb hby at_196) (nle rfl) (nle rfl) ⟨rfl, rfl, rfl, K31⟩
      · skip
        refine P.iload X28 hx 132 (hb hby at_130) rfl rfl ?_
        refine P.iconst X28 hx 133 1 (hb hby at_132) rfl rfl ?_
        refine P.icmpNo X28 hx 136 (hb hby at_133) (by decide) rfl ?_
        refine P.iload X28 hx 138 (hb hby at_136) rfl rfl ?_
        refine X28.callS hx (w81 cx) (w82 cx) (w2 cx) (w83 cx) (by decide) (Ct.pay (W := 0) (ct_bad0 cx x2 h28 _ _ hb0) (w83 cx) (w2 cx) (nle rfl) (nle rfl)) (by rw [hml]; rfl) (argsL := [.int x2]) (rest := []) (lenOf pd21 rfl) rfl rfl (Nat.le_of_eq rfl) (hb hby at_138) (nle rfl) (nle rfl) ?_
        rintro T32 h32 _ _ _ X32 ⟨rfl, rfl, rfl, J32⟩
        rw [J32] at X32
        refine P.ifYes X32 hx 147 (hb hby at_141) (by decide) (by decide) (by decide) ?_
        refine P.iload X32 hx 149 (hb hby at_147) rfl rfl ?_
        refine P.iconst X32 hx 150 2 (hb hby at_149) rfl rfl ?_
        refine P.icmpNo X32 hx 153 (hb hby at_150) (by decide) rfl ?_
        refine P.iload X32 hx 155 (hb hby at_153) rfl rfl ?_
        refine X32.callS hx (w81 cx) (w82 cx) (w2 cx) (w83 cx) (by decide) (Ct.pay (W := 0) (ct_bad0 cx x5 h28 _ _ hb1) (w83 cx) (w2 cx) (nle rfl) (nle rfl)) (by rw [hml]; rfl) (argsL := [.int x5]) (rest := []) (lenOf pd21 rfl) rfl rfl (Nat.le_of_eq rfl) (hb hby at_155) (nle rfl) (nle rfl) ?_
        rintro T33 h33 _ _ _ X33 ⟨rfl, rfl, rfl, J33⟩
        rw [J33] at X33
        refine P.ifYes X33 hx 164 (hb hby at_158) (by decide) (by decide) (by decide) ?_
        refine P.iload X33 hx 166 (hb hby at_164) rfl rfl ?_
        refine P.iconst X33 hx 167 3 (hb hby at_166) rfl rfl ?_
        refine P.icmpYes X33 hx 181 (hb hby at_167) (by decide) (by decide) (by decide) ?_
        refine P.aload X33 hx 183 (hb hby at_181) rfl rfl rfl ?_
        refine X33.callS hx (w27 cx) (w28 cx) (w29 cx) (w30 cx) (by decide) (Ct.pay (W := 0) (ct_pr102 cx a10 a29 x2 x5 h28 _ _ G30 hb0 hb1) (w30 cx) (w29 cx) (nle rfl) (nle rfl)) (by rw [hml]; rfl) (argsL := [.ref a10]) (rest := []) (lenOf pd20 rfl) rfl rfl (Nat.le_of_eq rfl) (hb hby at_183) (nle rfl) (nle rfl) ?_
        rintro T34 h34 _ _ _ X34 ⟨rfl, rfl, rfl, J34⟩
        rw [J34] at X34
        refine P.iload X34 hx 188 (hb hby at_186) rfl rfl ?_
        refine P.icmpNo X34 hx 191 (hb hby at_188) (by decide) rfl ?_
        refine P.iconst X34 hx 192 1 (hb hby at_191) rfl rfl ?_
        refine P.goto X34 hx 196 (hb hby at_192) (by decide) (by decide) ?_
        have X35 := WS.drop (A := []) (B := (a10 :: WL)) X34
        have X36 := WS.drop (A := []) (B := WL) X35
        have X37 := WS.fl (FL2 := FL) X36 (fun y hy => (List.mem_append_right [a10, a15, a29] hy))
        exact WS.retN X37 (WL' := []) (FL' := []) hx (t := .boolean) hret (by simp) hlk (hb hby at_196) (nle rfl) (nle rfl) ⟨rfl, rfl, rfl, K31⟩
theorem ct_law_3 {l : Launch} {Z : State} {a0 : Array Value} {gC : Int32} {gF : Value} (cx : Cx a0 Z gC gF) {n0 : Nat} (p0 : Int32) (p1 : Int32) (p2 : Int32) (p3 : Int32) (h : Heap) (WL FL : List Addr)  (en : (p0 &&& (3 : Int32)) = (3 : Int32)) :
    Ct l Z EL1 n0 x code maxLocals ret room_1 #[(.int p0), (.int p1), (.int p2), (.int p3)] h WL FL (Q_law Z gC gF p0 p1 p2 p3 h) := by
  refine Ct.of (plainFor_of_name pn2) ?_
  intro p e s m below meth c s1 hx hby hml hnm hret hlk X0
  refine Wo.cast (f' := (mkF m 0 #[.val (.int p0), .val (.int p1), .val (.int p2), .val (.int p3), .unset, .unset, .unset, .unset, .unset, .unset] [])) (by rfl) ?_
  have K0 : Keep h h [] := Keep.refl _ _
  show Wo _ _ _ _ _ _ _ _ _ _ _ s1 (mkF m 0 #[.val (.int p0), .val (.int p1), .val (.int p2), .val (.int p3), .unset, .unset, .unset, .unset, .unset, .unset] [])
  refine P.iloadN X0 hx 1 (hb hby at_0) rfl rfl ?_
  refine P.iconst X0 hx 2 3 (hb hby at_1) rfl rfl ?_
  refine P.iand X0 hx 3 (z := (3 : Int32)) (hb hby at_2) (by rw [en]) rfl ?_
  refine P.istore X0 hx 5 #[.val (.int p0), .val (.int p1), .val (.int p2), .val (.int p3), .val (.int 3), .unset, .unset, .unset, .unset, .unset] (hb hby at_3) rfl rfl ?_
  refine P.iloadN X0 hx 6 (hb hby at_5) rfl rfl ?_
  refine X0.callS hx (w0 cx) (w1 cx) (w2 cx) (w3 cx) (by decide) (Ct.pay (W := 0) (ct_draw cx p1 h _ _ ) (w3 cx) (w2 cx) (nle rfl) (nle rfl)) (by rw [hml]; rfl) (argsL := [.int p1]) (rest := []) (lenOf pd18 rfl) rfl rfl (Nat.le_of_eq rfl) (hb hby at_6) (nle rfl) (nle rfl) ?_
  rintro T1 h1 _ _ _ X1 ⟨x2, rfl, rfl, rfl, J1, G3⟩
  rw [J1] at X1
  refine P.istore X1 hx 11 #[.val (.int p0), .val (.int p1), .val (.int p2), .val (.int p3), .val (.int 3), .val (.int x2), .unset, .unset, .unset, .unset] (hb hby at_9) rfl rfl ?_
  refine P.iloadN X1 hx 12 (hb hby at_11) rfl rfl ?_
  refine X1.callS hx (w0 cx) (w1 cx) (w2 cx) (w3 cx) (by decide) (Ct.pay (W := 0) (ct_draw cx p2 h _ _ ) (w3 cx) (w2 cx) (nle rfl) (nle rfl)) (by rw [hml]; rfl) (argsL := [.int p2]) (rest := []) (lenOf pd18 rfl) rfl rfl (Nat.le_of_eq rfl) (hb hby at_12) (nle rfl) (nle rfl) ?_
  rintro T4 h4 _ _ _ X4 ⟨x5, rfl, rfl, rfl, J4, G6⟩
  rw [J4] at X4
  refine P.istore X4 hx 17 #[.val (.int p0), .val (.int p1), .val (.int p2), .val (.int p3), .val (.int 3), .val (.int x2), .val (.int x5), .unset, .unset, .unset] (hb hby at_15) rfl rfl ?_
  refine P.iloadN X4 hx 18 (hb hby at_17) rfl rfl ?_
  refine X4.callS hx (w0 cx) (w1 cx) (w2 cx) (w3 cx) (by decide) (Ct.pay (W := 0) (ct_draw cx p3 h _ _ ) (w3 cx) (w2 cx) (nle rfl) (nle rfl)) (by rw [hml]; rfl) (argsL := [.int p3]) (rest := []) (lenOf pd18 rfl) rfl rfl (Nat.le_of_eq rfl) (hb hby at_18) (nle rfl) (nle rfl) ?_
  rintro T7 h7 _ _ _ X7 ⟨x8, rfl, rfl, rfl, J7, G9⟩
  rw [J7] at X7
  refine P.istore X7 hx 23 #[.val (.int p0), .val (.int p1), .val (.int p2), .val (.int p3), .val (.int 3), .val (.int x2), .val (.int x5), .val (.int x8), .unset, .unset] (hb hby at_21) rfl rfl ?_
  by_cases hU : (255 : Int32) < x2 ∨ (255 : Int32) < x5 ∨ (255 : Int32) < x8
  · skip
    refine P.iload X7 hx 25 (hb hby at_23) rfl rfl ?_
    refine P.ifYes X7 hx 43 (hb hby at_25) (by decide) (by decide) (by decide) ?_
    refine P.iload X7 hx 45 (hb hby at_43) rfl rfl ?_
    refine P.iconst X7 hx 46 1 (hb hby at_45) rfl rfl ?_
    refine P.icmpYes X7 hx 69 (hb hby at_46) (by decide) (by decide) (by decide) ?_
    refine P.iload X7 hx 71 (hb hby at_69) rfl rfl ?_
    refine P.iconst X7 hx 72 2 (hb hby at_71) rfl rfl ?_
    refine P.icmpYes X7 hx 100 (hb hby at_72) (by decide) (by decide) (by decide) ?_
    refine X7.newO hx (w5 cx) (w6 cx) (w7 cx) (hb hby at_100) (nle rfl) (nle rfl) ?_
    intro T10 h10 a10 X10 E10 g10 A10 D10
    have ge11 : h.size ≤ a10 := Nat.le_trans K0.1 g10
    have K12 : Keep h h10 [] := K0.ext E10
    have D13 : Fld Z h10 a10 "java/lang/String" "value" "[B" .null := D10 (Or.inr (w21 cx)) (ty := (.array .byte)) (by decide)
    have D14 : Fld Z h10 a10 "java/lang/String" "coder" "B" (.int 0) := D10 (Or.inr (w22 cx)) (ty := .byte) (by decide)
    refine P.dup X10 hx 104 (hb hby at_103) rfl rfl ?_
    refine P.iconst X10 hx 105 3 (hb hby at_104) rfl rfl ?_
    refine X10.newP (aty := .char) hx (w8 cx) (hb hby at_105) (by decide) (cap := 3) (nle rfl) (nle rfl) (nle rfl) (nle rfl) ?_
    intro T15 h15 a15 k15 X15 E15 g15 A15
    have ge16 : h.size ≤ a15 := Nat.le_trans K12.1 g15
    have K17 : Keep h h15 [] := K12.ext E15
    have V18 : Arv Z h15 a15 k15 .char (3 : Int32) [(.int 0), (.int 0), (.int 0)] (.int 0) := Arv.pad A15 (pad_rep [] _ 3)
    refine P.dup X15 hx 108 (hb hby at_107) rfl rfl ?_
    refine P.iconst X15 hx 109 0 (hb hby at_108) rfl rfl ?_
    refine P.iload X15 hx 111 (hb hby at_109) rfl rfl ?_
    refine X15.stC hx V18 (j := (0 : Int32)) (x := x2) (i := 0) (by decide) rfl (nlt rfl) (List.mem_of_getElem? (i := 0) rfl) (hb hby at_111) ?_
    intro T19 h19 X19 W19 G19
    have K20 : Keep h h19 [] := K17.wr W19 (Or.inr ge16)
    have V21 : Arv Z h19 a15 k15 .char (3 : Int32) [(.int x2), (.int 0), (.int 0)] (.int 0) := by have q := G19; rw [narU G3] at q; exact q
    refine P.dup X19 hx 113 (hb hby at_112) rfl rfl ?_
    refine P.iconst X19 hx 114 1 (hb hby at_113) rfl rfl ?_
    refine P.iload X19 hx 116 (hb hby at_114) rfl rfl ?_
    refine X19.stC hx V21 (j := (1 : Int32)) (x := x5) (i := 1) (by decide) rfl (nlt rfl) (List.mem_of_getElem? (i := 0) rfl) (hb hby at_116) ?_
    intro T22 h22 X22 W22 G22
    have K23 : Keep h h22 [] := K20.wr W22 (Or.inr ge16)
    have V24 : Arv Z h22 a15 k15 .char (3 : Int32) [(.int x2), (.int x5), (.int 0)] (.int 0) := by have q := G22; rw [narU G6] at q; exact q
    refine P.dup X22 hx 118 (hb hby at_117) rfl rfl ?_
    refine P.iconst X22 hx 119 2 (hb hby at_118) rfl rfl ?_
    refine P.iload X22 hx 121 (hb hby at_119) rfl rfl ?_
    refine X22.stC hx V24 (j := (2 : Int32)) (x := x8) (i := 2) (by decide) rfl (nlt rfl) (List.mem_of_getElem? (i := 0) rfl) (hb hby at_121) ?_
    intro T25 h25 X25 W25 G25
    have K26 : Keep h h25 [] := K23.wr W25 (Or.inr ge16)
    have V27 : Arv Z h25 a15 k15 .char (3 : Int32) [(.int x2), (.int x5), (.int x8)] (.int 0) := by have q := G25; rw [narU G9] at q; exact q
    have X28 := WS.drop (A := []) (B := (a10 :: WL)) X25
    have F29 : Exa Z h25 a10 "java/lang/String" := ((((A10.ext E15).wr W19).wr W22).wr W25)
    have F30 : Fld Z h25 a10 "java/lang/String" "value" "[B" .null := ((((D13.ext E15).other W19 (Or.inl (Ne.symm (X28.neF (List.mem_of_getElem? (i := 0) rfl) (List.mem_of_getElem? (i := 0) rfl))))).other W22 (Or.inl (Ne.symm (X28.neF (List.mem_of_getElem? (i := 0) rfl) (List.mem_of_getElem? (i := 0) rfl))))).other W25 (Or.inl (Ne.symm (X28.neF (List.mem_of_getElem? (i := 0) rfl) (List.mem_of_getElem? (i := 0) rfl)))))
    have F31 : Fld Z h25 a10 "java/lang/String" "coder" "B" (.int 0) := ((((D14.ext E15).other W19 (Or.inl (Ne.symm (X28.neF (List.mem_of_getElem? (i := 0) rfl) (List.mem_of_getElem? (i := 0) rfl))))).other W22 (Or.inl (Ne.symm (X28.neF (List.mem_of_getElem? (i := 0) rfl) (List.mem_of_getElem? (i := 0) rfl))))).other W25 (Or.inl (Ne.symm (X28.neF (List.mem_of_getElem? (i := 0) rfl) (List.mem_of_getElem? (i := 0) rfl)))))
    refine X28.callC hx rfl (w9 cx) (w10 cx) (w11 cx) (by decide) (Ct.pay (W := 1) (ct_s1U3 cx a10 a15 k15 x2 x5 x8 h25 _ _ F29 F30 F31 (List.mem_of_getElem? (i := 0) rfl) V27 (List.mem_of_getElem? (i := 0) rfl) G3 G6 G9 hU) (w11 cx) (w7 cx) (nle rfl) (nle rfl)) (by rw [hml]; rfl) (argsL := [.ref a15]) (rest := [.ref a10]) (lenOf pd19 rfl) rfl rfl (Nat.le_of_eq rfl) (hb hby at_122) (nle rfl) (nle rfl) ?_
    rintro T32 h32 _ _ _ X32 ⟨a33, k34, rfl, rfl, rfl, J32, G35, G36, G37⟩
    have K38 : Keep h h32 [] := K26.trans J32 (allS (Or.inr ge11) all0)
    refine P.astore X32 hx 127 #[.val (.int p0), .val (.int p1), .val (.int p2), .val (.int p3), .val (.int 3), .val (.int x2), .val (.int x5), .val (.int x8), .val (.ref a10), .unset] (hb hby at_125) rfl rfl rfl ?_
    refine P.iconst X32 hx 128 1 (hb hby at_127) rfl rfl ?_
    refine P.istore X32 hx 130 #[.val (.int p0), .val (.int p1), .val (.int p2), .val (.int p3), .val (.int 3), .val (.int x2), .val (.int x5), .val (.int x8), .val (.ref a10), .val (.int 1)] (hb hby at_128) rfl rfl ?_
    by_cases hb0 : (x2 = (9 : Int32) ∨ x2 = (10 : Int32) ∨ x2 = (13 : Int32))
    · skip
      by_cases hb1 : (x5 = (9 : Int32) ∨ x5 = (10 : Int32) ∨ x5 = (13 : Int32))
      · skip
        by_cases hb2 : (x8 = (9 : Int32) ∨ x8 = (10 : Int32) ∨ x8 = (13 : Int32))
        · skip
          refine P.iload X32 hx 132 (hb hby at_130) rfl rfl ?_
          refine P.iconst X32 hx 133 1 (hb hby at_132) rfl rfl ?_
          refine P.icmpNo X32 hx 136 (hb hby at_133) (by decide) rfl ?_
          refine P.iload X32 hx 138 (hb hby at_136) rfl rfl ?_
          refine X32.callS hx (w81 cx) (w82 cx) (w2 cx) (w83 cx) (by decide) (Ct.pay (W := 0) (ct_bad1 cx x2 h32 _ _ hb0) (w83 cx) (w2 cx) (nle rfl) (nle rfl)) (by rw [hml]; rfl) (argsL := [.int x2]) (rest := []) (lenOf pd21 rfl) rfl rfl (Nat.le_of_eq rfl) (hb hby at_138) (nle rfl) (nle rfl) ?_
          rintro T39 h39 _ _ _ X39 ⟨rfl, rfl, rfl, J39⟩
          rw [J39] at X39
          refine P.ifNo X39 hx 144 (hb hby at_141) (by decide) rfl ?_
          refine P.iconst X39 hx 145 0 (hb hby at_144) rfl rfl ?_
          refine P.istore X39 hx 147 #[.val (.int p0), .val (.int p1), .val (.int p2), .val (.int p3), .val (.int 3), .val (.int x2), .val (.int x5), .val (.int x8), .val (.ref a10), .val (.int 0)] (hb hby at_145) rfl rfl ?_
          refine P.iload X39 hx 149 (hb hby at_147) rfl rfl ?_
          refine P.iconst X39 hx 150 2 (hb hby at_149) rfl rfl ?_
          refine P.icmpNo X39 hx 153 (hb hby at_150) (by decide) rfl ?_
          refine P.iload X39 hx 155 (hb hby at_153) rfl rfl ?_
          refine X39.callS hx (w81 cx) (w82 cx) (w2 cx) (w83 cx) (by decide) (Ct.pay (W := 0) (ct_bad1 cx x5 h32 _ _ hb1) (w83 cx) (w2 cx) (nle rfl) (nle rfl)) (by rw [hml]; rfl) (argsL := [.int x5]) (rest := []) (lenOf pd21 rfl) rfl rfl (Nat.le_of_eq rfl) (hb hby at_155) (nle rfl) (nle rfl) ?_
          rintro T40 h40 _ _ _ X40 ⟨rfl, rfl, rfl, J40⟩
          rw [J40] at X40
          refine P.ifNo X40 hx 161 (hb hby at_158) (by decide) rfl ?_
          refine P.iconst X40 hx 162 0 (hb hby at_161) rfl rfl ?_
          refine P.istore X40 hx 164 #[.val (.int p0), .val (.int p1), .val (.int p2), .val (.int p3), .val (.int 3), .val (.int x2), .val (.int x5), .val (.int x8), .val (.ref a10), .val (.int 0)] (hb hby at_162) rfl rfl ?_
          refine P.iload X40 hx 166 (hb hby at_164) rfl rfl ?_
          refine P.iconst X40 hx 167 3 (hb hby at_166) rfl rfl ?_
          refine P.icmpNo X40 hx 170 (hb hby at_167) (by decide) rfl ?_
          refine P.iload X40 hx 172 (hb hby at_170) rfl rfl ?_
          refine X40.callS hx (w81 cx) (w82 cx) (w2 cx) (w83 cx) (by decide) (Ct.pay (W := 0) (ct_bad1 cx x8 h32 _ _ hb2) (w83 cx) (w2 cx) (nle rfl) (nle rfl)) (by rw [hml]; rfl) (argsL := [.int x8]) (rest := []) (lenOf pd21 rfl) rfl rfl (Nat.le_of_eq rfl) (hb hby at_172) (nle rfl) (nle rfl) ?_
          rintro T41 h41 _ _ _ X41 ⟨rfl, rfl, rfl, J41⟩
          rw [J41] at X41
          refine P.ifNo X41 hx 178 (hb hby at_175) (by decide) rfl ?_
          refine P.iconst X41 hx 179 0 (hb hby at_178) rfl rfl ?_
          refine P.istore X41 hx 181 #[.val (.int p0), .val (.int p1), .val (.int p2), .val (.int p3), .val (.int 3), .val (.int x2), .val (.int x5), .val (.int x8), .val (.ref a10), .val (.int 0)] (hb hby at_179) rfl rfl ?_
          refine P.aload X41 hx 183 (hb hby at_181) rfl rfl rfl ?_
          have F42 : Exa Z h32 a10 "java/lang/String" := (F29.keep J32)
          refine X41.callS hx (w27 cx) (w28 cx) (w29 cx) (w30 cx) (by decide) (Ct.pay (W := 0) (ct_pr013 cx a10 a33 k34 x2 x5 x8 h32 _ _ F42 G35 G36 G37 G3 G6 G9 (Or.inl hb0)) (w30 cx) (w29 cx) (nle rfl) (nle rfl)) (by rw [hml]; rfl) (argsL := [.ref a10]) (rest := []) (lenOf pd20 rfl) rfl rfl (Nat.le_of_eq rfl) (hb hby at_183) (nle rfl) (nle rfl) ?_
          rintro T43 h43 _ _ _ X43 ⟨rfl, rfl, rfl, J43⟩
          rw [J43] at X43
          refine P.iload X43 hx 188 (hb hby at_186) rfl rfl ?_
          refine P.icmpNo X43 hx 191 (hb hby at_188) (by decide) rfl ?_
          refine P.iconst X43 hx 192 1 (hb hby at_191) rfl rfl ?_
          refine P.goto X43 hx 196 (hb hby at_192) (by decide) (by decide) ?_
          have X44 := WS.drop (A := []) (B := WL) X43
          have X45 := WS.fl (FL2 := FL) X44 (fun y hy => (List.mem_append_right [a10, a33, a15] hy))
          exact WS.retN X45 (WL' := []) (FL' := []) hx (t := .boolean) hret (by simp) hlk (hb hby at_196) (nle rfl) (nle rfl) ⟨rfl, rfl, rfl, K38⟩
        · skip
          refine P.iload X32 hx 132 (hb hby at_130) rfl rfl ?_
          refine P.iconst X32 hx 133 1 (hb hby at_132) rfl rfl ?_
          refine P.icmpNo X32 hx 136 (hb hby at_133) (by decide) rfl ?_
          refine P.iload X32 hx 138 (hb hby at_136) rfl rfl ?_
          refine X32.callS hx (w81 cx) (w82 cx) (w2 cx) (w83 cx) (by decide) (Ct.pay (W := 0) (ct_bad1 cx x2 h32 _ _ hb0) (w83 cx) (w2 cx) (nle rfl) (nle rfl)) (by rw [hml]; rfl) (argsL := [.int x2]) (rest := []) (lenOf pd21 rfl) rfl rfl (Nat.le_of_eq rfl) (hb hby at_138) (nle rfl) (nle rfl) ?_
          rintro T39 h39 _ _ _ X39 ⟨rfl, rfl, rfl, J39⟩
          rw [J39] at X39
          refine P.ifNo X39 hx 144 (hb hby at_141) (by decide) rfl ?_
          refine P.iconst X39 hx 145 0 (hb hby at_144) rfl rfl ?_
          refine P.istore X39 hx 147 #[.val (.int p0), .val (.int p1), .val (.int p2), .val (.int p3), .val (.int 3), .val (.int x2), .val (.int x5), .val (.int x8), .val (.ref a10), .val (.int 0)] (hb hby at_145) rfl rfl ?_
          refine P.iload X39 hx 149 (hb hby at_147) rfl rfl ?_
          refine P.iconst X39 hx 150 2 (hb hby at_149) rfl rfl ?_
          refine P.icmpNo X39 hx 153 (hb hby at_150) (by decide) rfl ?_
          refine P.iload X39 hx 155 (hb hby at_153) rfl rfl ?_
          refine X39.callS hx (w81 cx) (w82 cx) (w2 cx) (w83 cx) (by decide) (Ct.pay (W := 0) (ct_bad1 cx x5 h32 _ _ hb1) (w83 cx) (w2 cx) (nle rfl) (nle rfl)) (by rw [hml]; rfl) (argsL := [.int x5]) (rest := []) (lenOf pd21 rfl) rfl rfl (Nat.le_of_eq rfl) (hb hby at_155) (nle rfl) (nle rfl) ?_
          rintro T40 h40 _ _ _ X40 ⟨rfl, rfl, rfl, J40⟩
          rw [J40] at X40
          refine P.ifNo X40 hx 161 (hb hby at_158) (by decide) rfl ?_
          refine P.iconst X40 hx 162 0 (hb hby at_161) rfl rfl ?_
          refine P.istore X40 hx 164 #[.val (.int p0), .val (.int p1), .val (.int p2), .val (.int p3), .val (.int 3), .val (.int x2), .val (.int x5), .val (.int x8), .val (.ref a10), .val (.int 0)] (hb hby at_162) rfl rfl ?_
          refine P.iload X40 hx 166 (hb hby at_164) rfl rfl ?_
          refine P.iconst X40 hx 167 3 (hb hby at_166) rfl rfl ?_
          refine P.icmpNo X40 hx 170 (hb hby at_167) (by decide) rfl ?_
          refine P.iload X40 hx 172 (hb hby at_170) rfl rfl ?_
          refine X40.callS hx (w81 cx) (w82 cx) (w2 cx) (w83 cx) (by decide) (Ct.pay (W := 0) (ct_bad0 cx x8 h32 _ _ hb2) (w83 cx) (w2 cx) (nle rfl) (nle rfl)) (by rw [hml]; rfl) (argsL := [.int x8]) (rest := []) (lenOf pd21 rfl) rfl rfl (Nat.le_of_eq rfl) (hb hby at_172) (nle rfl) (nle rfl) ?_
          rintro T41 h41 _ _ _ X41 ⟨rfl, rfl, rfl, J41⟩
          rw [J41] at X41
          refine P.ifYes X41 hx 181 (hb hby at_175) (by decide) (by decide) (by decide) ?_
          refine P.aload X41 hx 183 (hb hby at_181) rfl rfl rfl ?_
          have F42 : Exa Z h32 a10 "java/lang/String" := (F29.keep J32)
          refine X41.callS hx (w27 cx) (w28 cx) (w29 cx) (w30 cx) (by decide) (Ct.pay (W := 0) (ct_pr013 cx a10 a33 k34 x2 x5 x8 h32 _ _ F42 G35 G36 G37 G3 G6 G9 (Or.inl hb0)) (w30 cx) (w29 cx) (nle rfl) (nle rfl)) (by rw [hml]; rfl) (argsL := [.ref a10]) (rest := []) (lenOf pd20 rfl) rfl rfl (Nat.le_of_eq rfl) (hb hby at_183) (nle rfl) (nle rfl) ?_
          rintro T43 h43 _ _ _ X43 ⟨rfl, rfl, rfl, J43⟩
          rw [J43] at X43
          refine P.iload X43 hx 188 (hb hby at_186) rfl rfl ?_
          refine P.icmpNo X43 hx 191 (hb hby at_188) (by decide) rfl ?_
          refine P.iconst X43 hx 192 1 (hb hby at_191) rfl rfl ?_
          refine P.goto X43 hx 196 (hb hby at_192) (by decide) (by decide) ?_
          have X44 := WS.drop (A := []) (B := WL) X43
          have X45 := WS.fl (FL2 := FL) X44 (fun y hy => (List.mem_append_right [a10, a33, a15] hy))
          exact WS.retN X45 (WL' := []) (FL' := []) hx (t := .boolean) hret (by simp) hlk (hb hby at_196) (nle rfl) (nle rfl) ⟨rfl, rfl, rfl, K38⟩
      · skip
        by_cases hb2 : (x8 = (9 : Int32) ∨ x8 = (10 : Int32) ∨ x8 = (13 : Int32))
        · skip
          refine P.iload X32 hx 132 (hb hby at_130) rfl rfl ?_
          refine P.iconst X32 hx 133 1 (hb hby at_132) rfl rfl ?_
          refine P.icmpNo X32 hx 136 (hb hby at_133) (by decide) rfl ?_
          refine P.iload X32 hx 138 (hb hby at_136) rfl rfl ?_
          refine X32.callS hx (w81 cx) (w82 cx) (w2 cx) (w83 cx) (by decide) (Ct.pay (W := 0) (ct_bad1 cx x2 h32 _ _ hb0) (w83 cx) (w2 cx) (nle rfl) (nle rfl)) (by rw [hml]; rfl) (argsL := [.int x2]) (rest := []) (lenOf pd21 rfl) rfl rfl (Nat.le_of_eq rfl) (hb hby at_138) (nle rfl) (nle rfl) ?_
          rintro T39 h39 _ _ _ X39 ⟨rfl, rfl, rfl, J39⟩
          rw [J39] at X39
          refine P.ifNo X39 hx 144 (hb hby at_141) (by decide) rfl ?_
          refine P.iconst X39 hx 145 0 (hb hby at_144) rfl rfl ?_
          refine P.istore X39 hx 147 #[.val (.int p0), .val (.int p1), .val (.int p2), .val (.int p3), .val (.int 3), .val (.int x2), .val (.int x5), .val (.int x8), .val (.ref a10), .val (.int 0)] (hb hby at_145) rfl rfl ?_
          refine P.iload X39 hx 149 (hb hby at_147) rfl rfl ?_
          refine P.iconst X39 hx 150 2 (hb hby at_149) rfl rfl ?_
          refine P.icmpNo X39 hx 153 (hb hby at_150) (by decide) rfl ?_
          refine P.iload X39 hx 155 (hb hby at_153) rfl rfl ?_
          refine X39.callS hx (w81 cx) (w82 cx) (w2 cx) (w83 cx) (by decide) (Ct.pay (W := 0) (ct_bad0 cx x5 h32 _ _ hb1) (w83 cx) (w2 cx) (nle rfl) (nle rfl)) (by rw [hml]; rfl) (argsL := [.int x5]) (rest := []) (lenOf pd21 rfl) rfl rfl (Nat.le_of_eq rfl) (hb hby at_155) (nle rfl) (nle rfl) ?_
          rintro T40 h40 _ _ _ X40 ⟨rfl, rfl, rfl, J40⟩
          rw [J40] at X40
          refine P.ifYes X40 hx 164 (hb hby at_158) (by decide) (by decide) (by decide) ?_
          refine P.iload X40 hx 166 (hb hby at_164) rfl rfl ?_
          refine P.iconst X40 hx 167 3 (hb hby at_166) rfl rfl ?_
          refine P.icmpNo X40 hx 170 (hb hby at_167) (by decide) rfl ?_
          refine P.iload X40 hx 172 (hb hby at_170) rfl rfl ?_
          refine X40.callS hx (w81 cx) (w82 cx) (w2 cx) (w83 cx) (by decide) (Ct.pay (W := 0) (ct_bad1 cx x8 h32 _ _ hb2) (w83 cx) (w2 cx) (nle rfl) (nle rfl)) (by rw [hml]; rfl) (argsL := [.int x8]) (rest := []) (lenOf pd21 rfl) rfl rfl (Nat.le_of_eq rfl) (hb hby at_172) (nle rfl) (nle rfl) ?_
          rintro T41 h41 _ _ _ X41 ⟨rfl, rfl, rfl, J41⟩
          rw [J41] at X41
          refine P.ifNo X41 hx 178 (hb hby at_175) (by decide) rfl ?_
          refine P.iconst X41 hx 179 0 (hb hby at_178) rfl rfl ?_
          refine P.istore X41 hx 181 #[.val (.int p0), .val (.int p1), .val (.int p2), .val (.int p3), .val (.int 3), .val (.int x2), .val (.int x5), .val (.int x8), .val (.ref a10), .val (.int 0)] (hb hby at_179) rfl rfl ?_
          refine P.aload X41 hx 183 (hb hby at_181) rfl rfl rfl ?_
          have F42 : Exa Z h32 a10 "java/lang/String" := (F29.keep J32)
          refine X41.callS hx (w27 cx) (w28 cx) (w29 cx) (w30 cx) (by decide) (Ct.pay (W := 0) (ct_pr013 cx a10 a33 k34 x2 x5 x8 h32 _ _ F42 G35 G36 G37 G3 G6 G9 (Or.inl hb0)) (w30 cx) (w29 cx) (nle rfl) (nle rfl)) (by rw [hml]; rfl) (argsL := [.ref a10]) (rest := []) (lenOf pd20 rfl) rfl rfl (Nat.le_of_eq rfl) (hb hby at_183) (nle rfl) (nle rfl) ?_
          rintro T43 h43 _ _ _ X43 ⟨rfl, rfl, rfl, J43⟩
          rw [J43] at X43
          refine P.iload X43 hx 188 (hb hby at_186) rfl rfl ?_
          refine P.icmpNo X43 hx 191 (hb hby at_188) (by decide) rfl ?_
          refine P.iconst X43 hx 192 1 (hb hby at_191) rfl rfl ?_
          refine P.goto X43 hx 196 (hb hby at_192) (by decide) (by decide) ?_
          have X44 := WS.drop (A := []) (B := WL) X43
          have X45 := WS.fl (FL2 := FL) X44 (fun y hy => (List.mem_append_right [a10, a33, a15] hy))
          exact WS.retN X45 (WL' := []) (FL' := []) hx (t := .boolean) hret (by simp) hlk (hb hby at_196) (nle rfl) (nle rfl) ⟨rfl, rfl, rfl, K38⟩
        · skip
          refine P.iload X32 hx 132 (hb hby at_130) rfl rfl ?_
          refine P.iconst X32 hx 133 1 (hb hby at_132) rfl rfl ?_
          refine P.icmpNo X32 hx 136 (hb hby at_133) (by decide) rfl ?_
          refine P.iload X32 hx 138 (hb hby at_136) rfl rfl ?_
          refine X32.callS hx (w81 cx) (w82 cx) (w2 cx) (w83 cx) (by decide) (Ct.pay (W := 0) (ct_bad1 cx x2 h32 _ _ hb0) (w83 cx) (w2 cx) (nle rfl) (nle rfl)) (by rw [hml]; rfl) (argsL := [.int x2]) (rest := []) (lenOf pd21 rfl) rfl rfl (Nat.le_of_eq rfl) (hb hby at_138) (nle rfl) (nle rfl) ?_
          rintro T39 h39 _ _ _ X39 ⟨rfl, rfl, rfl, J39⟩
          rw [J39] at X39
          refine P.ifNo X39 hx 144 (hb hby at_141) (by decide) rfl ?_
          refine P.iconst X39 hx 145 0 (hb hby at_144) rfl rfl ?_
          refine P.istore X39 hx 147 #[.val (.int p0), .val (.int p1), .val (.int p2), .val (.int p3), .val (.int 3), .val (.int x2), .val (.int x5), .val (.int x8), .val (.ref a10), .val (.int 0)] (hb hby at_145) rfl rfl ?_
          refine P.iload X39 hx 149 (hb hby at_147) rfl rfl ?_
          refine P.iconst X39 hx 150 2 (hb hby at_149) rfl rfl ?_
          refine P.icmpNo X39 hx 153 (hb hby at_150) (by decide) rfl ?_
          refine P.iload X39 hx 155 (hb hby at_153) rfl rfl ?_
          refine X39.callS hx (w81 cx) (w82 cx) (w2 cx) (w83 cx) (by decide) (Ct.pay (W := 0) (ct_bad0 cx x5 h32 _ _ hb1) (w83 cx) (w2 cx) (nle rfl) (nle rfl)) (by rw [hml]; rfl) (argsL := [.int x5]) (rest := []) (lenOf pd21 rfl) rfl rfl (Nat.le_of_eq rfl) (hb hby at_155) (nle rfl) (nle rfl) ?_
          rintro T40 h40 _ _ _ X40 ⟨rfl, rfl, rfl, J40⟩
          rw [J40] at X40
          refine P.ifYes X40 hx 164 (hb hby at_158) (by decide) (by decide) (by decide) ?_
          refine P.iload X40 hx 166 (hb hby at_164) rfl rfl ?_
          refine P.iconst X40 hx 167 3 (hb hby at_166) rfl rfl ?_
          refine P.icmpNo X40 hx 170 (hb hby at_167) (by decide) rfl ?_
          refine P.iload X40 hx 172 (hb hby at_170) rfl rfl ?_
          refine X40.callS hx (w81 cx) (w82 cx) (w2 cx) (w83 cx) (by decide) (Ct.pay (W := 0) (ct_bad0 cx x8 h32 _ _ hb2) (w83 cx) (w2 cx) (nle rfl) (nle rfl)) (by rw [hml]; rfl) (argsL := [.int x8]) (rest := []) (lenOf pd21 rfl) rfl rfl (Nat.le_of_eq rfl) (hb hby at_172) (nle rfl) (nle rfl) ?_
          rintro T41 h41 _ _ _ X41 ⟨rfl, rfl, rfl, J41⟩
          rw [J41] at X41
          refine P.ifYes X41 hx 181 (hb hby at_175) (by decide) (by decide) (by decide) ?_
          refine P.aload X41 hx 183 (hb hby at_181) rfl rfl rfl ?_
          have F42 : Exa Z h32 a10 "java/lang/String" := (F29.keep J32)
          refine X41.callS hx (w27 cx) (w28 cx) (w29 cx) (w30 cx) (by decide) (Ct.pay (W := 0) (ct_pr013 cx a10 a33 k34 x2 x5 x8 h32 _ _ F42 G35 G36 G37 G3 G6 G9 (Or.inl hb0)) (w30 cx) (w29 cx) (nle rfl) (nle rfl)) (by rw [hml]; rfl) (argsL := [.ref a10]) (rest := []) (lenOf pd20 rfl) rfl rfl (Nat.le_of_eq rfl) (hb hby at_183) (nle rfl) (nle rfl) ?_
          rintro T43 h43 _ _ _ X43 ⟨rfl, rfl, rfl, J43⟩
          rw [J43] at X43
          refine P.iload X43 hx 188 (hb hby at_186) rfl rfl ?_
          refine P.icmpNo X43 hx 191 (hb hby at_188) (by decide) rfl ?_
          refine P.iconst X43 hx 192 1 (hb hby at_191) rfl rfl ?_
          refine P.goto X43 hx 196 (hb hby at_192) (by decide) (by decide) ?_
          have X44 := WS.drop (A := []) (B := WL) X43
          have X45 := WS.fl (FL2 := FL) X44 (fun y hy => (List.mem_append_right [a10, a33, a15] hy))
          exact WS.retN X45 (WL' := []) (FL' := []) hx (t := .boolean) hret (by simp) hlk (hb hby at_196) (nle rfl) (nle rfl) ⟨rfl, rfl, rfl, K38⟩
    · skip
      by_cases hb1 : (x5 = (9 : Int32) ∨ x5 = (10 : Int32) ∨ x5 = (13 : Int32))
      · skip
        by_cases hb2 : (x8 = (9 : Int32) ∨ x8 = (10 : Int32) ∨ x8 = (13 : Int32))
        · skip
          refine P.iload X32 hx 132 (hb hby at_130) rfl rfl ?_
          refine P.iconst X32 hx 133 1 (hb hby at_132) rfl rfl ?_
          refine P.icmpNo X32 hx 136 (hb hby at_133) (by decide) rfl ?_
          refine P.iload X32 hx 138 (hb hby at_136) rfl rfl ?_
          refine X32.callS hx (w81 cx) (w82 cx) (w2 cx) (w83 cx) (by decide) (Ct.pay (W := 0) (ct_bad0 cx x2 h32 _ _ hb0) (w83 cx) (w2 cx) (nle rfl) (nle rfl)) (by rw [hml]; rfl) (argsL := [.int x2]) (rest := []) (lenOf pd21 rfl) rfl rfl (Nat.le_of_eq rfl) (hb hby at_138) (nle rfl) (nle rfl) ?_
          rintro T39 h39 _ _ _ X39 ⟨rfl, rfl, rfl, J39⟩
          rw [J39] at X39
          refine P.ifYes X39 hx 147 (hb hby at_141) (by decide) (by decide) (by decide) ?_
          refine P.iload X39 hx 149 (hb hby at_147) rfl rfl ?_
          refine P.iconst X39 hx 150 2 (hb hby at_149) rfl rfl ?_
          refine P.icmpNo X39 hx 153 (hb hby at_150) (by decide) rfl ?_
          refine P.iload X39 hx 155 (hb hby at_153) rfl rfl ?_
          refine X39.callS hx (w81 cx) (w82 cx) (w2 cx) (w83 cx) (by decide) (Ct.pay (W := 0) (ct_bad1 cx x5 h32 _ _ hb1) (w83 cx) (w2 cx) (nle rfl) (nle rfl)) (by rw [hml]; rfl) (argsL := [.int x5]) (rest := []) (lenOf pd21 rfl) rfl rfl (Nat.le_of_eq rfl) (hb hby at_155) (nle rfl) (nle rfl) ?_
          rintro T40 h40 _ _ _ X40 ⟨rfl, rfl, rfl, J40⟩
          rw [J40] at X40
          refine P.ifNo X40 hx 161 (hb hby at_158) (by decide) rfl ?_
          refine P.iconst X40 hx 162 0 (hb hby at_161) rfl rfl ?_
          refine P.istore X40 hx 164 #[.val (.int p0), .val (.int p1), .val (.int p2), .val (.int p3), .val (.int 3), .val (.int x2), .val (.int x5), .val (.int x8), .val (.ref a10), .val (.int 0)] (hb hby at_162) rfl rfl ?_
          refine P.iload X40 hx 166 (hb hby at_164) rfl rfl ?_
          refine P.iconst X40 hx 167 3 (hb hby at_166) rfl rfl ?_
          refine P.icmpNo X40 hx 170 (hb hby at_167) (by decide) rfl ?_
          refine P.iload X40 hx 172 (hb hby at_170) rfl rfl ?_
          refine X40.callS hx (w81 cx) (w82 cx) (w2 cx) (w83 cx) (by decide) (Ct.pay (W := 0) (ct_bad1 cx x8 h32 _ _ hb2) (w83 cx) (w2 cx) (nle rfl) (nle rfl)) (by rw [hml]; rfl) (argsL := [.int x8]) (rest := []) (lenOf pd21 rfl) rfl rfl (Nat.le_of_eq rfl) (hb hby at_172) (nle rfl) (nle rfl) ?_
          rintro T41 h41 _ _ _ X41 ⟨rfl, rfl, rfl, J41⟩
          rw [J41] at X41
          refine P.ifNo X41 hx 178 (hb hby at_175) (by decide) rfl ?_
          refine P.iconst X41 hx 179 0 (hb hby at_178) rfl rfl ?_
          refine P.istore X41 hx 181 #[.val (.int p0), .val (.int p1), .val (.int p2), .val (.int p3), .val (.int 3), .val (.int x2), .val (.int x5), .val (.int x8), .val (.ref a10), .val (.int 0)] (hb hby at_179) rfl rfl ?_
          refine P.aload X41 hx 183 (hb hby at_181) rfl rfl rfl ?_
          have F42 : Exa Z h32 a10 "java/lang/String" := (F29.keep J32)
          refine X41.callS hx (w27 cx) (w28 cx) (w29 cx) (w30 cx) (by decide) (Ct.pay (W := 0) (ct_pr013 cx a10 a33 k34 x2 x5 x8 h32 _ _ F42 G35 G36 G37 G3 G6 G9 (Or.inr (Or.inl hb1))) (w30 cx) (w29 cx) (nle rfl) (nle rfl)) (by rw [hml]; rfl) (argsL := [.ref a10]) (rest := []) (lenOf pd20 rfl) rfl rfl (Nat.le_of_eq rfl) (hb hby at_183) (nle rfl) (nle rfl) ?_
          rintro T43 h43 _ _ _ X43 ⟨rfl, rfl, rfl, J43⟩
          rw [J43] at X43
          refine P.iload X43 hx 188 (hb hby at_186) rfl rfl ?_
          refine P.icmpNo X43 hx 191 (hb hby at_188) (by decide) rfl ?_
          refine P.iconst X43 hx 192 1 (hb hby at_191) rfl rfl ?_
          refine P.goto X43 hx 196 (hb hby at_192) (by decide) (by decide) ?_
          have X44 := WS.drop (A := []) (B := WL) X43
          have X45 := WS.fl (FL2 := FL) X44 (fun y hy => (List.mem_append_right [a10, a33, a15] hy))
          exact WS.retN X45 (WL' := []) (FL' := []) hx (t := .boolean) hret (by simp) hlk (hb hby at_196) (nle rfl) (nle rfl) ⟨rfl, rfl, rfl, K38⟩
        · skip
          refine P.iload X32 hx 132 (hb hby at_130) rfl rfl ?_
          refine P.iconst X32 hx 133 1 (hb hby at_132) rfl rfl ?_
          refine P.icmpNo X32 hx 136 (hb hby at_133) (by decide) rfl ?_
          refine P.iload X32 hx 138 (hb hby at_136) rfl rfl ?_
          refine X32.callS hx (w81 cx) (w82 cx) (w2 cx) (w83 cx) (by decide) (Ct.pay (W := 0) (ct_bad0 cx x2 h32 _ _ hb0) (w83 cx) (w2 cx) (nle rfl) (nle rfl)) (by rw [hml]; rfl) (argsL := [.int x2]) (rest := []) (lenOf pd21 rfl) rfl rfl (Nat.le_of_eq rfl) (hb hby at_138) (nle rfl) (nle rfl) ?_
          rintro T39 h39 _ _ _ X39 ⟨rfl, rfl, rfl, J39⟩
          rw [J39] at X39
          refine P.ifYes X39 hx 147 (hb hby at_141) (by decide) (by decide) (by decide) ?_
          refine P.iload X39 hx 149 (hb hby at_147) rfl rfl ?_
          refine P.iconst X39 hx 150 2 (hb hby at_149) rfl rfl ?_
          refine P.icmpNo X39 hx 153 (hb hby at_150) (by decide) rfl ?_
          refine P.iload X39 hx 155 (hb hby at_153) rfl rfl ?_
          refine X39.callS hx (w81 cx) (w82 cx) (w2 cx) (w83 cx) (by decide) (Ct.pay (W := 0) (ct_bad1 cx x5 h32 _ _ hb1) (w83 cx) (w2 cx) (nle rfl) (nle rfl)) (by rw [hml]; rfl) (argsL := [.int x5]) (rest := []) (lenOf pd21 rfl) rfl rfl (Nat.le_of_eq rfl) (hb hby at_155) (nle rfl) (nle rfl) ?_
          rintro T40 h40 _ _ _ X40 ⟨rfl, rfl, rfl, J40⟩
          rw [J40] at X40
          refine P.ifNo X40 hx 161 (hb hby at_158) (by decide) rfl ?_
          refine P.iconst X40 hx 162 0 (hb hby at_161) rfl rfl ?_
          refine P.istore X40 hx 164 #[.val (.int p0), .val (.int p1), .val (.int p2), .val (.int p3), .val (.int 3), .val (.int x2), .val (.int x5), .val (.int x8), .val (.ref a10), .val (.int 0)] (hb hby at_162) rfl rfl ?_
          refine P.iload X40 hx 166 (hb hby at_164) rfl rfl ?_
          refine P.iconst X40 hx 167 3 (hb hby at_166) rfl rfl ?_
          refine P.icmpNo X40 hx 170 (hb hby at_167) (by decide) rfl ?_
          refine P.iload X40 hx 172 (hb hby at_170) rfl rfl ?_
          refine X40.callS hx (w81 cx) (w82 cx) (w2 cx) (w83 cx) (by decide) (Ct.pay (W := 0) (ct_bad0 cx x8 h32 _ _ hb2) (w83 cx) (w2 cx) (nle rfl) (nle rfl)) (by rw [hml]; rfl) (argsL := [.int x8]) (rest := []) (lenOf pd21 rfl) rfl rfl (Nat.le_of_eq rfl) (hb hby at_172) (nle rfl) (nle rfl) ?_
          rintro T41 h41 _ _ _ X41 ⟨rfl, rfl, rfl, J41⟩
          rw [J41] at X41
          refine P.ifYes X41 hx 181 (hb hby at_175) (by decide) (by decide) (by decide) ?_
          refine P.aload X41 hx 183 (hb hby at_181) rfl rfl rfl ?_
          have F42 : Exa Z h32 a10 "java/lang/String" := (F29.keep J32)
          refine X41.callS hx (w27 cx) (w28 cx) (w29 cx) (w30 cx) (by decide) (Ct.pay (W := 0) (ct_pr013 cx a10 a33 k34 x2 x5 x8 h32 _ _ F42 G35 G36 G37 G3 G6 G9 (Or.inr (Or.inl hb1))) (w30 cx) (w29 cx) (nle rfl) (nle rfl)) (by rw [hml]; rfl) (argsL := [.ref a10]) (rest := []) (lenOf pd20 rfl) rfl rfl (Nat.le_of_eq rfl) (hb hby at_183) (nle rfl) (nle rfl) ?_
          rintro T43 h43 _ _ _ X43 ⟨rfl, rfl, rfl, J43⟩
          rw [J43] at X43
          refine P.iload X43 hx 188 (hb hby at_186) rfl rfl ?_
          refine P.icmpNo X43 hx 191 (hb hby at_188) (by decide) rfl ?_
          refine P.iconst X43 hx 192 1 (hb hby at_191) rfl rfl ?_
          refine P.goto X43 hx 196 (hb hby at_192) (by decide) (by decide) ?_
          have X44 := WS.drop (A := []) (B := WL) X43
          have X45 := WS.fl (FL2 := FL) X44 (fun y hy => (List.mem_append_right [a10, a33, a15] hy))
          exact WS.retN X45 (WL' := []) (FL' := []) hx (t := .boolean) hret (by simp) hlk (hb hby at_196) (nle rfl) (nle rfl) ⟨rfl, rfl, rfl, K38⟩
      · skip
        by_cases hb2 : (x8 = (9 : Int32) ∨ x8 = (10 : Int32) ∨ x8 = (13 : Int32))
        · skip
          refine P.iload X32 hx 132 (hb hby at_130) rfl rfl ?_
          refine P.iconst X32 hx 133 1 (hb hby at_132) rfl rfl ?_
          refine P.icmpNo X32 hx 136 (hb hby at_133) (by decide) rfl ?_
          refine P.iload X32 hx 138 (hb hby at_136) rfl rfl ?_
          refine X32.callS hx (w81 cx) (w82 cx) (w2 cx) (w83 cx) (by decide) (Ct.pay (W := 0) (ct_bad0 cx x2 h32 _ _ hb0) (w83 cx) (w2 cx) (nle rfl) (nle rfl)) (by rw [hml]; rfl) (argsL := [.int x2]) (rest := []) (lenOf pd21 rfl) rfl rfl (Nat.le_of_eq rfl) (hb hby at_138) (nle rfl) (nle rfl) ?_
          rintro T39 h39 _ _ _ X39 ⟨rfl, rfl, rfl, J39⟩
          rw [J39] at X39
          refine P.ifYes X39 hx 147 (hb hby at_141) (by decide) (by decide) (by decide) ?_
          refine P.iload X39 hx 149 (hb hby at_147) rfl rfl ?_
          refine P.iconst X39 hx 150 2 (hb hby at_149) rfl rfl ?_
          refine P.icmpNo X39 hx 153 (hb hby at_150) (by decide) rfl ?_
          refine P.iload X39 hx 155 (hb hby at_153) rfl rfl ?_
          refine X39.callS hx (w81 cx) (w82 cx) (w2 cx) (w83 cx) (by decide) (Ct.pay (W := 0) (ct_bad0 cx x5 h32 _ _ hb1) (w83 cx) (w2 cx) (nle rfl) (nle rfl)) (by rw [hml]; rfl) (argsL := [.int x5]) (rest := []) (lenOf pd21 rfl) rfl rfl (Nat.le_of_eq rfl) (hb hby at_155) (nle rfl) (nle rfl) ?_
          rintro T40 h40 _ _ _ X40 ⟨rfl, rfl, rfl, J40⟩
          rw [J40] at X40
          refine P.ifYes X40 hx 164 (hb hby at_158) (by decide) (by decide) (by decide) ?_
          refine P.iload X40 hx 166 (hb hby at_164) rfl rfl ?_
          refine P.iconst X40 hx 167 3 (hb hby at_166) rfl rfl ?_
          refine P.icmpNo X40 hx 170 (hb hby at_167) (by decide) rfl ?_
          refine P.iload X40 hx 172 (hb hby at_170) rfl rfl ?_
          refine X40.callS hx (w81 cx) (w82 cx) (w2 cx) (w83 cx) (by decide) (Ct.pay (W := 0) (ct_bad1 cx x8 h32 _ _ hb2) (w83 cx) (w2 cx) (nle rfl) (nle rfl)) (by rw [hml]; rfl) (argsL := [.int x8]) (rest := []) (lenOf pd21 rfl) rfl rfl (Nat.le_of_eq rfl) (hb hby at_172) (nle rfl) (nle rfl) ?_
          rintro T41 h41 _ _ _ X41 ⟨rfl, rfl, rfl, J41⟩
          rw [J41] at X41
          refine P.ifNo X41 hx 178 (hb hby at_175) (by decide) rfl ?_
          refine P.iconst X41 hx 179 0 (hb hby at_178) rfl rfl ?_
          refine P.istore X41 hx 181 #[.val (.int p0), .val (.int p1), .val (.int p2), .val (.int p3), .val (.int 3), .val (.int x2), .val (.int x5), .val (.int x8), .val (.ref a10), .val (.int 0)] (hb hby at_179) rfl rfl ?_
          refine P.aload X41 hx 183 (hb hby at_181) rfl rfl rfl ?_
          have F42 : Exa Z h32 a10 "java/lang/String" := (F29.keep J32)
          refine X41.callS hx (w27 cx) (w28 cx) (w29 cx) (w30 cx) (by decide) (Ct.pay (W := 0) (ct_pr013 cx a10 a33 k34 x2 x5 x8 h32 _ _ F42 G35 G36 G37 G3 G6 G9 (Or.inr (Or.inr hb2))) (w30 cx) (w29 cx) (nle rfl) (nle rfl)) (by rw [hml]; rfl) (argsL := [.ref a10]) (rest := []) (lenOf pd20 rfl) rfl rfl (Nat.le_of_eq rfl) (hb hby at_183) (nle rfl) (nle rfl) ?_
          rintro T43 h43 _ _ _ X43 ⟨rfl, rfl, rfl, J43⟩
          rw [J43] at X43
          refine P.iload X43 hx 188 (hb hby at_186) rfl rfl ?_
          refine P.icmpNo X43 hx 191 (hb hby at_188) (by decide) rfl ?_
          refine P.iconst X43 hx 192 1 (hb hby at_191) rfl rfl ?_
          refine P.goto X43 hx 196 (hb hby at_192) (by decide) (by decide) ?_
          have X44 := WS.drop (A := []) (B := WL) X43
          have X45 := WS.fl (FL2 := FL) X44 (fun y hy => (List.mem_append_right [a10, a33, a15] hy))
          exact WS.retN X45 (WL' := []) (FL' := []) hx (t := .boolean) hret (by simp) hlk (hb hby at_196) (nle rfl) (nle rfl) ⟨rfl, rfl, rfl, K38⟩
        · skip
          refine P.iload X32 hx 132 (hb hby at_130) rfl rfl ?_
          refine P.iconst X32 hx 133 1 (hb hby at_132) rfl rfl ?_
          refine P.icmpNo X32 hx 136 (hb hby at_133) (by decide) rfl ?_
          refine P.iload X32 hx 138 (hb hby at_136) rfl rfl ?_
          refine X32.callS hx (w81 cx) (w82 cx) (w2 cx) (w83 cx) (by decide) (Ct.pay (W := 0) (ct_bad0 cx x2 h32 _ _ hb0) (w83 cx) (w2 cx) (nle rfl) (nle rfl)) (by rw [hml]; rfl) (argsL := [.int x2]) (rest := []) (lenOf pd21 rfl) rfl rfl (Nat.le_of_eq rfl) (hb hby at_138) (nle rfl) (nle rfl) ?_
          rintro T39 h39 _ _ _ X39 ⟨rfl, rfl, rfl, J39⟩
          rw [J39] at X39
          refine P.ifYes X39 hx 147 (hb hby at_141) (by decide) (by decide) (by decide) ?_
          refine P.iload X39 hx 149 (hb hby at_147) rfl rfl ?_
          refine P.iconst X39 hx 150 2 (hb hby at_149) rfl rfl ?_
          refine P.icmpNo X39 hx 153 (hb hby at_150) (by decide) rfl ?_
          refine P.iload X39 hx 155 (hb hby at_153) rfl rfl ?_
          refine X39.callS hx (w81 cx) (w82 cx) (w2 cx) (w83 cx) (by decide) (Ct.pay (W := 0) (ct_bad0 cx x5 h32 _ _ hb1) (w83 cx) (w2 cx) (nle rfl) (nle rfl)) (by rw [hml]; rfl) (argsL := [.int x5]) (rest := []) (lenOf pd21 rfl) rfl rfl (Nat.le_of_eq rfl) (hb hby at_155) (nle rfl) (nle rfl) ?_
          rintro T40 h40 _ _ _ X40 ⟨rfl, rfl, rfl, J40⟩
          rw [J40] at X40
          refine P.ifYes X40 hx 164 (hb hby at_158) (by decide) (by decide) (by decide) ?_
          refine P.iload X40 hx 166 (hb hby at_164) rfl rfl ?_
          refine P.iconst X40 hx 167 3 (hb hby at_166) rfl rfl ?_
          refine P.icmpNo X40 hx 170 (hb hby at_167) (by decide) rfl ?_
          refine P.iload X40 hx 172 (hb hby at_170) rfl rfl ?_
          refine X40.callS hx (w81 cx) (w82 cx) (w2 cx) (w83 cx) (by decide) (Ct.pay (W := 0) (ct_bad0 cx x8 h32 _ _ hb2) (w83 cx) (w2 cx) (nle rfl) (nle rfl)) (by rw [hml]; rfl) (argsL := [.int x8]) (rest := []) (lenOf pd21 rfl) rfl rfl (Nat.le_of_eq rfl) (hb hby at_172) (nle rfl) (nle rfl) ?_
          rintro T41 h41 _ _ _ X41 ⟨rfl, rfl, rfl, J41⟩
          rw [J41] at X41
          refine P.ifYes X41 hx 181 (hb hby at_175) (by decide) (by decide) (by decide) ?_
          refine P.aload X41 hx 183 (hb hby at_181) rfl rfl rfl ?_
          have F42 : Exa Z h32 a10 "java/lang/String" := (F29.keep J32)
          refine X41.callS hx (w27 cx) (w28 cx) (w29 cx) (w30 cx) (by decide) (Ct.pay (W := 0) (ct_pr113 cx a10 a33 k34 x2 x5 x8 h32 _ _ F42 G35 G36 G37 G3 G6 G9 hb0 hb1 hb2) (w30 cx) (w29 cx) (nle rfl) (nle rfl)) (by rw [hml]; rfl) (argsL := [.ref a10]) (rest := []) (lenOf pd20 rfl) rfl rfl (Nat.le_of_eq rfl) (hb hby at_183) (nle rfl) (nle rfl) ?_
          rintro T43 h43 _ _ _ X43 ⟨rfl, rfl, rfl, J43⟩
          rw [J43] at X43
          refine P.iload X43 hx 188 (hb hby at_186) rfl rfl ?_
          refine P.icmpNo X43 hx 191 (hb hby at_188) (by decide) rfl ?_
          refine P.iconst X43 hx 192 1 (hb hby at_191) rfl rfl ?_
          refine P.goto X43 hx 196 (hb hby at_192) (by decide) (by decide) ?_
          have X44 := WS.drop (A := []) (B := WL) X43
          have X45 := WS.fl (FL2 := FL) X44 (fun y hy => (List.mem_append_right [a10, a33, a15] hy))
          exact WS.retN X45 (WL' := []) (FL' := []) hx (t := .boolean) hret (by simp) hlk (hb hby at_196) (nle rfl) (nle rfl) ⟨rfl, rfl, rfl, K38⟩
  · skip
    refine P.iload X7 hx 25 (hb hby at_23) rfl rfl ?_
    refine P.ifYes X7 hx 43 (hb hby at_25) (by decide) (by decide) (by decide) ?_
    refine P.iload X7 hx 45 (hb hby at_43) rfl rfl ?_
    refine P.iconst X7 hx 46 1 (hb hby at_45) rfl rfl ?_
    refine P.icmpYes X7 hx 69 (hb hby at_46) (by decide) (by decide) (by decide) ?_
    refine P.iload X7 hx 71 (hb hby at_69) rfl rfl ?_
    refine P.iconst X7 hx 72 2 (hb hby at_71) rfl rfl ?_
    refine P.icmpYes X7 hx 100 (hb hby at_72) (by decide) (by decide) (by decide) ?_
    refine X7.newO hx (w5 cx) (w6 cx) (w7 cx) (hb hby at_100) (nle rfl) (nle rfl) ?_
    intro T10 h10 a10 X10 E10 g10 A10 D10
    have ge11 : h.size ≤ a10 := Nat.le_trans K0.1 g10
    have K12 : Keep h h10 [] := K0.ext E10
    have D13 : Fld Z h10 a10 "java/lang/String" "value" "[B" .null := D10 (Or.inr (w21 cx)) (ty := (.array .byte)) (by decide)
    have D14 : Fld Z h10 a10 "java/lang/String" "coder" "B" (.int 0) := D10 (Or.inr (w22 cx)) (ty := .byte) (by decide)
    refine P.dup X10 hx 104 (hb hby at_103) rfl rfl ?_
    refine P.iconst X10 hx 105 3 (hb hby at_104) rfl rfl ?_
    refine X10.newP (aty := .char) hx (w8 cx) (hb hby at_105) (by decide) (cap := 3) (nle rfl) (nle rfl) (nle rfl) (nle rfl) ?_
    intro T15 h15 a15 k15 X15 E15 g15 A15
    have ge16 : h.size ≤ a15 := Nat.le_trans K12.1 g15
    have K17 : Keep h h15 [] := K12.ext E15
    have V18 : Arv Z h15 a15 k15 .char (3 : Int32) [(.int 0), (.int 0), (.int 0)] (.int 0) := Arv.pad A15 (pad_rep [] _ 3)
    refine P.dup X15 hx 108 (hb hby at_107) rfl rfl ?_
    refine P.iconst X15 hx 109 0 (hb hby at_108) rfl rfl ?_
    refine P.iload X15 hx 111 (hb hby at_109) rfl rfl ?_
    refine X15.stC hx V18 (j := (0 : Int32)) (x := x2) (i := 0) (by decide) rfl (nlt rfl) (List.mem_of_getElem? (i := 0) rfl) (hb hby at_111) ?_
    intro T19 h19 X19 W19 G19
    have K20 : Keep h h19 [] := K17.wr W19 (Or.inr ge16)
    have V21 : Arv Z h19 a15 k15 .char (3 : Int32) [(.int x2), (.int 0), (.int 0)] (.int 0) := by have q := G19; rw [narU G3] at q; exact q
    refine P.dup X19 hx 113 (hb hby at_112) rfl rfl ?_
    refine P.iconst X19 hx 114 1 (hb hby at_113) rfl rfl ?_
    refine P.iload X19 hx 116 (hb hby at_114) rfl rfl ?_
    refine X19.stC hx V21 (j := (1 : Int32)) (x := x5) (i := 1) (by decide) rfl (nlt rfl) (List.mem_of_getElem? (i := 0) rfl) (hb hby at_116) ?_
    intro T22 h22 X22 W22 G22
    have K23 : Keep h h22 [] := K20.wr W22 (Or.inr ge16)
    have V24 : Arv Z h22 a15 k15 .char (3 : Int32) [(.int x2), (.int x5), (.int 0)] (.int 0) := by have q := G22; rw [narU G6] at q; exact q
    refine P.dup X22 hx 118 (hb hby at_117) rfl rfl ?_
    refine P.iconst X22 hx 119 2 (hb hby at_118) rfl rfl ?_
    refine P.iload X22 hx 121 (hb hby at_119) rfl rfl ?_
    refine X22.stC hx V24 (j := (2 : Int32)) (x := x8) (i := 2) (by decide) rfl (nlt rfl) (List.mem_of_getElem? (i := 0) rfl) (hb hby at_121) ?_
    intro T25 h25 X25 W25 G25
    have K26 : Keep h h25 [] := K23.wr W25 (Or.inr ge16)
    have V27 : Arv Z h25 a15 k15 .char (3 : Int32) [(.int x2), (.int x5), (.int x8)] (.int 0) := by have q := G25; rw [narU G9] at q; exact q
    have F28 : Exa Z h25 a10 "java/lang/String" := ((((A10.ext E15).wr W19).wr W22).wr W25)
    have F29 : Fld Z h25 a10 "java/lang/String" "value" "[B" .null := ((((D13.ext E15).other W19 (Or.inl (X25.ne (i := 1) (j := 0) rfl rfl (by decide)))).other W22 (Or.inl (X25.ne (i := 1) (j := 0) rfl rfl (by decide)))).other W25 (Or.inl (X25.ne (i := 1) (j := 0) rfl rfl (by decide))))
    have F30 : Fld Z h25 a10 "java/lang/String" "coder" "B" (.int 0) := ((((D14.ext E15).other W19 (Or.inl (X25.ne (i := 1) (j := 0) rfl rfl (by decide)))).other W22 (Or.inl (X25.ne (i := 1) (j := 0) rfl rfl (by decide)))).other W25 (Or.inl (X25.ne (i := 1) (j := 0) rfl rfl (by decide))))
    refine X25.callC hx rfl (w9 cx) (w10 cx) (w11 cx) (by decide) (pay_new (W := 1) (hws cx) (w6 cx) (cs := [x2, x5, x8]) (n := 3) (X25.ge (List.mem_of_getElem? (i := 1) rfl)) X25.n0le (List.mem_of_getElem? (i := 1) rfl) F28 F29 F30 V27 (X25.sta (S_C cx)) (N_C cx) rfl rfl (nle rfl) (nle rfl) (fcS ⟨G3.1, fun q => hU (Or.inl q)⟩ (fcS ⟨G6.1, fun q => hU (Or.inr (Or.inl q))⟩ (fcS ⟨G9.1, fun q => hU (Or.inr (Or.inr q))⟩ fc0))) (nle rfl) (nle rfl)) (by rw [hml]; rfl) (argsL := [.ref a15]) (rest := [.ref a10]) (lenOf pd19 rfl) rfl rfl (Nat.le_of_eq rfl) (hb hby at_122) (nle rfl) (nle rfl) ?_
    rintro T31 h31 _ _ _ X31 ⟨a32, rfl, rfl, rfl, J31, G33⟩
    have K34 : Keep h h31 [] := K26.trans J31 (allS (Or.inr ge11) all0)
    refine P.astore X31 hx 127 #[.val (.int p0), .val (.int p1), .val (.int p2), .val (.int p3), .val (.int 3), .val (.int x2), .val (.int x5), .val (.int x8), .val (.ref a10), .unset] (hb hby at_125) rfl rfl rfl ?_
    refine P.iconst X31 hx 128 1 (hb hby at_127) rfl rfl ?_
    refine P.istore X31 hx 130 #[.val (.int p0), .val (.int p1), .val (.int p2), .val (.int p3), .val (.int 3), .val (.int x2), .val (.int x5), .val (.int x8), .val (.ref a10), .val (.int 1)] (hb hby at_128) rfl rfl ?_
    by_cases hb0 : (x2 = (9 : Int32) ∨ x2 = (10 : Int32) ∨ x2 = (13 : Int32))
    · skip
      by_cases hb1 : (x5 = (9 : Int32) ∨ x5 = (10 : Int32) ∨ x5 = (13 : Int32))
      · skip
        by_cases hb2 : (x8 = (9 : Int32) ∨ x8 = (10 : Int32) ∨ x8 = (13 : Int32))
        · skip
          refine P.iload X31 hx 132 (hb hby at_130) rfl rfl ?_
          refine P.iconst X31 hx 133 1 (hb hby at_132) rfl rfl ?_
          refine P.icmpNo X31 hx 136 (hb hby at_133) (by decide) rfl ?_
          refine P.iload X31 hx 138 (hb hby at_136) rfl rfl ?_
          refine X31.callS hx (w81 cx) (w82 cx) (w2 cx) (w83 cx) (by decide) (Ct.pay (W := 0) (ct_bad1 cx x2 h31 _ _ hb0) (w83 cx) (w2 cx) (nle rfl) (nle rfl)) (by rw [hml]; rfl) (argsL := [.int x2]) (rest := []) (lenOf pd21 rfl) rfl rfl (Nat.le_of_eq rfl) (hb hby at_138) (nle rfl) (nle rfl) ?_
          rintro T35 h35 _ _ _ X35 ⟨rfl, rfl, rfl, J35⟩
          rw [J35] at X35
          refine P.ifNo X35 hx 144 (hb hby at_141) (by decide) rfl ?_
          refine P.iconst X35 hx 145 0 (hb hby at_144) rfl rfl ?_
          refine P.istore X35 hx 147 #[.val (.int p0), .val (.int p1), .val (.int p2), .val (.int p3), .val (.int 3), .val (.int x2), .val (.int x5), .val (.int x8), .val (.ref a10), .val (.int 0)] (hb hby at_145) rfl rfl ?_
          refine P.iload X35 hx 149 (hb hby at_147) rfl rfl ?_
          refine P.iconst X35 hx 150 2 (hb hby at_149) rfl rfl ?_
          refine P.icmpNo X35 hx 153 (hb hby at_150) (by decide) rfl ?_
          refine P.iload X35 hx 155 (hb hby at_153) rfl rfl ?_
          refine X35.callS hx (w81 cx) (w82 cx) (w2 cx) (w83 cx) (by decide) (Ct.pay (W := 0) (ct_bad1 cx x5 h31 _ _ hb1) (w83 cx) (w2 cx) (nle rfl) (nle rfl)) (by rw [hml]; rfl) (argsL := [.int x5]) (rest := []) (lenOf pd21 rfl) rfl rfl (Nat.le_of_eq rfl) (hb hby at_155) (nle rfl) (nle rfl) ?_
          rintro T36 h36 _ _ _ X36 ⟨rfl, rfl, rfl, J36⟩
          rw [J36] at X36
          refine P.ifNo X36 hx 161 (hb hby at_158) (by decide) rfl ?_
          refine P.iconst X36 hx 162 0 (hb hby at_161) rfl rfl ?_
          refine P.istore X36 hx 164 #[.val (.int p0), .val (.int p1), .val (.int p2), .val (.int p3), .val (.int 3), .val (.int x2), .val (.int x5), .val (.int x8), .val (.ref a10), .val (.int 0)] (hb hby at_162) rfl rfl ?_
          refine P.iload X36 hx 166 (hb hby at_164) rfl rfl ?_
          refine P.iconst X36 hx 167 3 (hb hby at_166) rfl rfl ?_
          refine P.icmpNo X36 hx 170 (hb hby at_167) (by decide) rfl ?_
          refine P.iload X36 hx 172 (hb hby at_170) rfl rfl ?_
          refine X36.callS hx (w81 cx) (w82 cx) (w2 cx) (w83 cx) (by decide) (Ct.pay (W := 0) (ct_bad1 cx x8 h31 _ _ hb2) (w83 cx) (w2 cx) (nle rfl) (nle rfl)) (by rw [hml]; rfl) (argsL := [.int x8]) (rest := []) (lenOf pd21 rfl) rfl rfl (Nat.le_of_eq rfl) (hb hby at_172) (nle rfl) (nle rfl) ?_
          rintro T37 h37 _ _ _ X37 ⟨rfl, rfl, rfl, J37⟩
          rw [J37] at X37
          refine P.ifNo X37 hx 178 (hb hby at_175) (by decide) rfl ?_
          refine P.iconst X37 hx 179 0 (hb hby at_178) rfl rfl ?_
          refine P.istore X37 hx 181 #[.val (.int p0), .val (.int p1), .val (.int p2), .val (.int p3), .val (.int 3), .val (.int x2), .val (.int x5), .val (.int x8), .val (.ref a10), .val (.int 0)] (hb hby at_179) rfl rfl ?_
          refine P.aload X37 hx 183 (hb hby at_181) rfl rfl rfl ?_
          refine X37.callS hx (w27 cx) (w28 cx) (w29 cx) (w30 cx) (by decide) (Ct.pay (W := 0) (ct_pr003 cx a10 a32 x2 x5 x8 h31 _ _ G33 (Or.inl hb0)) (w30 cx) (w29 cx) (nle rfl) (nle rfl)) (by rw [hml]; rfl) (argsL := [.ref a10]) (rest := []) (lenOf pd20 rfl) rfl rfl (Nat.le_of_eq rfl) (hb hby at_183) (nle rfl) (nle rfl) ?_
          rintro T38 h38 _ _ _ X38 ⟨rfl, rfl, rfl, J38⟩
          rw [J38] at X38
          refine P.iload X38 hx 188 (hb hby at_186) rfl rfl ?_
          refine P.icmpNo X38 hx 191 (hb hby at_188) (by decide) rfl ?_
          refine P.iconst X38 hx 192 1 (hb hby at_191) rfl rfl ?_
          refine P.goto X38 hx 196 (hb hby at_192) (by decide) (by decide) ?_
          have X39 := WS.drop (A := []) (B := (a10 :: WL)) X38
          have X40 := WS.drop (A := []) (B := WL) X39
          have X41 := WS.fl (FL2 := FL) X40 (fun y hy => (List.mem_append_right [a10, a15, a32] hy))
          exact WS.retN X41 (WL' := []) (FL' := []) hx (t := .boolean) hret (by simp) hlk (hb hby at_196) (nle rfl) (nle rfl) ⟨rfl, rfl, rfl, K34⟩
        · skip
          refine P.iload X31 hx 132 (hb hby at_130) rfl rfl ?_
          refine P.iconst X31 hx 133 1 (hb hby at_132) rfl rfl ?_
          refine P.icmpNo X31 hx 136 (hb hby at_133) (by decide) rfl ?_
          refine P.iload X31 hx 138 (hb hby at_136) rfl rfl ?_
          refine X31.callS hx (w81 cx) (w82 cx) (w2 cx) (w83 cx) (by decide) (Ct.pay (W := 0) (ct_bad1 cx x2 h31 _ _ hb0) (w83 cx) (w2 cx) (nle rfl) (nle rfl)) (by rw [hml]; rfl) (argsL := [.int x2]) (rest := []) (lenOf pd21 rfl) rfl rfl (Nat.le_of_eq rfl) (hb hby at_138) (nle rfl) (nle rfl) ?_
          rintro T35 h35 _ _ _ X35 ⟨rfl, rfl, rfl, J35⟩
          rw [J35] at X35
          refine P.ifNo X35 hx 144 (hb hby at_141) (by decide) rfl ?_
          refine P.iconst X35 hx 145 0 (hb hby at_144) rfl rfl ?_
          refine P.istore X35 hx 147 #[.val (.int p0), .val (.int p1), .val (.int p2), .val (.int p3), .val (.int 3), .val (.int x2), .val (.int x5), .val (.int x8), .val (.ref a10), .val (.int 0)] (hb hby at_145) rfl rfl ?_
          refine P.iload X35 hx 149 (hb hby at_147) rfl rfl ?_
          refine P.iconst X35 hx 150 2 (hb hby at_149) rfl rfl ?_
          refine P.icmpNo X35 hx 153 (hb hby at_150) (by decide) rfl ?_
          refine P.iload X35 hx 155 (hb hby at_153) rfl rfl ?_
          refine X35.callS hx (w81 cx) (w82 cx) (w2 cx) (w83 cx) (by decide) (Ct.pay (W := 0) (ct_bad1 cx x5 h31 _ _ hb1) (w83 cx) (w2 cx) (nle rfl) (nle rfl)) (by rw [hml]; rfl) (argsL := [.int x5]) (rest := []) (lenOf pd21 rfl) rfl rfl (Nat.le_of_eq rfl) (hb hby at_155) (nle rfl) (nle rfl) ?_
          rintro T36 h36 _ _ _ X36 ⟨rfl, rfl, rfl, J36⟩
          rw [J36] at X36
          refine P.ifNo X36 hx 161 (hb hby at_158) (by decide) rfl ?_
          refine P.iconst X36 hx 162 0 (hb hby at_161) rfl rfl ?_
          refine P.istore X36 hx 164 #[.val (.int p0), .val (.int p1), .val (.int p2), .val (.int p3), .val (.int 3), .val (.int x2), .val (.int x5), .val (.int x8), .val (.ref a10), .val (.int 0)] (hb hby at_162) rfl rfl ?_
          refine P.iload X36 hx 166 (hb hby at_164) rfl rfl ?_
          refine P.iconst X36 hx 167 3 (hb hby at_166) rfl rfl ?_
          refine P.icmpNo X36 hx 170 (hb hby at_167) (by decide) rfl ?_
          refine P.iload X36 hx 172 (hb hby at_170) rfl rfl ?_
          refine X36.callS hx (w81 cx) (w82 cx) (w2 cx) (w83 cx) (by decide) (Ct.pay (W := 0) (ct_bad0 cx x8 h31 _ _ hb2) (w83 cx) (w2 cx) (nle rfl) (nle rfl)) (by rw [hml]; rfl) (argsL := [.int x8]) (rest := []) (lenOf pd21 rfl) rfl rfl (Nat.le_of_eq rfl) (hb hby at_172) (nle rfl) (nle rfl) ?_
          rintro T37 h37 _ _ _ X37 ⟨rfl, rfl, rfl, J37⟩
          rw [J37] at X37
          refine P.ifYes X37 hx 181 (hb hby at_175) (by decide) (by decide) (by decide) ?_
          refine P.aload X37 hx 183 (hb hby at_181) rfl rfl rfl ?_
          refine X37.callS hx (w27 cx) (w28 cx) (w29 cx) (w30 cx) (by decide) (Ct.pay (W := 0) (ct_pr003 cx a10 a32 x2 x5 x8 h31 _ _ G33 (Or.inl hb0)) (w30 cx) (w29 cx) (nle rfl) (nle rfl)) (by rw [hml]; rfl) (argsL := [.ref a10]) (rest := []) (lenOf pd20 rfl) rfl rfl (Nat.le_of_eq rfl) (hb hby at_183) (nle rfl) (nle rfl) ?_
          rintro T38 h38 _ _ _ X38 ⟨rfl, rfl, rfl, J38⟩
          rw [J38] at X38
          refine P.iload X38 hx 188 (hb hby at_186) rfl rfl ?_
          refine P.icmpNo X38 hx 191 (hb hby at_188) (by decide) rfl ?_
          refine P.iconst X38 hx 192 1 (hb hby at_191) rfl rfl ?_
          refine P.goto X38 hx 196 (hb hby at_192) (by decide) (by decide) ?_
          have X39 := WS.drop (A := []) (B := (a10 :: WL)) X38
          have X40 := WS.drop (A := []) (B := WL) X39
          have X41 := WS.fl (FL2 := FL) X40 (fun y hy => (List.mem_append_right [a10, a15, a32] hy))
          exact WS.retN X41 (WL' := []) (FL' := []) hx (t := .boolean) hret (by simp) hlk (hb hby at_196) (nle rfl) (nle rfl) ⟨rfl, rfl, rfl, K34⟩
      · skip
        by_cases hb2 : (x8 = (9 : Int32) ∨ x8 = (10 : Int32) ∨ x8 = (13 : Int32))
        · skip
          refine P.iload X31 hx 132 (hb hby at_130) rfl rfl ?_
          refine P.iconst X31 hx 133 1 (hb hby at_132) rfl rfl ?_
          refine P.icmpNo X31 hx 136 (hb hby at_133) (by decide) rfl ?_
          refine P.iload X31 hx 138 (hb hby at_136) rfl rfl ?_
          refine X31.callS hx (w81 cx) (w82 cx) (w2 cx) (w83 cx) (by decide) (Ct.pay (W := 0) (ct_bad1 cx x2 h31 _ _ hb0) (w83 cx) (w2 cx) (nle rfl) (nle rfl)) (by rw [hml]; rfl) (argsL := [.int x2]) (rest := []) (lenOf pd21 rfl) rfl rfl (Nat.le_of_eq rfl) (hb hby at_138) (nle rfl) (nle rfl) ?_
          rintro T35 h35 _ _ _ X35 ⟨rfl, rfl, rfl, J35⟩
          rw [J35] at X35
          refine P.ifNo X35 hx 144 (hb hby at_141) (by decide) rfl ?_
          refine P.iconst X35 hx 145 0 (hb hby at_144) rfl rfl ?_
          refine P.istore X35 hx 147 #[.val (.int p0), .val (.int p1), .val (.int p2), .val (.int p3), .val (.int 3), .val (.int x2), .val (.int x5), .val (.int x8), .val (.ref a10), .val (.int 0)] (hb hby at_145) rfl rfl ?_
          refine P.iload X35 hx 149 (hb hby at_147) rfl rfl ?_
          refine P.iconst X35 hx 150 2 (hb hby at_149) rfl rfl ?_
          refine P.icmpNo X35 hx 153 (hb hby at_150) (by decide) rfl ?_
          refine P.iload X35 hx 155 (hb hby at_153) rfl rfl ?_
          refine X35.callS hx (w81 cx) (w82 cx) (w2 cx) (w83 cx) (by decide) (Ct.pay (W := 0) (ct_bad0 cx x5 h31 _ _ hb1) (w83 cx) (w2 cx) (nle rfl) (nle rfl)) (by rw [hml]; rfl) (argsL := [.int x5]) (rest := []) (lenOf pd21 rfl) rfl rfl (Nat.le_of_eq rfl) (hb hby at_155) (nle rfl) (nle rfl) ?_
          rintro T36 h36 _ _ _ X36 ⟨rfl, rfl, rfl, J36⟩
          rw [J36] at X36
          refine P.ifYes X36 hx 164 (hb hby at_158) (by decide) (by decide) (by decide) ?_
          refine P.iload X36 hx 166 (hb hby at_164) rfl rfl ?_
          refine P.iconst X36 hx 167 3 (hb hby at_166) rfl rfl ?_
          refine P.icmpNo X36 hx 170 (hb hby at_167) (by decide) rfl ?_
          refine P.iload X36 hx 172 (hb hby at_170) rfl rfl ?_
          refine X36.callS hx (w81 cx) (w82 cx) (w2 cx) (w83 cx) (by decide) (Ct.pay (W := 0) (ct_bad1 cx x8 h31 _ _ hb2) (w83 cx) (w2 cx) (nle rfl) (nle rfl)) (by rw [hml]; rfl) (argsL := [.int x8]) (rest := []) (lenOf pd21 rfl) rfl rfl (Nat.le_of_eq rfl) (hb hby at_172) (nle rfl) (nle rfl) ?_
          rintro T37 h37 _ _ _ X37 ⟨rfl, rfl, rfl, J37⟩
          rw [J37] at X37
          refine P.ifNo X37 hx 178 (hb hby at_175) (by decide) rfl ?_
          refine P.iconst X37 hx 179 0 (hb hby at_178) rfl rfl ?_
          refine P.istore X37 hx 181 #[.val (.int p0), .val (.int p1), .val (.int p2), .val (.int p3), .val (.int 3), .val (.int x2), .val (.int x5), .val (.int x8), .val (.ref a10), .val (.int 0)] (hb hby at_179) rfl rfl ?_
          refine P.aload X37 hx 183 (hb hby at_181) rfl rfl rfl ?_
          refine X37.callS hx (w27 cx) (w28 cx) (w29 cx) (w30 cx) (by decide) (Ct.pay (W := 0) (ct_pr003 cx a10 a32 x2 x5 x8 h31 _ _ G33 (Or.inl hb0)) (w30 cx) (w29 cx) (nle rfl) (nle rfl)) (by rw [hml]; rfl) (argsL := [.ref a10]) (rest := []) (lenOf pd20 rfl) rfl rfl (Nat.le_of_eq rfl) (hb hby at_183) (nle rfl) (nle rfl) ?_
          rintro T38 h38 _ _ _ X38 ⟨rfl, rfl, rfl, J38⟩
          rw [J38] at X38
          refine P.iload X38 hx 188 (hb hby at_186) rfl rfl ?_
          refine P.icmpNo X38 hx 191 (hb hby at_188) (by decide) rfl ?_
          refine P.iconst X38 hx 192 1 (hb hby at_191) rfl rfl ?_
          refine P.goto X38 hx 196 (hb hby at_192) (by decide) (by decide) ?_
          have X39 := WS.drop (A := []) (B := (a10 :: WL)) X38
          have X40 := WS.drop (A := []) (B := WL) X39
          have X41 := WS.fl (FL2 := FL) X40 (fun y hy => (List.mem_append_right [a10, a15, a32] hy))
          exact WS.retN X41 (WL' := []) (FL' := []) hx (t := .boolean) hret (by simp) hlk (hb hby at_196) (nle rfl) (nle rfl) ⟨rfl, rfl, rfl, K34⟩
        · skip
          refine P.iload X31 hx 132 (hb hby at_130) rfl rfl ?_
          refine P.iconst X31 hx 133 1 (hb hby at_132) rfl rfl ?_
          refine P.icmpNo X31 hx 136 (hb hby at_133) (by decide) rfl ?_
          refine P.iload X31 hx 138 (hb hby at_136) rfl rfl ?_
          refine X31.callS hx (w81 cx) (w82 cx) (w2 cx) (w83 cx) (by decide) (Ct.pay (W := 0) (ct_bad1 cx x2 h31 _ _ hb0) (w83 cx) (w2 cx) (nle rfl) (nle rfl)) (by rw [hml]; rfl) (argsL := [.int x2]) (rest := []) (lenOf pd21 rfl) rfl rfl (Nat.le_of_eq rfl) (hb hby at_138) (nle rfl) (nle rfl) ?_
          rintro T35 h35 _ _ _ X35 ⟨rfl, rfl, rfl, J35⟩
          rw [J35] at X35
          refine P.ifNo X35 hx 144 (hb hby at_141) (by decide) rfl ?_
          refine P.iconst X35 hx 145 0 (hb hby at_144) rfl rfl ?_
          refine P.istore X35 hx 147 #[.val (.int p0), .val (.int p1), .val (.int p2), .val (.int p3), .val (.int 3), .val (.int x2), .val (.int x5), .val (.int x8), .val (.ref a10), .val (.int 0)] (hb hby at_145) rfl rfl ?_
          refine P.iload X35 hx 149 (hb hby at_147) rfl rfl ?_
          refine P.iconst X35 hx 150 2 (hb hby at_149) rfl rfl ?_
          refine P.icmpNo X35 hx 153 (hb hby at_150) (by decide) rfl ?_
          refine P.iload X35 hx 155 (hb hby at_153) rfl rfl ?_
          refine X35.callS hx (w81 cx) (w82 cx) (w2 cx) (w83 cx) (by decide) (Ct.pay (W := 0) (ct_bad0 cx x5 h31 _ _ hb1) (w83 cx) (w2 cx) (nle rfl) (nle rfl)) (by rw [hml]; rfl) (argsL := [.int x5]) (rest := []) (lenOf pd21 rfl) rfl rfl (Nat.le_of_eq rfl) (hb hby at_155) (nle rfl) (nle rfl) ?_
          rintro T36 h36 _ _ _ X36 ⟨rfl, rfl, rfl, J36⟩
          rw [J36] at X36
          refine P.ifYes X36 hx 164 (hb hby at_158) (by decide) (by decide) (by decide) ?_
          refine P.iload X36 hx 166 (hb hby at_164) rfl rfl ?_
          refine P.iconst X36 hx 167 3 (hb hby at_166) rfl rfl ?_
          refine P.icmpNo X36 hx 170 (hb hby at_167) (by decide) rfl ?_
          refine P.iload X36 hx 172 (hb hby at_170) rfl rfl ?_
          refine X36.callS hx (w81 cx) (w82 cx) (w2 cx) (w83 cx) (by decide) (Ct.pay (W := 0) (ct_bad0 cx x8 h31 _ _ hb2) (w83 cx) (w2 cx) (nle rfl) (nle rfl)) (by rw [hml]; rfl) (argsL := [.int x8]) (rest := []) (lenOf pd21 rfl) rfl rfl (Nat.le_of_eq rfl) (hb hby at_172) (nle rfl) (nle rfl) ?_
          rintro T37 h37 _ _ _ X37 ⟨rfl, rfl, rfl, J37⟩
          rw [J37] at X37
          refine P.ifYes X37 hx 181 (hb hby at_175) (by decide) (by decide) (by decide) ?_
          refine P.aload X37 hx 183 (hb hby at_181) rfl rfl rfl ?_
          refine X37.callS hx (w27 cx) (w28 cx) (w29 cx) (w30 cx) (by decide) (Ct.pay (W := 0) (ct_pr003 cx a10 a32 x2 x5 x8 h31 _ _ G33 (Or.inl hb0)) (w30 cx) (w29 cx) (nle rfl) (nle rfl)) (by rw [hml]; rfl) (argsL := [.ref a10]) (rest := []) (lenOf pd20 rfl) rfl rfl (Nat.le_of_eq rfl) (hb hby at_183) (nle rfl) (nle rfl) ?_
          rintro T38 h38 _ _ _ X38 ⟨rfl, rfl, rfl, J38⟩
          rw [J38] at X38
          refine P.iload X38 hx 188 (hb hby at_186) rfl rfl ?_
          refine P.icmpNo X38 hx 191 (hb hby at_188) (by decide) rfl ?_
          refine P.iconst X38 hx 192 1 (hb hby at_191) rfl rfl ?_
          refine P.goto X38 hx 196 (hb hby at_192) (by decide) (by decide) ?_
          have X39 := WS.drop (A := []) (B := (a10 :: WL)) X38
          have X40 := WS.drop (A := []) (B := WL) X39
          have X41 := WS.fl (FL2 := FL) X40 (fun y hy => (List.mem_append_right [a10, a15, a32] hy))
          exact WS.retN X41 (WL' := []) (FL' := []) hx (t := .boolean) hret (by simp) hlk (hb hby at_196) (nle rfl) (nle rfl) ⟨rfl, rfl, rfl, K34⟩
    · skip
      by_cases hb1 : (x5 = (9 : Int32) ∨ x5 = (10 : Int32) ∨ x5 = (13 : Int32))
      · skip
        by_cases hb2 : (x8 = (9 : Int32) ∨ x8 = (10 : Int32) ∨ x8 = (13 : Int32))
        · skip
          refine P.iload X31 hx 132 (hb hby at_130) rfl rfl ?_
          refine P.iconst X31 hx 133 1 (hb hby at_132) rfl rfl ?_
          refine P.icmpNo X31 hx 136 (hb hby at_133) (by decide) rfl ?_
          refine P.iload X31 hx 138 (hb hby at_136) rfl rfl ?_
          refine X31.callS hx (w81 cx) (w82 cx) (w2 cx) (w83 cx) (by decide) (Ct.pay (W := 0) (ct_bad0 cx x2 h31 _ _ hb0) (w83 cx) (w2 cx) (nle rfl) (nle rfl)) (by rw [hml]; rfl) (argsL := [.int x2]) (rest := []) (lenOf pd21 rfl) rfl rfl (Nat.le_of_eq rfl) (hb hby at_138) (nle rfl) (nle rfl) ?_
          rintro T35 h35 _ _ _ X35 ⟨rfl, rfl, rfl, J35⟩
          rw [J35] at X35
          refine P.ifYes X35 hx 147 (hb hby at_141) (by decide) (by decide) (by decide) ?_
          refine P.iload X35 hx 149 (hb hby at_147) rfl rfl ?_
          refine P.iconst X35 hx 150 2 (hb hby at_149) rfl rfl ?_
          refine P.icmpNo X35 hx 153 (hb hby at_150) (by decide) rfl ?_
          refine P.iload X35 hx 155 (hb hby at_153) rfl rfl ?_
          refine X35.callS hx (w81 cx) (w82 cx) (w2 cx) (w83 cx) (by decide) (Ct.pay (W := 0) (ct_bad1 cx x5 h31 _ _ hb1) (w83 cx) (w2 cx) (nle rfl) (nle rfl)) (by rw [hml]; rfl) (argsL := [.int x5]) (rest := []) (lenOf pd21 rfl) rfl rfl (Nat.le_of_eq rfl) (hb hby at_155) (nle rfl) (nle rfl) ?_
          rintro T36 h36 _ _ _ X36 ⟨rfl, rfl, rfl, J36⟩
          rw [J36] at X36
          refine P.ifNo X36 hx 161 (hb hby at_158) (by decide) rfl ?_
          refine P.iconst X36 hx 162 0 (hb hby at_161) rfl rfl ?_
          refine P.istore X36 hx 164 #[.val (.int p0), .val (.int p1), .val (.int p2), .val (.int p3), .val (.int 3), .val (.int x2), .val (.int x5), .val (.int x8), .val (.ref a10), .val (.int 0)] (hb hby at_162) rfl rfl ?_
          refine P.iload X36 hx 166 (hb hby at_164) rfl rfl ?_
          refine P.iconst X36 hx 167 3 (hb hby at_166) rfl rfl ?_
          refine P.icmpNo X36 hx 170 (hb hby at_167) (by decide) rfl ?_
          refine P.iload X36 hx 172 (hb hby at_170) rfl rfl ?_
          refine X36.callS hx (w81 cx) (w82 cx) (w2 cx) (w83 cx) (by decide) (Ct.pay (W := 0) (ct_bad1 cx x8 h31 _ _ hb2) (w83 cx) (w2 cx) (nle rfl) (nle rfl)) (by rw [hml]; rfl) (argsL := [.int x8]) (rest := []) (lenOf pd21 rfl) rfl rfl (Nat.le_of_eq rfl) (hb hby at_172) (nle rfl) (nle rfl) ?_
          rintro T37 h37 _ _ _ X37 ⟨rfl, rfl, rfl, J37⟩
          rw [J37] at X37
          refine P.ifNo X37 hx 178 (hb hby at_175) (by decide) rfl ?_
          refine P.iconst X37 hx 179 0 (hb hby at_178) rfl rfl ?_
          refine P.istore X37 hx 181 #[.val (.int p0), .val (.int p1), .val (.int p2), .val (.int p3), .val (.int 3), .val (.int x2), .val (.int x5), .val (.int x8), .val (.ref a10), .val (.int 0)] (hb hby at_179) rfl rfl ?_
          refine P.aload X37 hx 183 (hb hby at_181) rfl rfl rfl ?_
          refine X37.callS hx (w27 cx) (w28 cx) (w29 cx) (w30 cx) (by decide) (Ct.pay (W := 0) (ct_pr003 cx a10 a32 x2 x5 x8 h31 _ _ G33 (Or.inr (Or.inl hb1))) (w30 cx) (w29 cx) (nle rfl) (nle rfl)) (by rw [hml]; rfl) (argsL := [.ref a10]) (rest := []) (lenOf pd20 rfl) rfl rfl (Nat.le_of_eq rfl) (hb hby at_183) (nle rfl) (nle rfl) ?_
          rintro T38 h38 _ _ _ X38 ⟨rfl, rfl, rfl, J38⟩
          rw [J38] at X38
          refine P.iload X38 hx 188 (hb hby at_186) rfl rfl ?_
          refine P.icmpNo X38 hx 191 (hb hby at_188) (by decide) rfl ?_
          refine P.iconst X38 hx 192 1 (hb hby at_191) rfl rfl ?_
          refine P.goto X38 hx 196 (hb hby at_192) (by decide) (by decide) ?_
          have X39 := WS.drop (A := []) (B := (a10 :: WL)) X38
          have X40 := WS.drop (A := []) (B := WL) X39
          have X41 := WS.fl (FL2 := FL) X40 (fun y hy => (List.mem_append_right [a10, a15, a32] hy))
          exact WS.retN X41 (WL' := []) (FL' := []) hx (t := .boolean) hret (by simp) hlk (hb hby at_196) (nle rfl) (nle rfl) ⟨rfl, rfl, rfl, K34⟩
        · skip
          refine P.iload X31 hx 132 (hb hby at_130) rfl rfl ?_
          refine P.iconst X31 hx 133 1 (hb hby at_132) rfl rfl ?_
          refine P.icmpNo X31 hx 136 (hb hby at_133) (by decide) rfl ?_
          refine P.iload X31 hx 138 (hb hby at_136) rfl rfl ?_
          refine X31.callS hx (w81 cx) (w82 cx) (w2 cx) (w83 cx) (by decide) (Ct.pay (W := 0) (ct_bad0 cx x2 h31 _ _ hb0) (w83 cx) (w2 cx) (nle rfl) (nle rfl)) (by rw [hml]; rfl) (argsL := [.int x2]) (rest := []) (lenOf pd21 rfl) rfl rfl (Nat.le_of_eq rfl) (hb hby at_138) (nle rfl) (nle rfl) ?_
          rintro T35 h35 _ _ _ X35 ⟨rfl, rfl, rfl, J35⟩
          rw [J35] at X35
          refine P.ifYes X35 hx 147 (hb hby at_141) (by decide) (by decide) (by decide) ?_
          refine P.iload X35 hx 149 (hb hby at_147) rfl rfl ?_
          refine P.iconst X35 hx 150 2 (hb hby at_149) rfl rfl ?_
          refine P.icmpNo X35 hx 153 (hb hby at_150) (by decide) rfl ?_
          refine P.iload X35 hx 155 (hb hby at_153) rfl rfl ?_
          refine X35.callS hx (w81 cx) (w82 cx) (w2 cx) (w83 cx) (by decide) (Ct.pay (W := 0) (ct_bad1 cx x5 h31 _ _ hb1) (w83 cx) (w2 cx) (nle rfl) (nle rfl)) (by rw [hml]; rfl) (argsL := [.int x5]) (rest := []) (lenOf pd21 rfl) rfl rfl (Nat.le_of_eq rfl) (hb hby at_155) (nle rfl) (nle rfl) ?_
          rintro T36 h36 _ _ _ X36 ⟨rfl, rfl, rfl, J36⟩
          rw [J36] at X36
          refine P.ifNo X36 hx 161 (hb hby at_158) (by decide) rfl ?_
          refine P.iconst X36 hx 162 0 (hb hby at_161) rfl rfl ?_
          refine P.istore X36 hx 164 #[.val (.int p0), .val (.int p1), .val (.int p2), .val (.int p3), .val (.int 3), .val (.int x2), .val (.int x5), .val (.int x8), .val (.ref a10), .val (.int 0)] (hb hby at_162) rfl rfl ?_
          refine P.iload X36 hx 166 (hb hby at_164) rfl rfl ?_
          refine P.iconst X36 hx 167 3 (hb hby at_166) rfl rfl ?_
          refine P.icmpNo X36 hx 170 (hb hby at_167) (by decide) rfl ?_
          refine P.iload X36 hx 172 (hb hby at_170) rfl rfl ?_
          refine X36.callS hx (w81 cx) (w82 cx) (w2 cx) (w83 cx) (by decide) (Ct.pay (W := 0) (ct_bad0 cx x8 h31 _ _ hb2) (w83 cx) (w2 cx) (nle rfl) (nle rfl)) (by rw [hml]; rfl) (argsL := [.int x8]) (rest := []) (lenOf pd21 rfl) rfl rfl (Nat.le_of_eq rfl) (hb hby at_172) (nle rfl) (nle rfl) ?_
          rintro T37 h37 _ _ _ X37 ⟨rfl, rfl, rfl, J37⟩
          rw [J37] at X37
          refine P.ifYes X37 hx 181 (hb hby at_175) (by decide) (by decide) (by decide) ?_
          refine P.aload X37 hx 183 (hb hby at_181) rfl rfl rfl ?_
          refine X37.callS hx (w27 cx) (w28 cx) (w29 cx) (w30 cx) (by decide) (Ct.pay (W := 0) (ct_pr003 cx a10 a32 x2 x5 x8 h31 _ _ G33 (Or.inr (Or.inl hb1))) (w30 cx) (w29 cx) (nle rfl) (nle rfl)) (by rw [hml]; rfl) (argsL := [.ref a10]) (rest := []) (lenOf pd20 rfl) rfl rfl (Nat.le_of_eq rfl) (hb hby at_183) (nle rfl) (nle rfl) ?_
          rintro T38 h38 _ _ _ X38 ⟨rfl, rfl, rfl, J38⟩
          rw [J38] at X38
          refine P.iload X38 hx 188 (hb hby at_186) rfl rfl ?_
          refine P.icmpNo X38 hx 191 (hb hby at_188) (by decide) rfl ?_
          refine P.iconst X38 hx 192 1 (hb hby at_191) rfl rfl ?_
          refine P.goto X38 hx 196 (hb hby at_192) (by decide) (by decide) ?_
          have X39 := WS.drop (A := []) (B := (a10 :: WL)) X38
          have X40 := WS.drop (A := []) (B := WL) X39
          have X41 := WS.fl (FL2 := FL) X40 (fun y hy => (List.mem_append_right [a10, a15, a32] hy))
          exact WS.retN X41 (WL' := []) (FL' := []) hx (t := .boolean) hret (by simp) hlk (hb hby at_196) (nle rfl) (nle rfl) ⟨rfl, rfl, rfl, K34⟩
      · skip
        by_cases hb2 : (x8 = (9 : Int32) ∨ x8 = (10 : Int32) ∨ x8 = (13 : Int32))
        · skip
          refine P.iload X31 hx 132 (hb hby at_130) rfl rfl ?_
          refine P.iconst X31 hx 133 1 (hb hby at_132) rfl rfl ?_
          refine P.icmpNo X31 hx 136 (hb hby at_133) (by decide) rfl ?_
          refine P.iload X31 hx 138 (hb hby at_136) rfl rfl ?_
          refine X31.callS hx (w81 cx) (w82 cx) (w2 cx) (w83 cx) (by decide) (Ct.pay (W := 0) (ct_bad0 cx x2 h31 _ _ hb0) (w83 cx) (w2 cx) (nle rfl) (nle rfl)) (by rw [hml]; rfl) (argsL := [.int x2]) (rest := []) (lenOf pd21 rfl) rfl rfl (Nat.le_of_eq rfl) (hb hby at_138) (nle rfl) (nle rfl) ?_
          rintro T35 h35 _ _ _ X35 ⟨rfl, rfl, rfl, J35⟩
          rw [J35] at X35
          refine P.ifYes X35 hx 147 (hb hby at_141) (by decide) (by decide) (by decide) ?_
          refine P.iload X35 hx 149 (hb hby at_147) rfl rfl ?_
          refine P.iconst X35 hx 150 2 (hb hby at_149) rfl rfl ?_
          refine P.icmpNo X35 hx 153 (hb hby at_150) (by decide) rfl ?_
          refine P.iload X35 hx 155 (hb hby at_153) rfl rfl ?_
          refine X35.callS hx (w81 cx) (w82 cx) (w2 cx) (w83 cx) (by decide) (Ct.pay (W := 0) (ct_bad0 cx x5 h31 _ _ hb1) (w83 cx) (w2 cx) (nle rfl) (nle rfl)) (by rw [hml]; rfl) (argsL := [.int x5]) (rest := []) (lenOf pd21 rfl) rfl rfl (Nat.le_of_eq rfl) (hb hby at_155) (nle rfl) (nle rfl) ?_
          rintro T36 h36 _ _ _ X36 ⟨rfl, rfl, rfl, J36⟩
          rw [J36] at X36
          refine P.ifYes X36 hx 164 (hb hby at_158) (by decide) (by decide) (by decide) ?_
          refine P.iload X36 hx 166 (hb hby at_164) rfl rfl ?_
          refine P.iconst X36 hx 167 3 (hb hby at_166) rfl rfl ?_
          refine P.icmpNo X36 hx 170 (hb hby at_167) (by decide) rfl ?_
          refine P.iload X36 hx 172 (hb hby at_170) rfl rfl ?_
          refine X36.callS hx (w81 cx) (w82 cx) (w2 cx) (w83 cx) (by decide) (Ct.pay (W := 0) (ct_bad1 cx x8 h31 _ _ hb2) (w83 cx) (w2 cx) (nle rfl) (nle rfl)) (by rw [hml]; rfl) (argsL := [.int x8]) (rest := []) (lenOf pd21 rfl) rfl rfl (Nat.le_of_eq rfl) (hb hby at_172) (nle rfl) (nle rfl) ?_
          rintro T37 h37 _ _ _ X37 ⟨rfl, rfl, rfl, J37⟩
          rw [J37] at X37
          refine P.ifNo X37 hx 178 (hb hby at_175) (by decide) rfl ?_
          refine P.iconst X37 hx 179 0 (hb hby at_178) rfl rfl ?_
          refine P.istore X37 hx 181 #[.val (.int p0), .val (.int p1), .val (.int p2), .val (.int p3), .val (.int 3), .val (.int x2), .val (.int x5), .val (.int x8), .val (.ref a10), .val (.int 0)] (hb hby at_179) rfl rfl ?_
          refine P.aload X37 hx 183 (hb hby at_181) rfl rfl rfl ?_
          refine X37.callS hx (w27 cx) (w28 cx) (w29 cx) (w30 cx) (by decide) (Ct.pay (W := 0) (ct_pr003 cx a10 a32 x2 x5 x8 h31 _ _ G33 (Or.inr (Or.inr hb2))) (w30 cx) (w29 cx) (nle rfl) (nle rfl)) (by rw [hml]; rfl) (argsL := [.ref a10]) (rest := []) (lenOf pd20 rfl) rfl rfl (Nat.le_of_eq rfl) (hb hby at_183) (nle rfl) (nle rfl) ?_
          rintro T38 h38 _ _ _ X38 ⟨rfl, rfl, rfl, J38⟩
          rw [J38] at X38
          refine P.iload X38 hx 188 (hb hby at_186) rfl rfl ?_
          refine P.icmpNo X38 hx 191 (hb hby at_188) (by decide) rfl ?_
          refine P.iconst X38 hx 192 1 (hb hby at_191) rfl rfl ?_
          refine P.goto X38 hx 196 (hb hby at_192) (by decide) (by decide) ?_
          have X39 := WS.drop (A := []) (B := (a10 :: WL)) X38
          have X40 := WS.drop (A := []) (B := WL) X39
          have X41 := WS.fl (FL2 := FL) X40 (fun y hy => (List.mem_append_right [a10, a15, a32] hy))
          exact WS.retN X41 (WL' := []) (FL' := []) hx (t := .boolean) hret (by simp) hlk (hb hby at_196) (nle rfl) (nle rfl) ⟨rfl, rfl, rfl, K34⟩
        · skip
          refine P.iload X31 hx 132 (hb hby at_130) rfl rfl ?_
          refine P.iconst X31 hx 133 1 (hb hby at_132) rfl rfl ?_
          refine P.icmpNo X31 hx 136 (hb hby at_133) (by decide) rfl ?_
          refine P.iload X31 hx 138 (hb hby at_136) rfl rfl ?_
          refine X31.callS hx (w81 cx) (w82 cx) (w2 cx) (w83 cx) (by decide) (Ct.pay (W := 0) (ct_bad0 cx x2 h31 _ _ hb0) (w83 cx) (w2 cx) (nle rfl) (nle rfl)) (by rw [hml]; rfl) (argsL := [.int x2]) (rest := []) (lenOf pd21 rfl) rfl rfl (Nat.le_of_eq rfl) (hb hby at_138) (nle rfl) (nle rfl) ?_
          rintro T35 h35 _ _ _ X35 ⟨rfl, rfl, rfl, J35⟩
          rw [J35] at X35
          refine P.ifYes X35 hx 147 (hb hby at_141) (by decide) (by decide) (by decide) ?_
          refine P.iload X35 hx 149 (hb hby at_147) rfl rfl ?_
          refine P.iconst X35 hx 150 2 (hb hby at_149) rfl rfl ?_
          refine P.icmpNo X35 hx 153 (hb hby at_150) (by decide) rfl ?_
          refine P.iload X35 hx 155 (hb hby at_153) rfl rfl ?_
          refine X35.callS hx (w81 cx) (w82 cx) (w2 cx) (w83 cx) (by decide) (Ct.pay (W := 0) (ct_bad0 cx x5 h31 _ _ hb1) (w83 cx) (w2 cx) (nle rfl) (nle rfl)) (by rw [hml]; rfl) (argsL := [.int x5]) (rest := []) (lenOf pd21 rfl) rfl rfl (Nat.le_of_eq rfl) (hb hby at_155) (nle rfl) (nle rfl) ?_
          rintro T36 h36 _ _ _ X36 ⟨rfl, rfl, rfl, J36⟩
          rw [J36] at X36
          refine P.ifYes X36 hx 164 (hb hby at_158) (by decide) (by decide) (by decide) ?_
          refine P.iload X36 hx 166 (hb hby at_164) rfl rfl ?_
          refine P.iconst X36 hx 167 3 (hb hby at_166) rfl rfl ?_
          refine P.icmpNo X36 hx 170 (hb hby at_167) (by decide) rfl ?_
          refine P.iload X36 hx 172 (hb hby at_170) rfl rfl ?_
          refine X36.callS hx (w81 cx) (w82 cx) (w2 cx) (w83 cx) (by decide) (Ct.pay (W := 0) (ct_bad0 cx x8 h31 _ _ hb2) (w83 cx) (w2 cx) (nle rfl) (nle rfl)) (by rw [hml]; rfl) (argsL := [.int x8]) (rest := []) (lenOf pd21 rfl) rfl rfl (Nat.le_of_eq rfl) (hb hby at_172) (nle rfl) (nle rfl) ?_
          rintro T37 h37 _ _ _ X37 ⟨rfl, rfl, rfl, J37⟩
          rw [J37] at X37
          refine P.ifYes X37 hx 181 (hb hby at_175) (by decide) (by decide) (by decide) ?_
          refine P.aload X37 hx 183 (hb hby at_181) rfl rfl rfl ?_
          refine X37.callS hx (w27 cx) (w28 cx) (w29 cx) (w30 cx) (by decide) (Ct.pay (W := 0) (ct_pr103 cx a10 a32 x2 x5 x8 h31 _ _ G33 hb0 hb1 hb2) (w30 cx) (w29 cx) (nle rfl) (nle rfl)) (by rw [hml]; rfl) (argsL := [.ref a10]) (rest := []) (lenOf pd20 rfl) rfl rfl (Nat.le_of_eq rfl) (hb hby at_183) (nle rfl) (nle rfl) ?_
          rintro T38 h38 _ _ _ X38 ⟨rfl, rfl, rfl, J38⟩
          rw [J38] at X38
          refine P.iload X38 hx 188 (hb hby at_186) rfl rfl ?_
          refine P.icmpNo X38 hx 191 (hb hby at_188) (by decide) rfl ?_
          refine P.iconst X38 hx 192 1 (hb hby at_191) rfl rfl ?_
          refine P.goto X38 hx 196 (hb hby at_192) (by decide) (by decide) ?_
          have X39 := WS.drop (A := []) (B := (a10 :: WL)) X38
          have X40 := WS.drop (A := []) (B := WL) X39
          have X41 := WS.fl (FL2 := FL) X40 (fun y hy => (List.mem_append_right [a10, a15, a32] hy))
          exact WS.retN X41 (WL' := []) (FL' := []) hx (t := .boolean) hret (by simp) hlk (hb hby at_196) (nle rfl) (nle rfl) ⟨rfl, rfl, rfl, K34⟩
theorem ct_law {l : Launch} {Z : State} {a0 : Array Value} {gC : Int32} {gF : Value} (cx : Cx a0 Z gC gF) {n0 : Nat} (p0 : Int32) (p1 : Int32) (p2 : Int32) (p3 : Int32) (h : Heap) (WL FL : List Addr)  :
    Ct l Z EL1 n0 x code maxLocals ret room_1 #[(.int p0), (.int p1), (.int p2), (.int p3)] h WL FL (Q_law Z gC gF p0 p1 p2 p3 h) := by
  rcases and3 p0 with en | en | en | en
  · exact ct_law_0 cx p0 p1 p2 p3 h WL FL en
  · exact ct_law_1 cx p0 p1 p2 p3 h WL FL en
  · exact ct_law_2 cx p0 p1 p2 p3 h WL FL en
  · exact ct_law_3 cx p0 p1 p2 p3 h WL FL en
end Cts

set_option maxRecDepth 65536 in
set_option maxHeartbeats 4000000 in
theorem comes_1 {Post : Tables → Env → Array Value → State → Outcome → State → Prop} (hpost : ∀ tb e args s v u, (limb_1_1.after args s (.returned v) u = true ∧ limb_1_2.after args s (.returned v) u = true ∧ True) → Jvm.Pilot.@@N@@.Jvm.D.FramedW s (.returned v) u (Jvm.fieldLocs frame_1_writes args s ++ Jvm.arrayLocs frame_1_arrays args s ++ Jvm.staticLocs frame_1_statics s) 24 1152 → Post tb e args s (.returned v) u) :
    ArmFor flags0 classFile x code maxLocals ret World_1 tables_1 room_1 Calls_1 rest_1 Pre_1 Post := by
  intro l hfl _ _ p e ha hc hk s m args below hf hA hF happ hP
  obtain ⟨hcalls, hrest, hpre⟩ := hP
  obtain ⟨-, -, -, hnamed, -, -, -, hat⟩ := (Spec.applies_iff hf).mp happ
  obtain ⟨hg, hn⟩ := and_e (Cond.before_iff.mp (show (Jvm.Cond.and given_1 narrow_1).before args s = true from hpre))
  obtain ⟨h1, g0⟩ := and_e hg
  obtain ⟨b0, g1⟩ := and_e g0
  obtain ⟨b1, g2⟩ := and_e g1
  obtain ⟨b2, g3⟩ := and_e g2
  obtain ⟨z0, z1, z2, z3, rfl⟩ : ∃ z0 z1 z2 z3 : Value, args = #[z0, z1, z2, z3] := by
    have hs : args.size = 4 := by simpa [Cond.value, given_1] using h1
    obtain ⟨L⟩ := args
    match L, hs with
    | [z0, z1, z2, z3], _ => exact ⟨z0, z1, z2, z3, rfl⟩
  have hw := fun d (hd : d ∈ tables_1) => atoms_spec (ws := Jvm.Cond.code x code maxLocals ret :: tables_1) hat d (List.mem_cons_of_mem _ hd)
  obtain ⟨hsets, hown0⟩ := atoms_of _ (rest_1_c_eq ▸ (show rest_1_c.before _ s = true from hrest))
  have hfit : Fit s := fun {y c} hc i hi => by
    obtain ⟨ha, rfl⟩ := Array.getElem?_eq_some_iff.mp hc
    have q := List.all_eq_true.mp ((Array.all_eq_true_iff_forall_mem.mp hF) _ (Array.getElem_mem ha)) i (List.mem_range.mpr hi)
    simpa [Array.getElem?_eq_getElem hi] using q
  obtain ⟨i_0, e_0⟩ := is_v b0
  obtain rfl : z0 = (.int i_0) := Option.some.inj e_0
  obtain ⟨i_1, e_1⟩ := is_v b1
  obtain rfl : z1 = (.int i_1) := Option.some.inj e_1
  obtain ⟨i_2, e_2⟩ := is_v b2
  obtain rfl : z2 = (.int i_2) := Option.some.inj e_2
  obtain ⟨i_3, e_3⟩ := is_v g3
  obtain rfl : z3 = (.int i_3) := Option.some.inj e_3
  obtain ⟨i7, e7⟩ := is_v (Cond.before_iff.mp (hsets _ (List.mem_of_getElem? (i := 1) rfl)))
  have S7 : Sta s s.heap "java/lang/String" "COMPACT_STRINGS" "Z" (.int i7) := Sta.start e7 (Or.inl (hsets _ (List.mem_of_getElem? (i := 0) rfl)))
  have n7 := not_v (Cond.before_iff.mp (hsets _ (List.mem_of_getElem? (i := 2) rfl)))
  have c7 : ¬ (i7 = (0 : Int32)) := gotF (Cond.eq_ints e7 (Term.int_eval (0))) n7
  obtain ⟨i8, e8, r8⟩ := isR_v (Cond.before_iff.mp (hsets _ (List.mem_of_getElem? (i := 8) rfl)))
  have S8 : Sta s s.heap "jdk/internal/util/Preconditions" "SIOOBE_FORMATTER" "Ljava/util/function/BiFunction;" i8 := Sta.start e8 (Or.inl (hsets _ (List.mem_of_getElem? (i := 7) rfl)))
  have S_AD : Sta s s.heap "java/lang/StringUTF16" "$assertionsDisabled" "Z" (.int 1) := Sta.start (eqv_i (Term.int_eval (1)) (Cond.before_iff.mp (hsets _ (List.mem_of_getElem? (i := 12) rfl)))) (Or.inl (hsets _ (List.mem_of_getElem? (i := 11) rfl)))
  have S_HI : Sta s s.heap "java/lang/StringUTF16" "HI_BYTE_SHIFT" "I" (.int 0) := Sta.start (eqv_i (Term.int_eval (0)) (Cond.before_iff.mp (hsets _ (List.mem_of_getElem? (i := 15) rfl)))) (Or.inl (hsets _ (List.mem_of_getElem? (i := 14) rfl)))
  have S_LO : Sta s s.heap "java/lang/StringUTF16" "LO_BYTE_SHIFT" "I" (.int 8) := Sta.start (eqv_i (Term.int_eval (8)) (Cond.before_iff.mp (hsets _ (List.mem_of_getElem? (i := 18) rfl)))) (Or.inl (hsets _ (List.mem_of_getElem? (i := 17) rfl)))
  have cx : Cx #[(.int i_0), (.int i_1), (.int i_2), (.int i_3)] s i7 i8 := ⟨hw, S7, c7, S8, r8, S_AD, S_HI, S_LO⟩
  have ew : EW s #[(.int i_0), (.int i_1), (.int i_2), (.int i_3)] EL1 := (EW.cons (w19 cx) (by decide) EW.nil)
  have inv0 : Inv s EL1 s.heap.size s.vm s.heap [] [] := ⟨⟨_, ew⟩, CHv.start ew (fun p hp => hcalls.1 p hp) (hsets _ (List.mem_of_getElem? (i := 2) rfl)) (strAtoms cx _ (by simp [Bundle.stringAtoms])) (strAtoms cx _ (by simp [Bundle.stringAtoms, Bundle.sN])), Old.start s, fun _ q => (nomatch q), List.nodup_nil, fun _ q => (nomatch q)⟩
  obtain ⟨n, o, h1, h2, h3, _, L, WL', FL', rfl, I', N, ⟨rfl, -⟩, hq⟩ := ct_law (l := l) (Z := s) cx (n0 := s.heap.size) i_0 i_1 i_2 i_3 s.heap [] [] tables_1 p e ha hc hk s m _ below hf ((Spec.applies_iff_loose hf).mp happ).1 ⟨rfl, State.Warmed39.refl s, rfl, inv0⟩ trivial
  exact ⟨n, _, h1, h2, h3, hpost _ _ _ _ _ _ ⟨Cond.after_iff.mpr rfl, Cond.after_iff.mpr (eq_i res_at (Term.int_eval (1)) rfl), trivial⟩ ⟨hq.1, hq.2.1, hq.2.2.1, (hq.2.2.2.sift fun y hy => Or.inr (N y hy)).mono (by decide) (by decide)⟩⟩
theorem main_1_1 : Claimed_1_1 := comes_1 fun _ _ _ _ _ _ h hF => ⟨h.1, hF⟩
theorem main_1_2 : Claimed_1_2 := comes_1 fun _ _ _ _ _ _ h hF => ⟨h.2.1, hF⟩
end Jvm.Pilot.@@N@@
namespace Jvm.Pilot.@@N@@
open Jvm Jvm.ClassFile Sem Op Lib Jvm.Free Jvm.Stand Jvm.Pilot.@@N@@.Jvm.D
/-! MADE BY PROGRAM (witnessworld.py) out of the Statement's table words and the real class files: 22 classes; the members and pool entries that the words name. The judged class is class 1, her method 3. -/
namespace start1
open Jvm.ClassFile
def u (s : String) : CpInfo := .utf8 (stringToUtf16 s)
/-- a pool by its gaps: so many unusable entries, then the entry; so many at the end -/
def gap : Nat → List CpInfo → List CpInfo
  | 0, r => r
  | n + 1, r => .unusable :: gap n r
def poolList (es : List (Nat × CpInfo)) (last : Nat) : List CpInfo := es.foldr (fun e r => gap e.1 (e.2 :: r)) (gap last [])
def pool (es : List (Nat × CpInfo)) (last : Nat) : Array CpInfo := ⟨poolList es last⟩
def fileOf (pool : Array CpInfo) (this : Nat) (attrs : Array Attribute := #[]) (ms : Array MethodInfo := #[]) (fl : Nat := 33) (sup : Nat := 0) (ifs : Array Nat := #[]) (fds : Array FieldInfo := #[]) : ClassFile where
  minorVersion := 0
  majorVersion := 65
  constantPool := pool
  accessFlags := fl
  thisClass := this
  superClass := sup
  interfaces := ifs
  fields := fds
  methods := ms
  attributes := attrs
def plain (name : String) (sup : Option ClassId) : Class where
  name := name
  kind := .ordinary
  loader := none
  accessFlags := 33
  super := sup
  interfaces := #[]
  cf := none
  fields := #[]
  methods := #[]
  instanceTypes := #[]
  staticTypes := #[]
  resolved := #[]
  callSites := []
  init := .initialized
  statics := none
  mirror := none

def pool0 : Array CpInfo := pool [(5, u "<init>"), (0, u "()V"), (1, .class_ 10), (1, u "java/lang/Object")] 113

def k0c0 : Code := { maxStack := 0, maxLocals := 1, code := object_method_1_code, exceptionTable := #[], attributes := #[] }
def k0m0 : Method := { name := "<init>", desc := "()V", sig := { parameters := [], returnType := none }, accessFlags := 1, code := some k0c0 }
/-- java/lang/Object -/
def k0 : Class := { plain "java/lang/Object" none with
  accessFlags := 33
  interfaces := #[]
  cf := some (fileOf pool0 8 #[] #[{ accessFlags := 1, nameIndex := 5, descriptorIndex := 6, attributes := #[] }] 33 0 #[] #[])
  fields := #[]
  methods := #[k0m0]
  instanceTypes := #[]
  staticTypes := #[]
  resolved := Array.replicate 124 none
  statics := none }

def pool1 : Array CpInfo := pool [(2, .class_ 4), (1, u "java/lang/Object"), (0, u "<init>"), (0, u "()V"), (0, .integer 65535), (0, .methodref 9 10), (0, .class_ 11), (0, .nameAndType 12 13), (0, u "com/example/lynceus/lynceus/BagIsPrintablePinLaw"), (0, u "draw"), (0, u "(I)C"), (0, .class_ 15), (0, u "java/lang/String"), (0, .methodref 14 17), (0, .nameAndType 5 18), (0, u "([C)V"), (0, .methodref 9 20), (0, .nameAndType 21 22), (0, u "bad"), (0, u "(C)Z"), (0, .methodref 24 25), (0, .class_ 26), (0, .nameAndType 27 28), (0, u "com/example/lynceus/lynceus/Bag"), (0, u "isPrintable"), (0, u "(Ljava/lang/String;)Z"), (3, u "law"), (0, u "(IIII)Z")] 2

def k1m0 : Method := { name := "<init>", desc := "()V", sig := { parameters := [], returnType := none }, accessFlags := 1, code := none }
def k1c1 : Code := { maxStack := 2, maxLocals := 2, code := method_2_code, exceptionTable := #[], attributes := #[] }
def k1m1 : Method := { name := "draw", desc := "(I)C", sig := { parameters := [.int], returnType := some .char }, accessFlags := 10, code := some k1c1 }
def k1c2 : Code := { maxStack := 2, maxLocals := 1, code := method_3_code, exceptionTable := #[], attributes := #[] }
def k1m2 : Method := { name := "bad", desc := "(C)Z", sig := { parameters := [.char], returnType := some .boolean }, accessFlags := 10, code := some k1c2 }
def k1c3 : Code := { maxStack := 6, maxLocals := 10, code := code, exceptionTable := #[], attributes := #[] }
def k1m3 : Method := { name := "law", desc := "(IIII)Z", sig := { parameters := [.int, .int, .int, .int], returnType := some .boolean }, accessFlags := 9, code := some k1c3 }
/-- com/example/lynceus/lynceus/BagIsPrintablePinLaw -/
def k1 : Class := { plain "com/example/lynceus/lynceus/BagIsPrintablePinLaw" (some 0) with
  accessFlags := 49
  interfaces := #[]
  cf := some (fileOf pool1 9 #[] #[{ accessFlags := 1, nameIndex := 5, descriptorIndex := 6, attributes := #[] }, { accessFlags := 10, nameIndex := 12, descriptorIndex := 13, attributes := #[] }, { accessFlags := 10, nameIndex := 21, descriptorIndex := 22, attributes := #[] }, { accessFlags := 9, nameIndex := 32, descriptorIndex := 33, attributes := #[] }] 49 2 #[] #[])
  fields := #[]
  methods := #[k1m0, k1m1, k1m2, k1m3]
  instanceTypes := #[]
  staticTypes := #[]
  resolved := Array.replicate 36 none
  statics := none }

def pool2 : Array CpInfo := pool [(1, .class_ 2), (0, u "java/io/Serializable"), (0, .class_ 4), (0, u "java/lang/Object")] 2

/-- java/io/Serializable -/
def k2 : Class := { plain "java/io/Serializable" (some 0) with
  accessFlags := 1537
  interfaces := #[]
  cf := some (fileOf pool2 1 #[] #[] 1537 3 #[] #[])
  fields := #[]
  methods := #[]
  instanceTypes := #[]
  staticTypes := #[]
  resolved := Array.replicate 7 none
  statics := none }

def pool3 : Array CpInfo := pool [(1, .class_ 2), (0, u "java/lang/Comparable"), (0, .class_ 4), (0, u "java/lang/Object")] 7

/-- java/lang/Comparable -/
def k3 : Class := { plain "java/lang/Comparable" (some 0) with
  accessFlags := 1537
  interfaces := #[]
  cf := some (fileOf pool3 1 #[] #[] 1537 3 #[] #[])
  fields := #[]
  methods := #[]
  instanceTypes := #[]
  staticTypes := #[]
  resolved := Array.replicate 12 none
  statics := none }

def pool4 : Array CpInfo := pool [(2, .class_ 4), (1, u "java/lang/CharSequence"), (42, .class_ 48), (0, u "java/lang/CharSequence$1CodePointIterator"), (10, .class_ 60), (0, u "java/lang/CharSequence$1CharIterator"), (5, .class_ 67), (0, u "java/lang/Object")] 63

/-- java/lang/CharSequence -/
def k4 : Class := { plain "java/lang/CharSequence" (some 0) with
  accessFlags := 1537
  interfaces := #[]
  cf := some (fileOf pool4 2 #[.nestMembers #[47, 59]] #[] 1537 66 #[] #[])
  fields := #[]
  methods := #[]
  instanceTypes := #[]
  staticTypes := #[]
  resolved := Array.replicate 131 none
  statics := none }

def pool5 : Array CpInfo := pool [(1, .class_ 2), (0, u "java/lang/constant/Constable"), (0, .class_ 4), (0, u "java/lang/Object")] 6

/-- java/lang/constant/Constable -/
def k5 : Class := { plain "java/lang/constant/Constable" (some 0) with
  accessFlags := 1537
  interfaces := #[]
  cf := some (fileOf pool5 1 #[] #[] 1537 3 #[] #[])
  fields := #[]
  methods := #[]
  instanceTypes := #[]
  staticTypes := #[]
  resolved := Array.replicate 11 none
  statics := none }

def pool6 : Array CpInfo := pool [(1, .class_ 2), (0, u "java/lang/constant/ConstantDesc"), (0, .class_ 4), (0, u "java/lang/Object")] 32

/-- java/lang/constant/ConstantDesc -/
def k6 : Class := { plain "java/lang/constant/ConstantDesc" (some 0) with
  accessFlags := 1537
  interfaces := #[]
  cf := some (fileOf pool6 1 #[] #[] 1537 3 #[] #[])
  fields := #[]
  methods := #[]
  instanceTypes := #[]
  staticTypes := #[]
  resolved := Array.replicate 37 none
  statics := none }

def pool7 : Array CpInfo := pool [(1, .methodref 2 3), (0, .class_ 4), (0, .nameAndType 5 6), (0, u "java/lang/Object"), (0, u "<init>"), (0, u "()V"), (0, .string 8), (0, u ""), (0, .fieldref 10 11), (0, .class_ 12), (0, .nameAndType 13 14), (0, u "java/lang/String"), (0, u "value"), (0, u "[B"), (0, .fieldref 10 16), (0, .nameAndType 17 18), (0, u "coder"), (0, u "B"), (2, u "hash"), (0, u "I"), (2, u "hashIsZero"), (0, u "Z"), (0, .methodref 10 28), (0, .nameAndType 5 29), (0, u "([CIILjava/lang/Void;)V"), (8, .fieldref 10 39), (0, .nameAndType 40 26), (0, u "COMPACT_STRINGS"), (1, .class_ 44), (1, u "java/lang/StringUTF16"), (0, u "compress"), (1, .methodref 42 48), (0, .nameAndType 49 50), (0, u "coderFromArrayLen"), (0, u "([BI)B"), (56, .class_ 109), (1, u "java/lang/StringLatin1"), (32, u "()Z"), (34, .methodref 42 178), (0, .nameAndType 45 179), (0, u "([CII)[B"), (154, u "()I"), (0, .methodref 10 336), (0, .nameAndType 17 337), (0, u "()B"), (154, .methodref 10 493), (0, .nameAndType 494 142), (0, u "isLatin1"), (10, .methodref 10 506), (0, .nameAndType 507 334), (0, u "length"), (5, u "checkFromToIndex"), (9, u "checkBoundsBeginEnd"), (0, u "(III)V"), (50, .class_ 576), (0, u "java/lang/CharSequence"), (22, u "CASE_INSENSITIVE_ORDER"), (0, u "Ljava/util/Comparator;"), (32, .methodref 10 634), (0, .nameAndType 635 636), (0, u "indexOf"), (0, u "(II)I"), (0, .methodref 107 638), (0, .nameAndType 635 639), (0, u "([BIII)I"), (0, .methodref 42 638), (124, u "(I)I"), (244, u "([C)V"), (42, .fieldref 1054 1055), (0, .class_ 1056), (0, .nameAndType 1057 1058), (0, u "jdk/internal/util/Preconditions"), (0, u "SIOOBE_FORMATTER"), (0, u "Ljava/util/function/BiFunction;"), (3, .methodref 1054 1063), (0, .nameAndType 513 1064), (0, u "(IIILjava/util/function/BiFunction;)I"), (36, u "serialPersistentFields"), (0, u "[Ljava/io/ObjectStreamField;"), (0, .class_ 1104), (0, u "java/lang/String$CaseInsensitiveComparator"), (1, .class_ 1107), (0, u "java/io/Serializable"), (0, .class_ 1109), (0, u "java/lang/Comparable"), (0, .class_ 1111), (0, u "java/lang/constant/Constable"), (0, .class_ 1113), (0, u "java/lang/constant/ConstantDesc"), (2, u "serialVersionUID"), (0, u "J"), (3, u "REPL"), (0, u "C"), (2, u "LATIN1"), (1, u "UTF16")] 323

def k7m0 : Method := { name := "<init>", desc := "()V", sig := { parameters := [], returnType := none }, accessFlags := 1, code := none }
def k7c1 : Code := { maxStack := 5, maxLocals := 2, code := jdk_42_method_3_code, exceptionTable := #[], attributes := #[] }
def k7m1 : Method := { name := "<init>", desc := "([C)V", sig := { parameters := [(.array .char)], returnType := none }, accessFlags := 1, code := some k7c1 }
def k7c2 : Code := { maxStack := 2, maxLocals := 1, code := jdk_42_method_54_code, exceptionTable := #[], attributes := #[] }
def k7m2 : Method := { name := "length", desc := "()I", sig := { parameters := [], returnType := some .int }, accessFlags := 1, code := some k7c2 }
def k7c3 : Code := { maxStack := 3, maxLocals := 2, code := jdk_42_method_79_code, exceptionTable := #[], attributes := #[] }
def k7m3 : Method := { name := "indexOf", desc := "(I)I", sig := { parameters := [.int], returnType := some .int }, accessFlags := 1, code := some k7c3 }
def k7c4 : Code := { maxStack := 4, maxLocals := 3, code := jdk_42_method_80_code, exceptionTable := #[], attributes := #[] }
def k7m4 : Method := { name := "indexOf", desc := "(II)I", sig := { parameters := [.int, .int], returnType := some .int }, accessFlags := 1, code := some k7c4 }
def k7c5 : Code := { maxStack := 4, maxLocals := 6, code := jdk_42_method_149_code, exceptionTable := #[], attributes := #[] }
def k7m5 : Method := { name := "<init>", desc := "([CIILjava/lang/Void;)V", sig := { parameters := [(.array .char), .int, .int, (.object "java/lang/Void")], returnType := none }, accessFlags := 2, code := some k7c5 }
def k7c6 : Code := { maxStack := 1, maxLocals := 1, code := jdk_42_method_152_code, exceptionTable := #[], attributes := #[] }
def k7m6 : Method := { name := "coder", desc := "()B", sig := { parameters := [], returnType := some .byte }, accessFlags := 0, code := some k7c6 }
def k7c7 : Code := { maxStack := 1, maxLocals := 1, code := jdk_42_method_154_code, exceptionTable := #[], attributes := #[] }
def k7m7 : Method := { name := "isLatin1", desc := "()Z", sig := { parameters := [], returnType := some .boolean }, accessFlags := 0, code := some k7c7 }
def k7c8 : Code := { maxStack := 4, maxLocals := 3, code := jdk_42_method_158_code, exceptionTable := #[], attributes := #[] }
def k7m8 : Method := { name := "checkBoundsBeginEnd", desc := "(III)V", sig := { parameters := [.int, .int, .int], returnType := none }, accessFlags := 8, code := some k7c8 }
/-- java/lang/String -/
def k7 : Class := { plain "java/lang/String" (some 0) with
  accessFlags := 49
  interfaces := #[2, 3, 4, 5, 6]
  cf := some (fileOf pool7 10 #[.nestMembers #[1103]] #[{ accessFlags := 1, nameIndex := 5, descriptorIndex := 6, attributes := #[] }, { accessFlags := 1, nameIndex := 5, descriptorIndex := 1010, attributes := #[] }, { accessFlags := 1, nameIndex := 507, descriptorIndex := 334, attributes := #[] }, { accessFlags := 1, nameIndex := 635, descriptorIndex := 765, attributes := #[] }, { accessFlags := 1, nameIndex := 635, descriptorIndex := 636, attributes := #[] }, { accessFlags := 2, nameIndex := 5, descriptorIndex := 29, attributes := #[] }, { accessFlags := 0, nameIndex := 17, descriptorIndex := 337, attributes := #[] }, { accessFlags := 0, nameIndex := 494, descriptorIndex := 142, attributes := #[] }, { accessFlags := 8, nameIndex := 523, descriptorIndex := 524, attributes := #[] }] 49 2 #[1106, 1108, 575, 1110, 1112] #[{ accessFlags := 18, nameIndex := 13, descriptorIndex := 14, attributes := #[] }, { accessFlags := 18, nameIndex := 17, descriptorIndex := 18, attributes := #[] }, { accessFlags := 2, nameIndex := 21, descriptorIndex := 22, attributes := #[] }, { accessFlags := 2, nameIndex := 25, descriptorIndex := 26, attributes := #[] }, { accessFlags := 26, nameIndex := 1116, descriptorIndex := 1117, attributes := #[] }, { accessFlags := 24, nameIndex := 40, descriptorIndex := 26, attributes := #[] }, { accessFlags := 26, nameIndex := 1101, descriptorIndex := 1102, attributes := #[] }, { accessFlags := 26, nameIndex := 1121, descriptorIndex := 1122, attributes := #[] }, { accessFlags := 25, nameIndex := 599, descriptorIndex := 600, attributes := #[] }, { accessFlags := 24, nameIndex := 1125, descriptorIndex := 18, attributes := #[] }, { accessFlags := 24, nameIndex := 1127, descriptorIndex := 18, attributes := #[] }])
  fields := #[{ name := "value", type := (.array .byte), accessFlags := 18, slot := 0, constantValue := 0 }, { name := "coder", type := .byte, accessFlags := 18, slot := 1, constantValue := 0 }, { name := "hash", type := .int, accessFlags := 2, slot := 2, constantValue := 0 }, { name := "hashIsZero", type := .boolean, accessFlags := 2, slot := 3, constantValue := 0 }, { name := "serialVersionUID", type := .long, accessFlags := 26, slot := 0, constantValue := 0 }, { name := "COMPACT_STRINGS", type := .boolean, accessFlags := 24, slot := 1, constantValue := 0 }, { name := "serialPersistentFields", type := (.array (.object "java/io/ObjectStreamField")), accessFlags := 26, slot := 2, constantValue := 0 }, { name := "REPL", type := .char, accessFlags := 26, slot := 3, constantValue := 0 }, { name := "CASE_INSENSITIVE_ORDER", type := (.object "java/util/Comparator"), accessFlags := 25, slot := 4, constantValue := 0 }, { name := "LATIN1", type := .byte, accessFlags := 24, slot := 5, constantValue := 0 }, { name := "UTF16", type := .byte, accessFlags := 24, slot := 6, constantValue := 0 }]
  methods := #[k7m0, k7m1, k7m2, k7m3, k7m4, k7m5, k7m6, k7m7, k7m8]
  instanceTypes := #[(.array .byte), .byte, .int, .boolean]
  staticTypes := #[.long, .boolean, (.array (.object "java/io/ObjectStreamField")), .char, (.object "java/util/Comparator"), .byte, .byte]
  resolved := Array.replicate 1451 none
  statics := some 0 }

def pool8 : Array CpInfo := pool [(2, .class_ 4), (1, u "java/lang/Object"), (0, u "<init>"), (0, u "()V"), (0, .class_ 8), (0, u "java/lang/Record")] 13

def k8m0 : Method := { name := "<init>", desc := "()V", sig := { parameters := [], returnType := none }, accessFlags := 4, code := none }
/-- java/lang/Record -/
def k8 : Class := { plain "java/lang/Record" (some 0) with
  accessFlags := 1057
  interfaces := #[]
  cf := some (fileOf pool8 7 #[] #[{ accessFlags := 4, nameIndex := 5, descriptorIndex := 6, attributes := #[] }] 1057 2 #[] #[])
  fields := #[]
  methods := #[k8m0]
  instanceTypes := #[]
  staticTypes := #[]
  resolved := Array.replicate 22 none
  statics := none }

def pool9 : Array CpInfo := pool [(2, .class_ 4), (1, u "java/lang/Record"), (3, u "id"), (13, .class_ 24), (1, u "com/example/lynceus/lynceus/Bag"), (0, u "Ljava/lang/String;"), (2, u "features"), (0, u "Ljava/util/Map;"), (19, .class_ 50), (0, u "java/lang/String"), (17, .methodref 49 69), (0, .nameAndType 70 71), (0, u "indexOf"), (0, u "(I)I"), (68, u "isPrintable"), (0, u "(Ljava/lang/String;)Z")] 56

def k9c0 : Code := { maxStack := 2, maxLocals := 1, code := prog_1_method_3_code, exceptionTable := #[], attributes := #[] }
def k9m0 : Method := { name := "isPrintable", desc := "(Ljava/lang/String;)Z", sig := { parameters := [(.object "java/lang/String")], returnType := some .boolean }, accessFlags := 8, code := some k9c0 }
/-- com/example/lynceus/lynceus/Bag -/
def k9 : Class := { plain "com/example/lynceus/lynceus/Bag" (some 8) with
  accessFlags := 49
  interfaces := #[]
  cf := some (fileOf pool9 22 #[] #[{ accessFlags := 8, nameIndex := 140, descriptorIndex := 141, attributes := #[] }] 49 2 #[] #[{ accessFlags := 18, nameIndex := 8, descriptorIndex := 25, attributes := #[] }, { accessFlags := 18, nameIndex := 28, descriptorIndex := 29, attributes := #[] }])
  fields := #[{ name := "id", type := (.object "java/lang/String"), accessFlags := 18, slot := 0, constantValue := 0 }, { name := "features", type := (.object "java/util/Map"), accessFlags := 18, slot := 1, constantValue := 0 }]
  methods := #[k9m0]
  instanceTypes := #[(.object "java/lang/String"), (.object "java/util/Map")]
  staticTypes := #[]
  resolved := Array.replicate 198 none
  statics := none }

def pool10 : Array CpInfo := pool [(4, .class_ 6), (1, u "java/lang/Object"), (0, u "<init>"), (0, u "()V"), (5, .class_ 16), (1, u "java/lang/StringLatin1"), (21, .methodref 39 40), (0, .class_ 41), (0, .nameAndType 42 43), (0, u "java/lang/Math"), (0, u "min"), (0, u "(II)I"), (44, .methodref 14 89), (0, .nameAndType 90 91), (0, u "canEncode"), (0, u "(I)Z"), (0, .methodref 39 93), (0, .nameAndType 94 43), (0, u "max"), (0, .methodref 14 96), (0, .nameAndType 97 98), (0, u "indexOfChar"), (0, u "([BIII)I"), (2, u "indexOf"), (19, u "$assertionsDisabled"), (0, u "Z"), (98, .class_ 223), (1, u "java/lang/StringLatin1$LinesSpliterator"), (166, .class_ 391), (0, u "java/lang/StringLatin1$CharsSpliterator")] 3

def k10m0 : Method := { name := "<init>", desc := "()V", sig := { parameters := [], returnType := none }, accessFlags := 0, code := none }
def k10c1 : Code := { maxStack := 2, maxLocals := 1, code := jdk_43_method_4_code, exceptionTable := #[], attributes := #[] }
def k10m1 : Method := { name := "canEncode", desc := "(I)Z", sig := { parameters := [.int], returnType := some .boolean }, accessFlags := 9, code := some k10c1 }
def k10c2 : Code := { maxStack := 4, maxLocals := 4, code := jdk_43_method_22_code, exceptionTable := #[], attributes := #[] }
def k10m2 : Method := { name := "indexOf", desc := "([BIII)I", sig := { parameters := [(.array .byte), .int, .int, .int], returnType := some .int }, accessFlags := 9, code := some k10c2 }
def k10c3 : Code := { maxStack := 2, maxLocals := 6, code := jdk_43_method_23_code, exceptionTable := #[], attributes := #[] }
def k10m3 : Method := { name := "indexOfChar", desc := "([BIII)I", sig := { parameters := [(.array .byte), .int, .int, .int], returnType := some .int }, accessFlags := 10, code := some k10c3 }
/-- java/lang/StringLatin1 -/
def k10 : Class := { plain "java/lang/StringLatin1" (some 0) with
  accessFlags := 48
  interfaces := #[]
  cf := some (fileOf pool10 14 #[.nestMembers #[390, 221]] #[{ accessFlags := 0, nameIndex := 7, descriptorIndex := 8, attributes := #[] }, { accessFlags := 9, nameIndex := 90, descriptorIndex := 91, attributes := #[] }, { accessFlags := 9, nameIndex := 101, descriptorIndex := 98, attributes := #[] }, { accessFlags := 10, nameIndex := 97, descriptorIndex := 98, attributes := #[] }] 48 4 #[] #[{ accessFlags := 4120, nameIndex := 121, descriptorIndex := 122, attributes := #[] }])
  fields := #[{ name := "$assertionsDisabled", type := .boolean, accessFlags := 4120, slot := 0, constantValue := 0 }]
  methods := #[k10m0, k10m1, k10m2, k10m3]
  instanceTypes := #[]
  staticTypes := #[.boolean]
  resolved := Array.replicate 395 none
  statics := none }

def pool11 : Array CpInfo := pool [(1, .class_ 2), (0, u "java/lang/Math"), (1, .class_ 6), (1, u "java/lang/Object"), (0, u "<init>"), (0, u "()V"), (89, .class_ 100), (1, u "java/lang/Math$RandomNumberGeneratorHolder"), (71, u "negativeZeroFloatBits"), (0, u "J"), (2, u "negativeZeroDoubleBits"), (21, u "max"), (2, u "min"), (43, u "$assertionsDisabled"), (0, u "Z"), (88, u "(II)I"), (2, u "twoToTheDoubleScaleDown"), (0, u "D"), (4, u "twoToTheDoubleScaleUp"), (9, u "E"), (3, u "PI"), (2, u "TAU"), (2, u "DEGREES_TO_RADIANS"), (0, u "RADIANS_TO_DEGREES")] 94

def k11m0 : Method := { name := "<init>", desc := "()V", sig := { parameters := [], returnType := none }, accessFlags := 2, code := none }
def k11c1 : Code := { maxStack := 2, maxLocals := 2, code := jdk_29_method_65_code, exceptionTable := #[], attributes := #[] }
def k11m1 : Method := { name := "max", desc := "(II)I", sig := { parameters := [.int, .int], returnType := some .int }, accessFlags := 9, code := some k11c1 }
def k11c2 : Code := { maxStack := 2, maxLocals := 2, code := jdk_29_method_69_code, exceptionTable := #[], attributes := #[] }
def k11m2 : Method := { name := "min", desc := "(II)I", sig := { parameters := [.int, .int], returnType := some .int }, accessFlags := 9, code := some k11c2 }
/-- java/lang/Math -/
def k11 : Class := { plain "java/lang/Math" (some 0) with
  accessFlags := 49
  interfaces := #[]
  cf := some (fileOf pool11 1 #[.nestMembers #[98]] #[{ accessFlags := 2, nameIndex := 7, descriptorIndex := 8, attributes := #[] }, { accessFlags := 9, nameIndex := 198, descriptorIndex := 335, attributes := #[] }, { accessFlags := 9, nameIndex := 201, descriptorIndex := 335, attributes := #[] }] 49 4 #[] #[{ accessFlags := 25, nameIndex := 354, descriptorIndex := 339, attributes := #[] }, { accessFlags := 25, nameIndex := 358, descriptorIndex := 339, attributes := #[] }, { accessFlags := 25, nameIndex := 361, descriptorIndex := 339, attributes := #[] }, { accessFlags := 26, nameIndex := 364, descriptorIndex := 339, attributes := #[] }, { accessFlags := 26, nameIndex := 365, descriptorIndex := 339, attributes := #[] }, { accessFlags := 26, nameIndex := 172, descriptorIndex := 173, attributes := #[] }, { accessFlags := 26, nameIndex := 176, descriptorIndex := 173, attributes := #[] }, { accessFlags := 8, nameIndex := 344, descriptorIndex := 339, attributes := #[] }, { accessFlags := 8, nameIndex := 338, descriptorIndex := 339, attributes := #[] }, { accessFlags := 4120, nameIndex := 245, descriptorIndex := 246, attributes := #[] }])
  fields := #[{ name := "E", type := .double, accessFlags := 25, slot := 0, constantValue := 0 }, { name := "PI", type := .double, accessFlags := 25, slot := 1, constantValue := 0 }, { name := "TAU", type := .double, accessFlags := 25, slot := 2, constantValue := 0 }, { name := "DEGREES_TO_RADIANS", type := .double, accessFlags := 26, slot := 3, constantValue := 0 }, { name := "RADIANS_TO_DEGREES", type := .double, accessFlags := 26, slot := 4, constantValue := 0 }, { name := "negativeZeroFloatBits", type := .long, accessFlags := 26, slot := 5, constantValue := 0 }, { name := "negativeZeroDoubleBits", type := .long, accessFlags := 26, slot := 6, constantValue := 0 }, { name := "twoToTheDoubleScaleUp", type := .double, accessFlags := 8, slot := 7, constantValue := 0 }, { name := "twoToTheDoubleScaleDown", type := .double, accessFlags := 8, slot := 8, constantValue := 0 }, { name := "$assertionsDisabled", type := .boolean, accessFlags := 4120, slot := 9, constantValue := 0 }]
  methods := #[k11m0, k11m1, k11m2]
  instanceTypes := #[]
  staticTypes := #[.double, .double, .double, .double, .double, .long, .long, .double, .double, .boolean]
  resolved := Array.replicate 460 none
  statics := none }

def pool12 : Array CpInfo := pool [(3, .class_ 4), (0, u "java/lang/String"), (1, .class_ 8), (1, u "java/lang/Object"), (0, u "<init>"), (0, u "()V"), (0, .methodref 12 13), (0, .class_ 14), (0, .nameAndType 15 16), (0, u "java/lang/StringUTF16"), (0, u "newBytesLength"), (0, u "(I)I"), (3, .integer 1073741823), (23, .fieldref 12 45), (0, .nameAndType 46 47), (0, u "$assertionsDisabled"), (0, u "Z"), (0, .methodref 12 49), (0, .nameAndType 50 51), (0, u "length"), (0, u "([B)I"), (7, .fieldref 12 60), (0, .nameAndType 61 62), (0, u "HI_BYTE_SHIFT"), (0, u "I"), (0, .fieldref 12 64), (0, .nameAndType 65 62), (0, u "LO_BYTE_SHIFT"), (5, .methodref 12 72), (0, .nameAndType 73 74), (0, u "getChar"), (0, u "([BI)C"), (21, .methodref 12 97), (0, .nameAndType 98 99), (0, u "checkBoundsBeginEnd"), (0, u "(II[B)V"), (7, .methodref 12 108), (0, .nameAndType 109 110), (0, u "newBytesFor"), (0, u "(I)[B"), (0, .methodref 12 112), (0, .nameAndType 113 114), (0, u "putChar"), (0, u "([BII)V"), (0, .methodref 12 116), (0, .nameAndType 117 118), (0, u "compress"), (0, u "([CI[BII)I"), (0, .methodref 12 120), (0, .nameAndType 121 122), (0, u "toBytes"), (0, u "([CII)[B"), (60, .methodref 184 185), (0, .class_ 186), (0, .nameAndType 187 188), (0, u "java/lang/Math"), (0, u "min"), (0, u "(II)I"), (35, .methodref 184 225), (0, .nameAndType 226 188), (0, u "max"), (0, .integer 65536), (0, .methodref 12 229), (0, .nameAndType 230 231), (0, u "indexOfChar"), (0, u "([BIII)I"), (9, .methodref 3 242), (0, .nameAndType 98 243), (0, u "(III)V"), (0, .methodref 12 245), (0, .nameAndType 246 231), (0, u "indexOfCharUnsafe"), (14, u "coderFromArrayLen"), (0, u "([BI)B"), (5, u "indexOf"), (100, .class_ 371), (1, u "java/lang/StringUTF16$LinesSpliterator"), (58, u "MAX_LENGTH"), (196, .class_ 628), (0, u "java/lang/StringUTF16$CodePointsSpliterator"), (0, .class_ 630), (0, u "java/lang/StringUTF16$CharsSpliterator")] 4

def k12m0 : Method := { name := "<init>", desc := "()V", sig := { parameters := [], returnType := none }, accessFlags := 0, code := none }
def k12c1 : Code := { maxStack := 1, maxLocals := 1, code := jdk_52_method_2_code, exceptionTable := #[], attributes := #[] }
def k12m1 : Method := { name := "newBytesFor", desc := "(I)[B", sig := { parameters := [.int], returnType := some (.array .byte) }, accessFlags := 9, code := some k12c1 }
def k12c2 : Code := { maxStack := 4, maxLocals := 1, code := jdk_52_method_3_code, exceptionTable := #[], attributes := #[] }
def k12m2 : Method := { name := "newBytesLength", desc := "(I)I", sig := { parameters := [.int], returnType := some .int }, accessFlags := 9, code := some k12c2 }
def k12c3 : Code := { maxStack := 4, maxLocals := 3, code := jdk_52_method_4_code, exceptionTable := #[], attributes := #[] }
def k12m3 : Method := { name := "putChar", desc := "([BII)V", sig := { parameters := [(.array .byte), .int, .int], returnType := none }, accessFlags := 8, code := some k12c3 }
def k12c4 : Code := { maxStack := 3, maxLocals := 2, code := jdk_52_method_5_code, exceptionTable := #[], attributes := #[] }
def k12m4 : Method := { name := "getChar", desc := "([BI)C", sig := { parameters := [(.array .byte), .int], returnType := some .char }, accessFlags := 8, code := some k12c4 }
def k12c5 : Code := { maxStack := 2, maxLocals := 1, code := jdk_52_method_6_code, exceptionTable := #[], attributes := #[] }
def k12m5 : Method := { name := "length", desc := "([B)I", sig := { parameters := [(.array .byte)], returnType := some .int }, accessFlags := 9, code := some k12c5 }
def k12c6 : Code := { maxStack := 4, maxLocals := 5, code := jdk_52_method_14_code, exceptionTable := #[], attributes := #[] }
def k12m6 : Method := { name := "toBytes", desc := "([CII)[B", sig := { parameters := [(.array .char), .int, .int], returnType := some (.array .byte) }, accessFlags := 9, code := some k12c6 }
def k12c7 : Code := { maxStack := 2, maxLocals := 2, code := jdk_52_method_15_code, exceptionTable := #[], attributes := #[] }
def k12m7 : Method := { name := "coderFromArrayLen", desc := "([BI)B", sig := { parameters := [(.array .byte), .int], returnType := some .byte }, accessFlags := 8, code := some k12c7 }
def k12c8 : Code := { maxStack := 5, maxLocals := 6, code := jdk_52_method_16_code, exceptionTable := #[], attributes := #[] }
def k12m8 : Method := { name := "compress", desc := "([CII)[B", sig := { parameters := [(.array .char), .int, .int], returnType := some (.array .byte) }, accessFlags := 9, code := some k12c8 }
def k12c9 : Code := { maxStack := 3, maxLocals := 7, code := jdk_52_method_21_code, exceptionTable := #[], attributes := #[] }
def k12m9 : Method := { name := "compress", desc := "([CI[BII)I", sig := { parameters := [(.array .char), .int, (.array .byte), .int, .int], returnType := some .int }, accessFlags := 9, code := some k12c9 }
def k12c10 : Code := { maxStack := 4, maxLocals := 4, code := jdk_52_method_40_code, exceptionTable := #[], attributes := #[] }
def k12m10 : Method := { name := "indexOf", desc := "([BIII)I", sig := { parameters := [(.array .byte), .int, .int, .int], returnType := some .int }, accessFlags := 9, code := some k12c10 }
def k12c11 : Code := { maxStack := 4, maxLocals := 4, code := jdk_52_method_47_code, exceptionTable := #[], attributes := #[] }
def k12m11 : Method := { name := "indexOfChar", desc := "([BIII)I", sig := { parameters := [(.array .byte), .int, .int, .int], returnType := some .int }, accessFlags := 10, code := some k12c11 }
def k12c12 : Code := { maxStack := 2, maxLocals := 5, code := jdk_52_method_48_code, exceptionTable := #[], attributes := #[] }
def k12m12 : Method := { name := "indexOfCharUnsafe", desc := "([BIII)I", sig := { parameters := [(.array .byte), .int, .int, .int], returnType := some .int }, accessFlags := 10, code := some k12c12 }
def k12c13 : Code := { maxStack := 3, maxLocals := 3, code := jdk_52_method_93_code, exceptionTable := #[], attributes := #[] }
def k12m13 : Method := { name := "checkBoundsBeginEnd", desc := "(II[B)V", sig := { parameters := [.int, .int, (.array .byte)], returnType := none }, accessFlags := 9, code := some k12c13 }
/-- java/lang/StringUTF16 -/
def k12 : Class := { plain "java/lang/StringUTF16" (some 0) with
  accessFlags := 48
  interfaces := #[]
  cf := some (fileOf pool12 12 #[.nestMembers #[627, 629, 369]] #[{ accessFlags := 0, nameIndex := 9, descriptorIndex := 10, attributes := #[] }, { accessFlags := 9, nameIndex := 109, descriptorIndex := 110, attributes := #[] }, { accessFlags := 9, nameIndex := 15, descriptorIndex := 16, attributes := #[] }, { accessFlags := 8, nameIndex := 113, descriptorIndex := 114, attributes := #[] }, { accessFlags := 8, nameIndex := 73, descriptorIndex := 74, attributes := #[] }, { accessFlags := 9, nameIndex := 50, descriptorIndex := 51, attributes := #[] }, { accessFlags := 9, nameIndex := 121, descriptorIndex := 122, attributes := #[] }, { accessFlags := 8, nameIndex := 261, descriptorIndex := 262, attributes := #[] }, { accessFlags := 9, nameIndex := 117, descriptorIndex := 122, attributes := #[] }, { accessFlags := 9, nameIndex := 117, descriptorIndex := 118, attributes := #[] }, { accessFlags := 9, nameIndex := 268, descriptorIndex := 231, attributes := #[] }, { accessFlags := 10, nameIndex := 230, descriptorIndex := 231, attributes := #[] }, { accessFlags := 10, nameIndex := 246, descriptorIndex := 231, attributes := #[] }, { accessFlags := 9, nameIndex := 98, descriptorIndex := 99, attributes := #[] }] 48 6 #[] #[{ accessFlags := 26, nameIndex := 61, descriptorIndex := 62, attributes := #[] }, { accessFlags := 26, nameIndex := 65, descriptorIndex := 62, attributes := #[] }, { accessFlags := 24, nameIndex := 430, descriptorIndex := 62, attributes := #[] }, { accessFlags := 4120, nameIndex := 46, descriptorIndex := 47, attributes := #[] }])
  fields := #[{ name := "HI_BYTE_SHIFT", type := .int, accessFlags := 26, slot := 0, constantValue := 0 }, { name := "LO_BYTE_SHIFT", type := .int, accessFlags := 26, slot := 1, constantValue := 0 }, { name := "MAX_LENGTH", type := .int, accessFlags := 24, slot := 2, constantValue := 0 }, { name := "$assertionsDisabled", type := .boolean, accessFlags := 4120, slot := 3, constantValue := 0 }]
  methods := #[k12m0, k12m1, k12m2, k12m3, k12m4, k12m5, k12m6, k12m7, k12m8, k12m9, k12m10, k12m11, k12m12, k12m13]
  instanceTypes := #[]
  staticTypes := #[.int, .int, .int, .boolean]
  resolved := Array.replicate 635 none
  statics := some 1 }

def pool13 : Array CpInfo := pool [(2, .class_ 4), (1, u "java/lang/Object"), (0, u "<init>"), (0, u "()V"), (17, .class_ 26), (1, u "jdk/internal/util/Preconditions"), (20, u "checkFromToIndex"), (7, .class_ 56), (0, u "jdk/internal/util/Preconditions$4"), (57, .class_ 115), (0, u "jdk/internal/util/Preconditions$1"), (7, u "SIOOBE_FORMATTER"), (0, u "Ljava/util/function/BiFunction;"), (0, .class_ 126), (0, u "jdk/internal/util/Preconditions$2"), (3, u "AIOOBE_FORMATTER"), (0, .class_ 132), (0, u "jdk/internal/util/Preconditions$3"), (3, u "IOOBE_FORMATTER"), (46, u "(IIILjava/util/function/BiFunction;)I")] 10

def k13m0 : Method := { name := "<init>", desc := "()V", sig := { parameters := [], returnType := none }, accessFlags := 1, code := none }
def k13c1 : Code := { maxStack := 4, maxLocals := 4, code := jdk_41_method_12_code, exceptionTable := #[], attributes := #[] }
def k13m1 : Method := { name := "checkFromToIndex", desc := "(IIILjava/util/function/BiFunction;)I", sig := { parameters := [.int, .int, .int, (.object "java/util/function/BiFunction")], returnType := some .int }, accessFlags := 9, code := some k13c1 }
/-- jdk/internal/util/Preconditions -/
def k13 : Class := { plain "jdk/internal/util/Preconditions" (some 0) with
  accessFlags := 33
  interfaces := #[]
  cf := some (fileOf pool13 24 #[.nestMembers #[55, 131, 125, 114]] #[{ accessFlags := 1, nameIndex := 5, descriptorIndex := 6, attributes := #[] }, { accessFlags := 9, nameIndex := 47, descriptorIndex := 183, attributes := #[] }] 33 2 #[] #[{ accessFlags := 25, nameIndex := 123, descriptorIndex := 124, attributes := #[] }, { accessFlags := 25, nameIndex := 130, descriptorIndex := 124, attributes := #[] }, { accessFlags := 25, nameIndex := 136, descriptorIndex := 124, attributes := #[] }])
  fields := #[{ name := "SIOOBE_FORMATTER", type := (.object "java/util/function/BiFunction"), accessFlags := 25, slot := 0, constantValue := 0 }, { name := "AIOOBE_FORMATTER", type := (.object "java/util/function/BiFunction"), accessFlags := 25, slot := 1, constantValue := 0 }, { name := "IOOBE_FORMATTER", type := (.object "java/util/function/BiFunction"), accessFlags := 25, slot := 2, constantValue := 0 }]
  methods := #[k13m0, k13m1]
  instanceTypes := #[]
  staticTypes := #[(.object "java/util/function/BiFunction"), (.object "java/util/function/BiFunction"), (.object "java/util/function/BiFunction")]
  resolved := Array.replicate 194 none
  statics := some 2 }

def pool14 : Array CpInfo := pool [(9, u "<init>"), (6, .class_ 18), (1, u "java/lang/Object"), (0, u "()V"), (1, .class_ 23), (1, u "jdk/internal/util/ArraysSupport"), (0, u "LOG2_ARRAY_LONG_INDEX_SCALE"), (0, u "I"), (2, u "U"), (0, u "Ljdk/internal/misc/Unsafe;"), (8, u "BIG_ENDIAN"), (0, u "Z"), (8, u "LOG2_BYTE_BIT_SIZE"), (4, u "LOG2_ARRAY_INT_INDEX_SCALE"), (54, u "JLA"), (0, u "Ljdk/internal/access/JavaLangAccess;"), (11, u "LOG2_ARRAY_BOOLEAN_INDEX_SCALE"), (9, u "LOG2_ARRAY_BYTE_INDEX_SCALE"), (5, u "LOG2_ARRAY_CHAR_INDEX_SCALE"), (5, u "LOG2_ARRAY_SHORT_INDEX_SCALE"), (18, u "LOG2_ARRAY_FLOAT_INDEX_SCALE"), (24, u "LOG2_ARRAY_DOUBLE_INDEX_SCALE"), (89, u "T_BOOLEAN"), (2, u "T_CHAR"), (1, u "T_FLOAT"), (1, u "T_DOUBLE"), (1, u "T_BYTE"), (1, u "T_SHORT"), (1, u "T_INT"), (1, u "T_LONG"), (1, u "SOFT_MAX_ARRAY_LENGTH")] 83

def k14m0 : Method := { name := "<init>", desc := "()V", sig := { parameters := [], returnType := none }, accessFlags := 2, code := none }
/-- jdk/internal/util/ArraysSupport -/
def k14 : Class := { plain "jdk/internal/util/ArraysSupport" (some 0) with
  accessFlags := 33
  interfaces := #[]
  cf := some (fileOf pool14 21 #[] #[{ accessFlags := 2, nameIndex := 9, descriptorIndex := 19, attributes := #[] }] 33 16 #[] #[{ accessFlags := 24, nameIndex := 28, descriptorIndex := 29, attributes := #[] }, { accessFlags := 26, nameIndex := 38, descriptorIndex := 39, attributes := #[] }, { accessFlags := 25, nameIndex := 121, descriptorIndex := 25, attributes := #[] }, { accessFlags := 25, nameIndex := 131, descriptorIndex := 25, attributes := #[] }, { accessFlags := 25, nameIndex := 137, descriptorIndex := 25, attributes := #[] }, { accessFlags := 25, nameIndex := 143, descriptorIndex := 25, attributes := #[] }, { accessFlags := 25, nameIndex := 53, descriptorIndex := 25, attributes := #[] }, { accessFlags := 25, nameIndex := 24, descriptorIndex := 25, attributes := #[] }, { accessFlags := 25, nameIndex := 162, descriptorIndex := 25, attributes := #[] }, { accessFlags := 25, nameIndex := 187, descriptorIndex := 25, attributes := #[] }, { accessFlags := 26, nameIndex := 48, descriptorIndex := 25, attributes := #[] }, { accessFlags := 25, nameIndex := 277, descriptorIndex := 25, attributes := #[] }, { accessFlags := 25, nameIndex := 280, descriptorIndex := 25, attributes := #[] }, { accessFlags := 25, nameIndex := 282, descriptorIndex := 25, attributes := #[] }, { accessFlags := 25, nameIndex := 284, descriptorIndex := 25, attributes := #[] }, { accessFlags := 25, nameIndex := 286, descriptorIndex := 25, attributes := #[] }, { accessFlags := 25, nameIndex := 288, descriptorIndex := 25, attributes := #[] }, { accessFlags := 25, nameIndex := 290, descriptorIndex := 25, attributes := #[] }, { accessFlags := 25, nameIndex := 292, descriptorIndex := 25, attributes := #[] }, { accessFlags := 26, nameIndex := 108, descriptorIndex := 109, attributes := #[] }, { accessFlags := 25, nameIndex := 294, descriptorIndex := 25, attributes := #[] }])
  fields := #[{ name := "U", type := (.object "jdk/internal/misc/Unsafe"), accessFlags := 24, slot := 0, constantValue := 0 }, { name := "BIG_ENDIAN", type := .boolean, accessFlags := 26, slot := 1, constantValue := 0 }, { name := "LOG2_ARRAY_BOOLEAN_INDEX_SCALE", type := .int, accessFlags := 25, slot := 2, constantValue := 0 }, { name := "LOG2_ARRAY_BYTE_INDEX_SCALE", type := .int, accessFlags := 25, slot := 3, constantValue := 0 }, { name := "LOG2_ARRAY_CHAR_INDEX_SCALE", type := .int, accessFlags := 25, slot := 4, constantValue := 0 }, { name := "LOG2_ARRAY_SHORT_INDEX_SCALE", type := .int, accessFlags := 25, slot := 5, constantValue := 0 }, { name := "LOG2_ARRAY_INT_INDEX_SCALE", type := .int, accessFlags := 25, slot := 6, constantValue := 0 }, { name := "LOG2_ARRAY_LONG_INDEX_SCALE", type := .int, accessFlags := 25, slot := 7, constantValue := 0 }, { name := "LOG2_ARRAY_FLOAT_INDEX_SCALE", type := .int, accessFlags := 25, slot := 8, constantValue := 0 }, { name := "LOG2_ARRAY_DOUBLE_INDEX_SCALE", type := .int, accessFlags := 25, slot := 9, constantValue := 0 }, { name := "LOG2_BYTE_BIT_SIZE", type := .int, accessFlags := 26, slot := 10, constantValue := 0 }, { name := "T_BOOLEAN", type := .int, accessFlags := 25, slot := 11, constantValue := 0 }, { name := "T_CHAR", type := .int, accessFlags := 25, slot := 12, constantValue := 0 }, { name := "T_FLOAT", type := .int, accessFlags := 25, slot := 13, constantValue := 0 }, { name := "T_DOUBLE", type := .int, accessFlags := 25, slot := 14, constantValue := 0 }, { name := "T_BYTE", type := .int, accessFlags := 25, slot := 15, constantValue := 0 }, { name := "T_SHORT", type := .int, accessFlags := 25, slot := 16, constantValue := 0 }, { name := "T_INT", type := .int, accessFlags := 25, slot := 17, constantValue := 0 }, { name := "T_LONG", type := .int, accessFlags := 25, slot := 18, constantValue := 0 }, { name := "JLA", type := (.object "jdk/internal/access/JavaLangAccess"), accessFlags := 26, slot := 19, constantValue := 0 }, { name := "SOFT_MAX_ARRAY_LENGTH", type := .int, accessFlags := 25, slot := 20, constantValue := 0 }]
  methods := #[k14m0]
  instanceTypes := #[]
  staticTypes := #[(.object "jdk/internal/misc/Unsafe"), .boolean, .int, .int, .int, .int, .int, .int, .int, .int, .int, .int, .int, .int, .int, .int, .int, .int, .int, (.object "jdk/internal/access/JavaLangAccess"), .int]
  resolved := Array.replicate 378 none
  statics := none }

def pool15 : Array CpInfo := pool [(1, u "java/lang/Cloneable"), (0, .class_ 1), (0, u "java/lang/Object"), (0, .class_ 3)] 3

/-- java/lang/Cloneable -/
def k15 : Class := { plain "java/lang/Cloneable" (some 0) with
  accessFlags := 1537
  interfaces := #[]
  cf := some (fileOf pool15 2 #[] #[] 1537 4 #[] #[])
  fields := #[]
  methods := #[]
  instanceTypes := #[]
  staticTypes := #[]
  resolved := Array.replicate 8 none
  statics := none }

/-- the primitive byte -/
def k16 : Class := { plain "byte" none with kind := .primitive 'B', accessFlags := 0x411 }
/-- [B -/
def k17 : Class := { plain "[B" (some 0) with kind := .array 16 .byte, interfaces := #[15, 2], accessFlags := 1041 }

/-- the primitive char -/
def k18 : Class := { plain "char" none with kind := .primitive 'C', accessFlags := 0x411 }
/-- [C -/
def k19 : Class := { plain "[C" (some 0) with kind := .array 18 .char, interfaces := #[15, 2], accessFlags := 1041 }

/-- the primitive int -/
def k20 : Class := { plain "int" none with kind := .primitive 'I', accessFlags := 0x411 }
/-- [I -/
def k21 : Class := { plain "[I" (some 0) with kind := .array 20 .int, interfaces := #[15, 2], accessFlags := 1041 }

def heap : Heap := #[{ cls := 7, slots := #[.long 0, .int 1, .null, .int 0, .null, .int 0, .int 0], vm := .statics 7 },
  { cls := 12, slots := #[.int 0, .int 8, .int 0, .int 1], vm := .statics 12 },
  { cls := 13, slots := #[.null, .null, .null], vm := .statics 13 }]
def classes : Array Class := #[k0, k1, k2, k3, k4, k5, k6, k7, k8, k9, k10, k11, k12, k13, k14, k15, k16, k17, k18, k19, k20, k21]
def interned : List (Array UInt16 × Addr) := []
def slotsUsed : Nat := 14
def theMethod : MethodId := ⟨1, 3⟩
def args0 : Array Value := #[.int 5, .int 5, .int 5, .int 5]
def aboutOver (below : List Frame) : State where
  vm := { classes := classes, interned := interned.toArray }
  heap := heap
  slotsUsed := slotsUsed
  threads := #[{ frames := .invoking theMethod args0 :: below }]
def below0 : List Frame := [.native { method := ⟨0, 0⟩, args := #[] }]
def about1 : State := aboutOver below0
def p0 : Program := .bare "" "" ""
def e0 : Env := launch0.env 0 0 0
theorem w_frames : about1.frames = Frame.invoking theMethod args0 :: below0 := rfl
set_option maxRecDepth 65536 in
theorem w_args : argsFit about1.vm theMethod args0 = true := by decide +kernel
set_option maxRecDepth 65536 in
theorem w_heap : heapFits about1 = true := by decide +kernel
set_option maxRecDepth 65536 in
theorem w_runnable : about1.curStatus? = some .runnable := by decide +kernel
set_option maxRecDepth 65536 in
theorem w_alone : about1.alone = true := by decide +kernel
set_option maxRecDepth 65536 in
theorem w_named : about1.methodNamed? x = some theMethod := by decide +kernel
set_option maxRecDepth 65536 in
theorem w_hears : about1.hears theMethod below0 = true := by decide +kernel
set_option maxRecDepth 65536 in
theorem w_ripe : about1.ripe theMethod args0 below0 = true := by decide +kernel
theorem w_running : about1.status = .running := rfl
set_option maxRecDepth 65536 in
theorem w_room : about1.hasRoom e0.platform room_1 = true :=
  launch0.hasRoom_least _ room_1 (by decide +kernel) (by decide +kernel) (by decide +kernel) (by decide +kernel) (by decide +kernel) (by decide +kernel)
theorem allAtoms_all (ts : List Jvm.Cond) (a : Array Jvm.Value) (st : Jvm.State) : (allAtoms ts).before a st = ts.all (fun c => c.before a st) := by
  induction ts with
  | nil => rfl
  | cons c t ih =>
    show (Jvm.Cond.and c (allAtoms t)).before a st = _
    rw [Jvm.Cond.before_and, ih, List.all_cons]
def words1 : List Jvm.Cond := Jvm.Cond.code x code maxLocals ret :: tables_1
/-- a 'code' word, met by the world's own term for the bytes: nothing is compared byte by byte -/
theorem code_word {y : MethodName} {bytes : ByteArray} {mx : Nat} {rt : Option FieldType} {a : Array Value} {s : State} {m : MethodId} {meth : Method} {c : Code} (h1 : s.methodNamed? y = some m) (h2 : s.vm.method? m = some meth) (h3 : meth.code = some c) (h4 : c.code = bytes)
    (h5 : (c.maxLocals == mx && c.exceptionTable.isEmpty && decide (c.maxStack ≤ mostOperands) && decide (meth.sig.returnType = rt) && !meth.locks && decide (parseMethodDescriptor y.desc = some meth.sig)) = true) : (Jvm.Cond.code y bytes mx rt).before a s = true := by
  simp only [Bool.and_eq_true, beq_iff_eq, Bool.not_eq_true', decide_eq_true_eq] at h5
  obtain ⟨⟨⟨⟨⟨g1, g2⟩, g3⟩, g4⟩, g5⟩, g6⟩ := h5
  simp [Cond.before, Cond.holds, Cond.value, h1, h2, h3, h4, g1, g2, g3, g4, g5, g6]
def isCode : Jvm.Cond → Bool
  | .code _ _ _ _ => true
  | _ => false
theorem all_split {L : List Jvm.Cond} {P : Jvm.Cond → Bool} (h1 : L.all (fun c => isCode c || P c) = true) (h2 : ∀ c ∈ L.filter isCode, P c = true) : L.all P = true := by
  refine List.all_eq_true.mpr fun c hc => ?_
  have h := List.all_eq_true.mp h1 c hc
  rcases Bool.eq_false_or_eq_true (isCode c) with hi | hi
  · exact h2 c (List.mem_filter.mpr ⟨hc, hi⟩)
  · simpa [hi] using h
set_option maxRecDepth 65536 in
theorem w_c0 : (Jvm.Cond.code x code maxLocals ret).before args0 about1 = true := code_word (m := ⟨1, 3⟩) (meth := k1m3) (c := k1c3) (by decide +kernel) rfl rfl rfl (by decide +kernel)
set_option maxRecDepth 65536 in
theorem w_c1 : (Jvm.Cond.code ({ cls := "com/example/lynceus/lynceus/BagIsPrintablePinLaw", name := "draw", desc := "(I)C" } : Jvm.MethodName) method_2_code (2 : Nat) (Option.some Jvm.ClassFile.FieldType.char)).before args0 about1 = true := code_word (m := ⟨1, 1⟩) (meth := k1m1) (c := k1c1) (by decide +kernel) rfl rfl rfl (by decide +kernel)
set_option maxRecDepth 65536 in
theorem w_c2 : (Jvm.Cond.code ({ cls := "java/lang/String", name := "<init>", desc := "([C)V" } : Jvm.MethodName) jdk_42_method_3_code (2 : Nat) (Option.none : Option Jvm.ClassFile.FieldType)).before args0 about1 = true := code_word (m := ⟨7, 1⟩) (meth := k7m1) (c := k7c1) (by decide +kernel) rfl rfl rfl (by decide +kernel)
set_option maxRecDepth 65536 in
theorem w_c3 : (Jvm.Cond.code ({ cls := "java/lang/String", name := "<init>", desc := "([CIILjava/lang/Void;)V" } : Jvm.MethodName) jdk_42_method_149_code (6 : Nat) (Option.none : Option Jvm.ClassFile.FieldType)).before args0 about1 = true := code_word (m := ⟨7, 5⟩) (meth := k7m5) (c := k7c5) (by decide +kernel) rfl rfl rfl (by decide +kernel)
set_option maxRecDepth 65536 in
theorem w_c4 : (Jvm.Cond.code ({ cls := "java/lang/Object", name := "<init>", desc := "()V" } : Jvm.MethodName) object_method_1_code (1 : Nat) (Option.none : Option Jvm.ClassFile.FieldType)).before args0 about1 = true := code_word (m := ⟨0, 0⟩) (meth := k0m0) (c := k0c0) (by decide +kernel) rfl rfl rfl (by decide +kernel)
set_option maxRecDepth 65536 in
theorem w_c5 : (Jvm.Cond.code ({ cls := "com/example/lynceus/lynceus/Bag", name := "isPrintable", desc := "(Ljava/lang/String;)Z" } : Jvm.MethodName) prog_1_method_3_code (1 : Nat) (Option.some Jvm.ClassFile.FieldType.boolean)).before args0 about1 = true := code_word (m := ⟨9, 0⟩) (meth := k9m0) (c := k9c0) (by decide +kernel) rfl rfl rfl (by decide +kernel)
set_option maxRecDepth 65536 in
theorem w_c6 : (Jvm.Cond.code ({ cls := "java/lang/String", name := "indexOf", desc := "(I)I" } : Jvm.MethodName) jdk_42_method_79_code (2 : Nat) (Option.some Jvm.ClassFile.FieldType.int)).before args0 about1 = true := code_word (m := ⟨7, 3⟩) (meth := k7m3) (c := k7c3) (by decide +kernel) rfl rfl rfl (by decide +kernel)
set_option maxRecDepth 65536 in
theorem w_c7 : (Jvm.Cond.code ({ cls := "java/lang/String", name := "indexOf", desc := "(II)I" } : Jvm.MethodName) jdk_42_method_80_code (3 : Nat) (Option.some Jvm.ClassFile.FieldType.int)).before args0 about1 = true := code_word (m := ⟨7, 4⟩) (meth := k7m4) (c := k7c4) (by decide +kernel) rfl rfl rfl (by decide +kernel)
set_option maxRecDepth 65536 in
theorem w_c8 : (Jvm.Cond.code ({ cls := "java/lang/String", name := "isLatin1", desc := "()Z" } : Jvm.MethodName) jdk_42_method_154_code (1 : Nat) (Option.some Jvm.ClassFile.FieldType.boolean)).before args0 about1 = true := code_word (m := ⟨7, 7⟩) (meth := k7m7) (c := k7c7) (by decide +kernel) rfl rfl rfl (by decide +kernel)
set_option maxRecDepth 65536 in
theorem w_c9 : (Jvm.Cond.code ({ cls := "java/lang/String", name := "length", desc := "()I" } : Jvm.MethodName) jdk_42_method_54_code (1 : Nat) (Option.some Jvm.ClassFile.FieldType.int)).before args0 about1 = true := code_word (m := ⟨7, 2⟩) (meth := k7m2) (c := k7c2) (by decide +kernel) rfl rfl rfl (by decide +kernel)
set_option maxRecDepth 65536 in
theorem w_c10 : (Jvm.Cond.code ({ cls := "java/lang/String", name := "coder", desc := "()B" } : Jvm.MethodName) jdk_42_method_152_code (1 : Nat) (Option.some Jvm.ClassFile.FieldType.byte)).before args0 about1 = true := code_word (m := ⟨7, 6⟩) (meth := k7m6) (c := k7c6) (by decide +kernel) rfl rfl rfl (by decide +kernel)
set_option maxRecDepth 65536 in
theorem w_c11 : (Jvm.Cond.code ({ cls := "java/lang/StringLatin1", name := "indexOf", desc := "([BIII)I" } : Jvm.MethodName) jdk_43_method_22_code (4 : Nat) (Option.some Jvm.ClassFile.FieldType.int)).before args0 about1 = true := code_word (m := ⟨10, 2⟩) (meth := k10m2) (c := k10c2) (by decide +kernel) rfl rfl rfl (by decide +kernel)
set_option maxRecDepth 65536 in
theorem w_c12 : (Jvm.Cond.code ({ cls := "java/lang/StringLatin1", name := "canEncode", desc := "(I)Z" } : Jvm.MethodName) jdk_43_method_4_code (1 : Nat) (Option.some Jvm.ClassFile.FieldType.boolean)).before args0 about1 = true := code_word (m := ⟨10, 1⟩) (meth := k10m1) (c := k10c1) (by decide +kernel) rfl rfl rfl (by decide +kernel)
set_option maxRecDepth 65536 in
theorem w_c13 : (Jvm.Cond.code ({ cls := "java/lang/Math", name := "max", desc := "(II)I" } : Jvm.MethodName) jdk_29_method_65_code (2 : Nat) (Option.some Jvm.ClassFile.FieldType.int)).before args0 about1 = true := code_word (m := ⟨11, 1⟩) (meth := k11m1) (c := k11c1) (by decide +kernel) rfl rfl rfl (by decide +kernel)
set_option maxRecDepth 65536 in
theorem w_c14 : (Jvm.Cond.code ({ cls := "java/lang/Math", name := "min", desc := "(II)I" } : Jvm.MethodName) jdk_29_method_69_code (2 : Nat) (Option.some Jvm.ClassFile.FieldType.int)).before args0 about1 = true := code_word (m := ⟨11, 2⟩) (meth := k11m2) (c := k11c2) (by decide +kernel) rfl rfl rfl (by decide +kernel)
set_option maxRecDepth 65536 in
theorem w_c15 : (Jvm.Cond.code ({ cls := "java/lang/StringUTF16", name := "compress", desc := "([CII)[B" } : Jvm.MethodName) jdk_52_method_16_code (6 : Nat) (Option.some (Jvm.ClassFile.FieldType.array Jvm.ClassFile.FieldType.byte))).before args0 about1 = true := code_word (m := ⟨12, 8⟩) (meth := k12m8) (c := k12c8) (by decide +kernel) rfl rfl rfl (by decide +kernel)
set_option maxRecDepth 65536 in
theorem w_c16 : (Jvm.Cond.code ({ cls := "java/lang/StringUTF16", name := "compress", desc := "([CI[BII)I" } : Jvm.MethodName) jdk_52_method_21_code (7 : Nat) (Option.some Jvm.ClassFile.FieldType.int)).before args0 about1 = true := code_word (m := ⟨12, 9⟩) (meth := k12m9) (c := k12c9) (by decide +kernel) rfl rfl rfl (by decide +kernel)
set_option maxRecDepth 65536 in
theorem w_c17 : (Jvm.Cond.code ({ cls := "java/lang/StringUTF16", name := "coderFromArrayLen", desc := "([BI)B" } : Jvm.MethodName) jdk_52_method_15_code (2 : Nat) (Option.some Jvm.ClassFile.FieldType.byte)).before args0 about1 = true := code_word (m := ⟨12, 7⟩) (meth := k12m7) (c := k12c7) (by decide +kernel) rfl rfl rfl (by decide +kernel)
set_option maxRecDepth 65536 in
theorem w_c18 : (Jvm.Cond.code ({ cls := "com/example/lynceus/lynceus/BagIsPrintablePinLaw", name := "bad", desc := "(C)Z" } : Jvm.MethodName) method_3_code (1 : Nat) (Option.some Jvm.ClassFile.FieldType.boolean)).before args0 about1 = true := code_word (m := ⟨1, 2⟩) (meth := k1m2) (c := k1c2) (by decide +kernel) rfl rfl rfl (by decide +kernel)
set_option maxRecDepth 65536 in
theorem w_c19 : (Jvm.Cond.code ({ cls := "java/lang/StringLatin1", name := "indexOfChar", desc := "([BIII)I" } : Jvm.MethodName) jdk_43_method_23_code (6 : Nat) (Option.some Jvm.ClassFile.FieldType.int)).before args0 about1 = true := code_word (m := ⟨10, 3⟩) (meth := k10m3) (c := k10c3) (by decide +kernel) rfl rfl rfl (by decide +kernel)
set_option maxRecDepth 65536 in
theorem w_c20 : (Jvm.Cond.code ({ cls := "java/lang/StringUTF16", name := "toBytes", desc := "([CII)[B" } : Jvm.MethodName) jdk_52_method_14_code (5 : Nat) (Option.some (Jvm.ClassFile.FieldType.array Jvm.ClassFile.FieldType.byte))).before args0 about1 = true := code_word (m := ⟨12, 6⟩) (meth := k12m6) (c := k12c6) (by decide +kernel) rfl rfl rfl (by decide +kernel)
set_option maxRecDepth 65536 in
theorem w_c21 : (Jvm.Cond.code ({ cls := "java/lang/StringUTF16", name := "newBytesFor", desc := "(I)[B" } : Jvm.MethodName) jdk_52_method_2_code (1 : Nat) (Option.some (Jvm.ClassFile.FieldType.array Jvm.ClassFile.FieldType.byte))).before args0 about1 = true := code_word (m := ⟨12, 1⟩) (meth := k12m1) (c := k12c1) (by decide +kernel) rfl rfl rfl (by decide +kernel)
set_option maxRecDepth 65536 in
theorem w_c22 : (Jvm.Cond.code ({ cls := "java/lang/StringUTF16", name := "newBytesLength", desc := "(I)I" } : Jvm.MethodName) jdk_52_method_3_code (1 : Nat) (Option.some Jvm.ClassFile.FieldType.int)).before args0 about1 = true := code_word (m := ⟨12, 2⟩) (meth := k12m2) (c := k12c2) (by decide +kernel) rfl rfl rfl (by decide +kernel)
set_option maxRecDepth 65536 in
theorem w_c23 : (Jvm.Cond.code ({ cls := "java/lang/StringUTF16", name := "putChar", desc := "([BII)V" } : Jvm.MethodName) jdk_52_method_4_code (3 : Nat) (Option.none : Option Jvm.ClassFile.FieldType)).before args0 about1 = true := code_word (m := ⟨12, 3⟩) (meth := k12m3) (c := k12c3) (by decide +kernel) rfl rfl rfl (by decide +kernel)
set_option maxRecDepth 65536 in
theorem w_c24 : (Jvm.Cond.code ({ cls := "java/lang/StringUTF16", name := "getChar", desc := "([BI)C" } : Jvm.MethodName) jdk_52_method_5_code (2 : Nat) (Option.some Jvm.ClassFile.FieldType.char)).before args0 about1 = true := code_word (m := ⟨12, 4⟩) (meth := k12m4) (c := k12c4) (by decide +kernel) rfl rfl rfl (by decide +kernel)
set_option maxRecDepth 65536 in
theorem w_c25 : (Jvm.Cond.code ({ cls := "java/lang/StringUTF16", name := "indexOf", desc := "([BIII)I" } : Jvm.MethodName) jdk_52_method_40_code (4 : Nat) (Option.some Jvm.ClassFile.FieldType.int)).before args0 about1 = true := code_word (m := ⟨12, 10⟩) (meth := k12m10) (c := k12c10) (by decide +kernel) rfl rfl rfl (by decide +kernel)
set_option maxRecDepth 65536 in
theorem w_c26 : (Jvm.Cond.code ({ cls := "java/lang/StringUTF16", name := "indexOfChar", desc := "([BIII)I" } : Jvm.MethodName) jdk_52_method_47_code (4 : Nat) (Option.some Jvm.ClassFile.FieldType.int)).before args0 about1 = true := code_word (m := ⟨12, 11⟩) (meth := k12m11) (c := k12c11) (by decide +kernel) rfl rfl rfl (by decide +kernel)
set_option maxRecDepth 65536 in
theorem w_c27 : (Jvm.Cond.code ({ cls := "java/lang/StringUTF16", name := "checkBoundsBeginEnd", desc := "(II[B)V" } : Jvm.MethodName) jdk_52_method_93_code (3 : Nat) (Option.none : Option Jvm.ClassFile.FieldType)).before args0 about1 = true := code_word (m := ⟨12, 13⟩) (meth := k12m13) (c := k12c13) (by decide +kernel) rfl rfl rfl (by decide +kernel)
set_option maxRecDepth 65536 in
theorem w_c28 : (Jvm.Cond.code ({ cls := "java/lang/StringUTF16", name := "length", desc := "([B)I" } : Jvm.MethodName) jdk_52_method_6_code (1 : Nat) (Option.some Jvm.ClassFile.FieldType.int)).before args0 about1 = true := code_word (m := ⟨12, 5⟩) (meth := k12m5) (c := k12c5) (by decide +kernel) rfl rfl rfl (by decide +kernel)
set_option maxRecDepth 65536 in
theorem w_c29 : (Jvm.Cond.code ({ cls := "java/lang/String", name := "checkBoundsBeginEnd", desc := "(III)V" } : Jvm.MethodName) jdk_42_method_158_code (3 : Nat) (Option.none : Option Jvm.ClassFile.FieldType)).before args0 about1 = true := code_word (m := ⟨7, 8⟩) (meth := k7m8) (c := k7c8) (by decide +kernel) rfl rfl rfl (by decide +kernel)
set_option maxRecDepth 65536 in
theorem w_c30 : (Jvm.Cond.code ({ cls := "jdk/internal/util/Preconditions", name := "checkFromToIndex", desc := "(IIILjava/util/function/BiFunction;)I" } : Jvm.MethodName) jdk_41_method_12_code (4 : Nat) (Option.some Jvm.ClassFile.FieldType.int)).before args0 about1 = true := code_word (m := ⟨13, 1⟩) (meth := k13m1) (c := k13c1) (by decide +kernel) rfl rfl rfl (by decide +kernel)
set_option maxRecDepth 65536 in
theorem w_c31 : (Jvm.Cond.code ({ cls := "java/lang/StringUTF16", name := "indexOfCharUnsafe", desc := "([BIII)I" } : Jvm.MethodName) jdk_52_method_48_code (5 : Nat) (Option.some Jvm.ClassFile.FieldType.int)).before args0 about1 = true := code_word (m := ⟨12, 12⟩) (meth := k12m12) (c := k12c12) (by decide +kernel) rfl rfl rfl (by decide +kernel)
def codes1 : List Jvm.Cond := [Jvm.Cond.code x code maxLocals ret, Jvm.Cond.code ({ cls := "com/example/lynceus/lynceus/BagIsPrintablePinLaw", name := "draw", desc := "(I)C" } : Jvm.MethodName) method_2_code (2 : Nat) (Option.some Jvm.ClassFile.FieldType.char), Jvm.Cond.code ({ cls := "java/lang/String", name := "<init>", desc := "([C)V" } : Jvm.MethodName) jdk_42_method_3_code (2 : Nat) (Option.none : Option Jvm.ClassFile.FieldType), Jvm.Cond.code ({ cls := "java/lang/String", name := "<init>", desc := "([CIILjava/lang/Void;)V" } : Jvm.MethodName) jdk_42_method_149_code (6 : Nat) (Option.none : Option Jvm.ClassFile.FieldType), Jvm.Cond.code ({ cls := "java/lang/Object", name := "<init>", desc := "()V" } : Jvm.MethodName) object_method_1_code (1 : Nat) (Option.none : Option Jvm.ClassFile.FieldType), Jvm.Cond.code ({ cls := "com/example/lynceus/lynceus/Bag", name := "isPrintable", desc := "(Ljava/lang/String;)Z" } : Jvm.MethodName) prog_1_method_3_code (1 : Nat) (Option.some Jvm.ClassFile.FieldType.boolean), Jvm.Cond.code ({ cls := "java/lang/String", name := "indexOf", desc := "(I)I" } : Jvm.MethodName) jdk_42_method_79_code (2 : Nat) (Option.some Jvm.ClassFile.FieldType.int), Jvm.Cond.code ({ cls := "java/lang/String", name := "indexOf", desc := "(II)I" } : Jvm.MethodName) jdk_42_method_80_code (3 : Nat) (Option.some Jvm.ClassFile.FieldType.int), Jvm.Cond.code ({ cls := "java/lang/String", name := "isLatin1", desc := "()Z" } : Jvm.MethodName) jdk_42_method_154_code (1 : Nat) (Option.some Jvm.ClassFile.FieldType.boolean), Jvm.Cond.code ({ cls := "java/lang/String", name := "length", desc := "()I" } : Jvm.MethodName) jdk_42_method_54_code (1 : Nat) (Option.some Jvm.ClassFile.FieldType.int), Jvm.Cond.code ({ cls := "java/lang/String", name := "coder", desc := "()B" } : Jvm.MethodName) jdk_42_method_152_code (1 : Nat) (Option.some Jvm.ClassFile.FieldType.byte), Jvm.Cond.code ({ cls := "java/lang/StringLatin1", name := "indexOf", desc := "([BIII)I" } : Jvm.MethodName) jdk_43_method_22_code (4 : Nat) (Option.some Jvm.ClassFile.FieldType.int), Jvm.Cond.code ({ cls := "java/lang/StringLatin1", name := "canEncode", desc := "(I)Z" } : Jvm.MethodName) jdk_43_method_4_code (1 : Nat) (Option.some Jvm.ClassFile.FieldType.boolean), Jvm.Cond.code ({ cls := "java/lang/Math", name := "max", desc := "(II)I" } : Jvm.MethodName) jdk_29_method_65_code (2 : Nat) (Option.some Jvm.ClassFile.FieldType.int), Jvm.Cond.code ({ cls := "java/lang/Math", name := "min", desc := "(II)I" } : Jvm.MethodName) jdk_29_method_69_code (2 : Nat) (Option.some Jvm.ClassFile.FieldType.int), Jvm.Cond.code ({ cls := "java/lang/StringUTF16", name := "compress", desc := "([CII)[B" } : Jvm.MethodName) jdk_52_method_16_code (6 : Nat) (Option.some (Jvm.ClassFile.FieldType.array Jvm.ClassFile.FieldType.byte)), Jvm.Cond.code ({ cls := "java/lang/StringUTF16", name := "compress", desc := "([CI[BII)I" } : Jvm.MethodName) jdk_52_method_21_code (7 : Nat) (Option.some Jvm.ClassFile.FieldType.int), Jvm.Cond.code ({ cls := "java/lang/StringUTF16", name := "coderFromArrayLen", desc := "([BI)B" } : Jvm.MethodName) jdk_52_method_15_code (2 : Nat) (Option.some Jvm.ClassFile.FieldType.byte), Jvm.Cond.code ({ cls := "com/example/lynceus/lynceus/BagIsPrintablePinLaw", name := "bad", desc := "(C)Z" } : Jvm.MethodName) method_3_code (1 : Nat) (Option.some Jvm.ClassFile.FieldType.boolean), Jvm.Cond.code ({ cls := "java/lang/StringLatin1", name := "indexOfChar", desc := "([BIII)I" } : Jvm.MethodName) jdk_43_method_23_code (6 : Nat) (Option.some Jvm.ClassFile.FieldType.int), Jvm.Cond.code ({ cls := "java/lang/StringUTF16", name := "toBytes", desc := "([CII)[B" } : Jvm.MethodName) jdk_52_method_14_code (5 : Nat) (Option.some (Jvm.ClassFile.FieldType.array Jvm.ClassFile.FieldType.byte)), Jvm.Cond.code ({ cls := "java/lang/StringUTF16", name := "newBytesFor", desc := "(I)[B" } : Jvm.MethodName) jdk_52_method_2_code (1 : Nat) (Option.some (Jvm.ClassFile.FieldType.array Jvm.ClassFile.FieldType.byte)), Jvm.Cond.code ({ cls := "java/lang/StringUTF16", name := "newBytesLength", desc := "(I)I" } : Jvm.MethodName) jdk_52_method_3_code (1 : Nat) (Option.some Jvm.ClassFile.FieldType.int), Jvm.Cond.code ({ cls := "java/lang/StringUTF16", name := "putChar", desc := "([BII)V" } : Jvm.MethodName) jdk_52_method_4_code (3 : Nat) (Option.none : Option Jvm.ClassFile.FieldType), Jvm.Cond.code ({ cls := "java/lang/StringUTF16", name := "getChar", desc := "([BI)C" } : Jvm.MethodName) jdk_52_method_5_code (2 : Nat) (Option.some Jvm.ClassFile.FieldType.char), Jvm.Cond.code ({ cls := "java/lang/StringUTF16", name := "indexOf", desc := "([BIII)I" } : Jvm.MethodName) jdk_52_method_40_code (4 : Nat) (Option.some Jvm.ClassFile.FieldType.int), Jvm.Cond.code ({ cls := "java/lang/StringUTF16", name := "indexOfChar", desc := "([BIII)I" } : Jvm.MethodName) jdk_52_method_47_code (4 : Nat) (Option.some Jvm.ClassFile.FieldType.int), Jvm.Cond.code ({ cls := "java/lang/StringUTF16", name := "checkBoundsBeginEnd", desc := "(II[B)V" } : Jvm.MethodName) jdk_52_method_93_code (3 : Nat) (Option.none : Option Jvm.ClassFile.FieldType), Jvm.Cond.code ({ cls := "java/lang/StringUTF16", name := "length", desc := "([B)I" } : Jvm.MethodName) jdk_52_method_6_code (1 : Nat) (Option.some Jvm.ClassFile.FieldType.int), Jvm.Cond.code ({ cls := "java/lang/String", name := "checkBoundsBeginEnd", desc := "(III)V" } : Jvm.MethodName) jdk_42_method_158_code (3 : Nat) (Option.none : Option Jvm.ClassFile.FieldType), Jvm.Cond.code ({ cls := "jdk/internal/util/Preconditions", name := "checkFromToIndex", desc := "(IIILjava/util/function/BiFunction;)I" } : Jvm.MethodName) jdk_41_method_12_code (4 : Nat) (Option.some Jvm.ClassFile.FieldType.int), Jvm.Cond.code ({ cls := "java/lang/StringUTF16", name := "indexOfCharUnsafe", desc := "([BIII)I" } : Jvm.MethodName) jdk_52_method_48_code (5 : Nat) (Option.some Jvm.ClassFile.FieldType.int)]
set_option maxRecDepth 65536 in
theorem codes_eq : words1.filter isCode = codes1 := rfl
theorem w_codes : ∀ c ∈ words1.filter isCode, c.before args0 about1 = true := by
  rw [codes_eq]
  intro c hc
  simp only [codes1, List.mem_cons, List.not_mem_nil, or_false] at hc
  rcases hc with rfl | rfl | rfl | rfl | rfl | rfl | rfl | rfl | rfl | rfl | rfl | rfl | rfl | rfl | rfl | rfl | rfl | rfl | rfl | rfl | rfl | rfl | rfl | rfl | rfl | rfl | rfl | rfl | rfl | rfl | rfl | rfl
  · exact w_c0
  · exact w_c1
  · exact w_c2
  · exact w_c3
  · exact w_c4
  · exact w_c5
  · exact w_c6
  · exact w_c7
  · exact w_c8
  · exact w_c9
  · exact w_c10
  · exact w_c11
  · exact w_c12
  · exact w_c13
  · exact w_c14
  · exact w_c15
  · exact w_c16
  · exact w_c17
  · exact w_c18
  · exact w_c19
  · exact w_c20
  · exact w_c21
  · exact w_c22
  · exact w_c23
  · exact w_c24
  · exact w_c25
  · exact w_c26
  · exact w_c27
  · exact w_c28
  · exact w_c29
  · exact w_c30
  · exact w_c31
set_option maxRecDepth 65536 in
theorem w_t1 : (words1.take 24).all (fun c => isCode c || c.before args0 about1) = true := by decide +kernel
set_option maxRecDepth 65536 in
theorem w_t2 : ((words1.drop 24).take 24).all (fun c => isCode c || c.before args0 about1) = true := by decide +kernel
set_option maxRecDepth 65536 in
theorem w_t3 : (((words1.drop 24).drop 24).take 24).all (fun c => isCode c || c.before args0 about1) = true := by decide +kernel
set_option maxRecDepth 65536 in
theorem w_t4 : ((((words1.drop 24).drop 24).drop 24).take 24).all (fun c => isCode c || c.before args0 about1) = true := by decide +kernel
set_option maxRecDepth 65536 in
theorem w_t5 : (((((words1.drop 24).drop 24).drop 24).drop 24).take 24).all (fun c => isCode c || c.before args0 about1) = true := by decide +kernel
set_option maxRecDepth 65536 in
theorem w_t6 : (((((words1.drop 24).drop 24).drop 24).drop 24).drop 24).all (fun c => isCode c || c.before args0 about1) = true := by decide +kernel
theorem w_tables : (allAtoms (Jvm.Cond.code x code maxLocals ret :: tables_1)).before args0 about1 = true := by
  rw [allAtoms_all]
  show words1.all (fun c => c.before args0 about1) = true
  refine all_split ?_ w_codes
  rw [← List.take_append_drop 24 words1, List.all_append, w_t1, ← List.take_append_drop 24 (words1.drop 24), List.all_append, w_t2, ← List.take_append_drop 24 ((words1.drop 24).drop 24), List.all_append, w_t3, ← List.take_append_drop 24 (((words1.drop 24).drop 24).drop 24), List.all_append, w_t4, ← List.take_append_drop 24 ((((words1.drop 24).drop 24).drop 24).drop 24), List.all_append, w_t5, w_t6]
  rfl
set_option maxRecDepth 65536 in
theorem w_rest : rest_1_c.before args0 about1 = true := by decide +kernel
set_option maxRecDepth 65536 in
theorem w_case : (Jvm.Cond.and given_1 narrow_1).before args0 about1 = true := by decide +kernel
set_option maxRecDepth 65536 in
theorem w_consts : constsHeld consts_1 about1 := Jvm.Lit.constsHeldB_iff.mp (by decide +kernel)
theorem w_applies : (headSpec (Jvm.Cond.code x code maxLocals ret :: tables_1) room_1).applies x e0.platform about1 = true :=
  (Spec.applies_iff w_frames).mpr ⟨w_running, w_runnable, w_alone, w_named, w_hears, w_ripe, w_room, w_tables⟩
theorem atStart : AtStart classFile x code maxLocals ret World_1 tables_1 room_1 Calls_1 rest_1 Pre_1 launch0 p0 e0 about1 theMethod args0 below0 :=
  ⟨lists_1, trivial, launch0.admits_env _ _ _, launch0.least_env, fairChoices_fair.cas, fairChoices_fair.clock, w_frames, w_args, w_heap, w_applies, ⟨w_consts, trivial⟩, w_rest, w_case⟩
end start1
theorem witness_1 : WitnessClaimed_1 := ⟨start1.p0, start1.e0, start1.about1, start1.theMethod, start1.args0, start1.below0, start1.atStart⟩
end Jvm.Pilot.@@N@@
