import JvmDerived
import JvmDerived.Pilot.@@N@@Statement
import JvmDerived.Pilot.@@N@@Code
set_option linter.unusedVariables false
set_option linter.unusedSimpArgs false
namespace Jvm.OwnW
open Sem ClassFile Op Lib Jvm.Stand Jvm.Free Jvm.LawKit Jvm.RoadKit
theorem adr_ne {a b : Nat} (h : a < b ∨ b < a) : @Ne Addr a b := fun z => by
  have z : @Eq Nat a b := z
  omega
/-- what was written lies in one of 'ws' or is new -/
def Fw (ws : List Addr) (N : Nat) (L : List Loc) : Prop := ∀ y ∈ L, y.base ∈ ws ∨ N ≤ y.base
theorem Fw.nil (ws : List Addr) (N : Nat) : Fw ws N [] := fun _ q => nomatch q
theorem Fw.app {ws : List Addr} {N : Nat} {L L' : List Loc} (A : Fw ws N L) (B : Fw ws N L') : Fw ws N (L ++ L') := fun y q => (List.mem_append.mp q).elim (A y) (B y)
theorem Fw.snoc {ws : List Addr} {N : Nat} {L : List Loc} {a : Addr} {sl : Nat} (A : Fw ws N L) (q : a ∈ ws ∨ N ≤ a) : Fw ws N (L ++ [⟨a, sl⟩]) := A.app fun y hy => by cases List.mem_singleton.mp hy; exact q
/-- where a walk stands: what was written is new, the heap, the figures within the room -/
def Pos (p : Program) (l : Launch) (e : Env) (R : Room) (s : State) (m : MethodId) (args : Array Value) (below : List Frame) (meth : Method) (c : Code) (Z : State) (own : String) (ws : List Addr) (bd : Nat) (T : State) (h : Heap) (k n : Nat) : Prop :=
  (∃ locs, Stand p l e R s m args below meth c T locs k n ∧ Fw ws bd locs) ∧ T.heap = h ∧ bd ≤ h.size ∧ Z.Warmed39 s.vm ∧ p.tables.exec = Jvm.exec ∧ s.vm.findClass own = some m.cls ∧ meth.locks = false ∧ k ≤ R.cells ∧ n ≤ R.slots
/-- the walk that stands at the frame g in T comes to its return, and Q holds of what it returns and of the heap it leaves -/
def Done (p : Program) (l : Launch) (e : Env) (R : Room) (s : State) (m : MethodId) (args : Array Value) (below : List Frame) (meth : Method) (c : Code) (Z : State) (own : String) (ws : List Addr) (bd : Nat) (Q : Option Value → Heap → Prop) (T : State) (g : JFrame) : Prop :=
  ∃ v T' h' k n, Pos p l e R s m args below meth c Z own ws bd T' h' k n ∧ (meth.sig.returnType = none → v = none) ∧ Q v h' ∧
    ∀ fs, (∀ (f : JFrame) (acts : List Action), f.method = m → f.locked = none → f.entered = [] → (doReturn e (T'.setTop f) acts v).1 = T'.setFrames fs) → Steps p.tables e below (T.setTop g) (T'.setFrames fs)
/-- a method's contract, asked at one heap and one row of arguments; it writes what lies in 'ws' and what it makes, alone -/
def OMet (l : Launch) (y : MethodName) (bytes : ByteArray) (maxL : Nat) (ret : Option FieldType) (wd : List Cond) (rm : Room) (Z : State) (h : Heap) (ws : List Addr) (as' : Array Value) (Q : Option Value → Heap → Prop) : Prop :=
  MetFree l y (head1 (Cond.code y bytes maxL ret :: wd) rm) (fun a U => a = as' ∧ Z.Warmed39 U.vm ∧ U.heap = h) (fun _ _ _ _ _ => True) (fun _ U o U' => ∃ v L, o = .returned v ∧ (Q v U'.heap ∧ Fw ws h.size L ∧ Keep h U'.heap ws) ∧ FrameEnd U o U' L rm.cells rm.slots)
section A
variable {p : Program} {l : Launch} {e : Env} {R : Room} {s : State} {m : MethodId} {args : Array Value} {below : List Frame} {meth : Method} {c : Code} {Z : State} {own : String} {ws : List Addr} {bd : Nat} {T : State} {h h' : Heap} {k n : Nat} {a0 : Array Value} {Q : Option Value → Heap → Prop} {pc pc' : Nat} {Ls : Array Slot} {st : List Value} {T₁ : State} {g₁ : JFrame}
theorem Pos.here (P : Pos p l e R s m args below meth c Z own ws bd T h k n) : At T m c below := by obtain ⟨⟨_, X, _⟩, _⟩ := P; exact X.here
theorem Pos.x (P : Pos p l e R s m args below meth c Z own ws bd T h k n) : p.tables.exec = Jvm.exec := P.2.2.2.2.1
theorem Pos.ge (P : Pos p l e R s m args below meth c Z own ws bd T h k n) : bd ≤ h.size := P.2.2.1
theorem Pos.wa (P : Pos p l e R s m args below meth c Z own ws bd T h k n) : Z.Warmed39 s.vm := P.2.2.2.1
theorem Pos.more (P : Pos p l e R s m args below meth c Z own ws bd T h k n) {k' n' : Nat} (hk : k ≤ k') (hn : n ≤ n') (hk' : k' ≤ R.cells) (hn' : n' ≤ R.slots) : Pos p l e R s m args below meth c Z own ws bd T h k' n' := by
  obtain ⟨⟨L, X, N'⟩, a, b, c, d, f, g, _, _⟩ := P
  exact ⟨⟨L, X.more hk hn, N'⟩, a, b, c, d, f, g, hk', hn'⟩
theorem Pos.cast {k' n' : Nat} (P : Pos p l e R s m args below meth c Z own ws bd T h k n) (hk : k = k') (hn : n = n') : Pos p l e R s m args below meth c Z own ws bd T h k' n' := by subst hk hn; exact P
theorem Done.step {T' : State} {g g' : JFrame} (hs : ∀ t, Steps p.tables e below (T'.setTop g') t → Steps p.tables e below (T.setTop g) t) (D : Done p l e R s m args below meth c Z own ws bd Q T' g') : Done p l e R s m args below meth c Z own ws bd Q T g := by
  obtain ⟨v, T1, h1, k1, n1, P, hv, hq, st⟩ := D
  exact ⟨v, T1, h1, k1, n1, P, hv, hq, fun fs hl => hs _ (st fs hl)⟩
theorem Done.imp {Q' : Option Value → Heap → Prop} {g : JFrame} (D : Done p l e R s m args below meth c Z own ws bd Q T g) (q : ∀ v h, Q v h → Q' v h) : Done p l e R s m args below meth c Z own ws bd Q' T g := by
  obtain ⟨v, T1, h1, k1, n1, P, hv, hq, st⟩ := D
  exact ⟨v, T1, h1, k1, n1, P, hv, q _ _ hq, st⟩
theorem keepOf {u : State} {L : List Loc} (q : s.sameButNew u L k n) (F : Fw ws s.heap.size L) : Keep s.heap u.heap ws := by
  obtain ⟨-, h1, -, -, -, H⟩ := q
  refine ⟨h1, fun x cl hx hn => ?_, fun x cl hx => ?_⟩
  · obtain ⟨c', e1, e2, e3, e4⟩ := H x cl hx
    have hlt := (Array.getElem?_eq_some_iff.mp hx).1
    have es : c'.slots = cl.slots := by
      apply Array.ext_getElem?
      intro i
      exact e4 i fun hm => (F _ hm).elim (fun z => hn z) (fun z => absurd z (Nat.not_le.mpr hlt))
    rw [e1, e2, es]
  · obtain ⟨c', e1, e2, e3, e4⟩ := H x cl hx
    exact ⟨c', e1, by rw [e2], by rw [e2], e3⟩
/-- a contract out of a walk -/
theorem OMet.of {y : MethodName} {bytes : ByteArray} {maxL : Nat} {ret : Option FieldType} {wd : List Cond} {rm : Room} {as' : Array Value} {nm : String} (hy : plainFor y = true) (hyc : y.cls = own) (hyn : y.name = nm)
    (H : ∀ p e s m below meth c s₁, Pos p l e rm s m as' below meth c Z own ws h.size s₁ h 0 0 → c.code = bytes → c.maxLocals = maxL → meth.sig.returnType = ret → meth.name = nm → Done p l e rm s m as' below meth c Z own ws h.size Q s₁ (entryFrame m as' maxL)) :
    OMet l y bytes maxL ret wd rm Z h ws as' Q := by
  subst hyc hyn
  refine MetFree.of_bodySF hy hisR ?_
  intro p e s m args below meth c s₁ Bd hml hP hK
  obtain ⟨rfl, hZ, hh⟩ := hP
  have hown : s.vm.findClass y.cls = some m.cls := findClass_of_methodNamed Bd.named
  have hnm := (name_of_methodNamed Bd.named Bd.method).1
  have X0 : Stand p l e rm s m args below meth c s₁ [] 0 0 := Stand.of_body Bd
  have e0 : s₁.heap = h := by rw [← hh, Bd.state]; rfl
  obtain ⟨v, T', h', k, n, ⟨⟨L, X, N⟩, eT, _, _, _, _, hlk, hk, hnn⟩, hv, hq, st⟩ := H p e s m below meth c s₁ ⟨⟨[], X0, Fw.nil _ _⟩, e0, Nat.le_refl _, hZ, Bd.exec, hown, Bd.notSynchronized, Nat.zero_le _, Nat.zero_le _⟩ Bd.bytes hml Bd.returns hnm
  obtain ⟨fs, hr, hrun, hended, hW, hsame⟩ := X.leave (v := v) hv hlk
  refine ⟨_, _, st fs hr, hrun, hended, v, L, rfl, ⟨?_, N, ?_⟩, ⟨_, rfl⟩, hW, hsame.mono hk hnn⟩
  · rw [show (T'.setFrames fs).heap = T'.heap from rfl, eT]
    exact hq
  · subst hh
    have q := keepOf hsame N
    exact q
/-! returns -/
theorem wRet {w : Value} {t : FieldType} {i : Instr} (P : Pos p l e R s m args below meth c Z own ws bd T h k n) (hret : meth.sig.returnType = some t) (hn : narrow t w = w)
    (hi : (i = .ireturn ∧ (t = .int ∨ t = .boolean ∨ t = .byte ∨ t = .char ∨ t = .short) ∧ ∃ z, w = .int z) ∨ (i = .lreturn ∧ t = .long ∧ ∃ z, w = .long z) ∨ (i = .dreturn ∧ t = .double ∧ ∃ z, w = .double z) ∨ (i = .freturn ∧ t = .float ∧ ∃ z, w = .float z) ∨ (i = .areturn ∧ t.isReference = true ∧ w.isRef = true))
    (hd : decode c.code pc = .ok (i, 1)) (hq : Q (some w) h) : Done p l e R s m args below meth c Z own ws bd Q T (mkF m pc Ls (w :: st)) := by
  obtain ⟨⟨L, X, N'⟩, r⟩ := id P
  exact ⟨some w, T, h, k, n, P, (fun q => by rw [hret] at q; cases q), hq, fun fs hl => retOut X P.x hret hn hi hd hl⟩
theorem wRetI {z : Int32} (P : Pos p l e R s m args below meth c Z own ws bd T h k n) (hret : meth.sig.returnType = some .int) (hd : decode c.code pc = .ok (.ireturn, 1)) (hq : Q (some (.int z)) h) : Done p l e R s m args below meth c Z own ws bd Q T (mkF m pc Ls (.int z :: st)) :=
  wRet P hret rfl (Or.inl ⟨rfl, Or.inl rfl, z, rfl⟩) hd hq
theorem wRetJ {z : Int64} (P : Pos p l e R s m args below meth c Z own ws bd T h k n) (hret : meth.sig.returnType = some .long) (hd : decode c.code pc = .ok (.lreturn, 1)) (hq : Q (some (.long z)) h) : Done p l e R s m args below meth c Z own ws bd Q T (mkF m pc Ls (.long z :: st)) :=
  wRet P hret rfl (Or.inr (Or.inl ⟨rfl, rfl, z, rfl⟩)) hd hq
theorem wRetD {z : UInt64} (P : Pos p l e R s m args below meth c Z own ws bd T h k n) (hret : meth.sig.returnType = some .double) (hd : decode c.code pc = .ok (.dreturn, 1)) (hq : Q (some (.double z)) h) : Done p l e R s m args below meth c Z own ws bd Q T (mkF m pc Ls (.double z :: st)) :=
  wRet P hret rfl (Or.inr (Or.inr (Or.inl ⟨rfl, rfl, z, rfl⟩))) hd hq
theorem wRetA {w : Value} {t : FieldType} (P : Pos p l e R s m args below meth c Z own ws bd T h k n) (hret : meth.sig.returnType = some t) (ht : t.isReference = true) (hw : w.isRef = true) (hd : decode c.code pc = .ok (.areturn, 1)) (hq : Q (some w) h) : Done p l e R s m args below meth c Z own ws bd Q T (mkF m pc Ls (w :: st)) :=
  wRet P hret (by cases w <;> first | rfl | (simp [Value.isRef] at hw; done) | (cases t <;> first | rfl | (simp [FieldType.isReference] at ht))) (Or.inr (Or.inr (Or.inr (Or.inr ⟨rfl, ht, hw⟩)))) hd hq
theorem wRetN {z : Int32} {t : FieldType} (P : Pos p l e R s m args below meth c Z own ws bd T h k n) (hret : meth.sig.returnType = some t) (ht : t = .boolean ∨ t = .byte ∨ t = .char ∨ t = .short) (hd : decode c.code pc = .ok (.ireturn, 1)) (hq : Q (some (.int (nar t z))) h) : Done p l e R s m args below meth c Z own ws bd Q T (mkF m pc Ls (.int z :: st)) := by
  obtain ⟨⟨L, X, N'⟩, r⟩ := id P
  exact ⟨_, T, h, k, n, P, (fun q => by rw [hret] at q; cases q), hq, fun fs hl => retN X P.x hret ht hd hl⟩
theorem wRetV (P : Pos p l e R s m args below meth c Z own ws bd T h k n) (hret : meth.sig.returnType = none) (hd : decode c.code pc = .ok (.return_, 1)) (hq : Q none h) : Done p l e R s m args below meth c Z own ws bd Q T (mkF m pc Ls []) := by
  obtain ⟨⟨L, X, N'⟩, r⟩ := id P
  exact ⟨none, T, h, k, n, P, fun _ => rfl, hq, fun fs hl => X.returnOut P.x hret hd hl⟩
/-! fields -/
theorem wGet {R0 O nm d host : String} {index : Nat} {a : Addr} {v : Value} (P : Pos p l e R s m args below meth c Z own ws bd T h k n) (w : (Cond.fieldLink own index R0 nm d).before a0 Z = true ∨ (Cond.fieldLinkNest own index R0 nm d host).before a0 Z = true) (via : Via Z R0 O nm d) (F : Fld Z h a O nm d v)
    (hd : decode c.code pc = .ok (.getfield index, 3)) (hp : pc + 3 = pc') (K : ∀ T', Pos p l e R s m args below meth c Z own ws bd T' h k n → Done p l e R s m args below meth c Z own ws bd Q T' (mkF m pc' Ls (v :: st))) : Done p l e R s m args below meth c Z own ws bd Q T (mkF m pc Ls (.ref a :: st)) := by
  obtain ⟨⟨L, X, N'⟩, eT, b, hZ, hx, ho, r⟩ := id P
  obtain ⟨T', X', e', stp⟩ := getF X hx hZ ho w via eT F (g := mkF m pc Ls (.ref a :: st)) rfl rfl hd
  subst hp
  exact Done.step stp (K T' ⟨⟨L, X', N'⟩, e', b, hZ, hx, ho, r⟩)
theorem wGetS {R0 O nm d host : String} {index : Nat} {v : Value} (P : Pos p l e R s m args below meth c Z own ws bd T h k n) (w : (Cond.fieldLink own index R0 nm d).before a0 Z = true ∨ (Cond.fieldLinkNest own index R0 nm d host).before a0 Z = true) (via : Via Z R0 O nm d) (F : Sta Z h O nm d v)
    (hd : decode c.code pc = .ok (.getstatic index, 3)) (hp : pc + 3 = pc') (K : ∀ T', Pos p l e R s m args below meth c Z own ws bd T' h k n → Done p l e R s m args below meth c Z own ws bd Q T' (mkF m pc' Ls (v :: st))) : Done p l e R s m args below meth c Z own ws bd Q T (mkF m pc Ls st) := by
  obtain ⟨⟨L, X, N'⟩, eT, b, hZ, hx, ho, r⟩ := id P
  obtain ⟨T', X', e', stp⟩ := getS2 X hx hZ ho w via eT F (g := mkF m pc Ls st) rfl hd
  subst hp
  exact Done.step stp (K T' ⟨⟨L, X', N'⟩, e', b, hZ, hx, ho, r⟩)
theorem wPut {R0 O nm d host C : String} {index kk : Nat} {ty : FieldType} {a : Addr} {v old : Value} (P : Pos p l e R s m args below meth c Z own ws bd T h k n) (w : (Cond.fieldLink own index R0 nm d).before a0 Z = true ∨ (Cond.fieldLinkNest own index R0 nm d host).before a0 Z = true) (via : Via Z R0 O nm d) (F : Fld Z h a O nm d old) (E : Exa Z h a C)
    (La : (Cond.lays C O nm d).before a0 Z = true ∨ ((Cond.laysFinal C O nm d).before a0 Z = true ∧ own = O ∧ meth.name = "<init>")) (wi : (Cond.instantiable C kk).before a0 Z = true) (hty : parseFieldDescriptor d = some ty) (hn : narrow ty v = v) (hf : fits ty v = true) (hge : a ∈ ws ∨ bd ≤ a)
    (hd : decode c.code pc = .ok (.putfield index, 3)) (hp : pc + 3 = pc') (K : ∀ T' h', Pos p l e R s m args below meth c Z own ws bd T' h' k n → Wr h h' a (Jvm.RoadKit.slotOf Z O nm d) v → Fld Z h' a O nm d v → Done p l e R s m args below meth c Z own ws bd Q T' (mkF m pc' Ls st)) : Done p l e R s m args below meth c Z own ws bd Q T (mkF m pc Ls (v :: .ref a :: st)) := by
  obtain ⟨⟨L, X, N'⟩, eT, b, hZ, hx, ho, r⟩ := id P
  obtain ⟨T', h', X', e', W, stp⟩ := putF X hx hZ ho w via eT F E La wi hty hn hf (g := mkF m pc Ls (v :: .ref a :: st)) rfl rfl hd
  subst hp
  exact Done.step stp (K T' h' ⟨⟨_, X', Fw.snoc N' hge⟩, e', by rw [W.size]; exact b, hZ, hx, ho, r⟩ W (F.same W))
theorem wPutN {R0 O nm d C : String} {index kk : Nat} {ty : FieldType} {a : Addr} {x x' : Int32} {old : Value} (P : Pos p l e R s m args below meth c Z own ws bd T h k n) (w : (Cond.fieldLink own index R0 nm d).before a0 Z = true) (via : Via Z R0 O nm d) (F : Fld Z h a O nm d old) (E : Exa Z h a C)
    (La : (Cond.lays C O nm d).before a0 Z = true ∨ ((Cond.laysFinal C O nm d).before a0 Z = true ∧ own = O ∧ meth.name = "<init>")) (wi : (Cond.instantiable C kk).before a0 Z = true) (hty : parseFieldDescriptor d = some ty) (hn : narrow ty (.int x) = .int x') (hf : fits ty (.int x') = true) (hge : a ∈ ws ∨ bd ≤ a)
    (hd : decode c.code pc = .ok (.putfield index, 3)) (hp : pc + 3 = pc') (K : ∀ T' h', Pos p l e R s m args below meth c Z own ws bd T' h' k n → Wr h h' a (Jvm.RoadKit.slotOf Z O nm d) (.int x') → Fld Z h' a O nm d (.int x') → Done p l e R s m args below meth c Z own ws bd Q T' (mkF m pc' Ls st)) : Done p l e R s m args below meth c Z own ws bd Q T (mkF m pc Ls (.int x :: .ref a :: st)) := by
  obtain ⟨⟨L, X, N'⟩, eT, b, hZ, hx, ho, r⟩ := id P
  obtain ⟨T', h', X', e', W, stp⟩ := putFN X hx hZ ho w via eT F E La wi (v' := .int x') hty hn hf (g := mkF m pc Ls (.int x :: .ref a :: st)) rfl rfl hd
  subst hp
  exact Done.step stp (K T' h' ⟨⟨_, X', Fw.snoc N' hge⟩, e', by rw [W.size]; exact b, hZ, hx, ho, r⟩ W (F.same W))
/-! objects and arrays -/
theorem wNew {C : String} {index nn : Nat} (P : Pos p l e R s m args below meth c Z own ws bd T h k n) (w : (Cond.classLink own index C).before a0 Z = true) (wi : (Cond.instantiable C nn).before a0 Z = true) (wz : (Cond.initialized C).before a0 Z = true)
    (hd : decode c.code pc = .ok (.new index, 3)) (hp : pc + 3 = pc') (hc : k + 1 ≤ R.cells) (hl : n + nn ≤ R.slots) {k' n' : Nat} (hk' : k + 1 = k') (hn' : n + nn = n')
    (K : ∀ T' h' a, a = h.size → h.size < h'.size → Pos p l e R s m args below meth c Z own ws bd T' h' k' n' → Ext h h' → Exa Z h' a C → (∀ {O nm d : String} {ty : FieldType}, Laid Z a0 C O nm d → parseFieldDescriptor d = some ty → Fld Z h' a O nm d (defaultValue ty)) → Done p l e R s m args below meth c Z own ws bd Q T' (mkF m pc' Ls (.ref a :: st))) : Done p l e R s m args below meth c Z own ws bd Q T (mkF m pc Ls st) := by
  obtain ⟨⟨L, X, N'⟩, eT, b, hZ, hx, ho, hlk, _, _⟩ := id P
  obtain ⟨T', h', X', e', E, A, D, -, stp⟩ := newO X hx hZ ho w wi wz eT (g := mkF m pc Ls st) rfl hd hc hl
  subst hp hk' hn'
  exact Done.step stp (K T' h' h.size rfl A.lt ⟨⟨L, X', N'⟩, e', Nat.le_trans b E.1, hZ, hx, ho, hlk, hc, hl⟩ E A D)
/-- an array by its places' values -/
def Ar (Z : State) (h : Heap) (a : Addr) (ty : FieldType) (n : Nat) (f : Nat → Value) : Prop := ∃ cl : Cell, Arr Z h a cl ty ∧ cl.slots.size = n ∧ n < 2147483648 ∧ ∀ i, i < n → cl.slots[i]? = some (f i)
def oupd {α : Type} (f : Nat → α) (i : Nat) (v : α) : Nat → α := fun j => if j = i then v else f j
theorem oupd_same {α : Type} (f : Nat → α) (i : Nat) (v : α) : oupd f i v i = v := if_pos rfl
theorem oupd_ne {α : Type} {f : Nat → α} {i j : Nat} {v : α} (q : j ≠ i) : oupd f i v j = f j := if_neg q
theorem Ar.lt {a : Addr} {ty : FieldType} {N : Nat} {f : Nat → Value} (A : Ar Z h a ty N f) : a < h.size := by obtain ⟨c, A, -⟩ := A; exact A.lt
theorem Ar.ext {a : Addr} {ty : FieldType} {N : Nat} {f : Nat → Value} (A : Ar Z h a ty N f) (E : Ext h h') : Ar Z h' a ty N f := by obtain ⟨c, A, r⟩ := A; exact ⟨c, A.ext E, r⟩
theorem Ar.other {a b : Addr} {sl : Nat} {v : Value} {ty : FieldType} {N : Nat} {f : Nat → Value} (A : Ar Z h b ty N f) (W : Wr h h' a sl v) (q : b ≠ a) : Ar Z h' b ty N f := by obtain ⟨c, A, r⟩ := A; exact ⟨c, A.other W q, r⟩
theorem Ar.keep {a : Addr} {ws : List Addr} {ty : FieldType} {N : Nat} {f : Nat → Value} (A : Ar Z h a ty N f) (K : Keep h h' ws) (q : a ∉ ws) : Ar Z h' a ty N f := by obtain ⟨c, A, r⟩ := A; exact ⟨c, ⟨K.2.1 a c A.1 q, A.2⟩, r⟩
theorem Ar.len {a : Addr} {ty : FieldType} {N : Nat} {f : Nat → Value} (A : Ar Z h a ty N f) : N < 2147483648 := by obtain ⟨c, A, r1, r2, -⟩ := A; exact r2
theorem Ar.congr {a : Addr} {ty : FieldType} {N : Nat} {f g : Nat → Value} (A : Ar Z h a ty N f) (q : ∀ i, i < N → f i = g i) : Ar Z h a ty N g := by obtain ⟨c, A, r1, r2, r3⟩ := A; exact ⟨c, A, r1, r2, fun i hi => by rw [← q i hi]; exact r3 i hi⟩
theorem in_of {cl : Cell} {N i : Nat} {j : Int32} (S : cl.slots.size = N) (hj : j.toInt = (i : Int)) (hi : i < N) : ¬ (j < 0 ∨ cl.slots.size ≤ j.toNatClampNeg) ∧ j.toNatClampNeg = i := by
  have e : j.toNatClampNeg = i := by rw [Int32.toNatClampNeg, hj]; omega
  refine ⟨?_, e⟩
  rw [S, e, Int32.lt_iff_toInt_lt, hj, show (0 : Int32).toInt = 0 from rfl]
  omega
theorem toI32 {N : Nat} (h : N < 2147483648) : (N.toInt32).toInt = (N : Int) := by
  rw [show N.toInt32 = Int32.ofNat N from rfl, Int32.toInt_ofNat_of_lt (by omega)]
theorem wNewA {aty : ArrayType} {z : Int32} {N cap : Nat} (P : Pos p l e R s m args below meth c Z own ws bd T h k n) (w : (Cond.arrayClass (newarray.typeOf aty)).before a0 Z = true) (hd : decode c.code pc = .ok (.newarray aty, 2)) (hp : pc + 2 = pc') (hz : z.toInt = (N : Int)) (hcap : N ≤ cap) (hb : cap * 8 ≤ 536870912) (hc : k + 1 ≤ R.cells) (hl : n + cap ≤ R.slots)
    {ad : String} (had : "[" ++ (newarray.typeOf aty).toString = ad) {ty : FieldType} {dv : Value} (hty : newarray.typeOf aty = ty) (hdv : defaultValue ty = dv) {k' n' : Nat} (hk' : k + 1 = k') (hn' : n + cap = n')
    (K : ∀ T' h' a, a = h.size → h.size < h'.size → Pos p l e R s m args below meth c Z own ws bd T' h' k' n' → Ext h h' → Ar Z h' a ty N (fun _ => dv) → Exa Z h' a ad → Done p l e R s m args below meth c Z own ws bd Q T' (mkF m pc' Ls (.ref a :: st))) : Done p l e R s m args below meth c Z own ws bd Q T (mkF m pc Ls (.int z :: st)) := by
  obtain ⟨⟨L, X, N'⟩, eT, b, hZ, hx, ho, hlk, _, _⟩ := id P
  have hz0 : ¬ z < 0 := by rw [Int32.lt_iff_toInt_lt, hz, show (0 : Int32).toInt = 0 from rfl]; omega
  have hzn : z.toNatClampNeg = N := by rw [Int32.toNatClampNeg, hz]; omega
  have hN := z.toInt_lt
  obtain ⟨T', h', kA, X', e', E, A, Ex, stp⟩ := newPE X hx hZ w eT (g := mkF m pc Ls (.int z :: st)) rfl hd rfl hz0 (by rw [hzn]; exact hcap) hb hc hl had
  subst hp hk' hn' hty hdv
  refine Done.step stp (K T' h' h.size rfl A.lt ⟨⟨L, X', N'⟩, e', Nat.le_trans b E.1, hZ, hx, ho, hlk, hc, hl⟩ E ⟨_, A, by rw [sz_new, hzn], by omega, fun i hi => ?_⟩ Ex)
  simp [newA, hzn, hi]
theorem wLen {ty : FieldType} {N : Nat} {f : Nat → Value} {a : Addr} (P : Pos p l e R s m args below meth c Z own ws bd T h k n) (A : Ar Z h a ty N f) {z : Int32} (hz : z.toInt = (N : Int)) (hd : decode c.code pc = .ok (.arraylength, 1)) (hp : pc + 1 = pc')
    (K : Done p l e R s m args below meth c Z own ws bd Q T (mkF m pc' Ls (.int z :: st))) : Done p l e R s m args below meth c Z own ws bd Q T (mkF m pc Ls (.ref a :: st)) := by
  obtain ⟨⟨L, X, N'⟩, eT, b, hZ, hx, ho, hlk, _, _⟩ := id P
  obtain ⟨cl, Ar, S, hN, H⟩ := A
  subst hp
  refine Done.step (fun t kk => X.arraylength hx (by rw [eT]; exact Ar.1) (State.isArrayOf_alike hZ.alike Ar.2.1) (g := mkF m pc Ls (.ref a :: st)) rfl rfl hd t ?_) K
  rw [S, show N.toInt32 = z from Int32.toInt_inj.mp (by rw [toI32 hN, hz])]
  exact kk
theorem wDaload {N i : Nat} {f : Nat → Value} {a : Addr} {j : Int32} (P : Pos p l e R s m args below meth c Z own ws bd T h k n) (A : Ar Z h a .double N f) (hj : j.toInt = (i : Int)) (hi : i < N) {v : Value} (hv : f i = v) (hd : decode c.code pc = .ok (.daload, 1)) (hp : pc + 1 = pc')
    (K : Done p l e R s m args below meth c Z own ws bd Q T (mkF m pc' Ls (v :: st))) : Done p l e R s m args below meth c Z own ws bd Q T (mkF m pc Ls (.int j :: .ref a :: st)) := by
  obtain ⟨⟨L, X, N'⟩, eT, b, hZ, hx, ho, hlk, _, _⟩ := id P
  obtain ⟨cl, Ar, S, hN, H⟩ := A
  obtain ⟨q1, q2⟩ := in_of S hj hi
  subst hp hv
  exact Done.step (fun t kk => X.daload hx (by rw [eT]; exact Ar.1) (State.isArrayOf_alike hZ.alike Ar.2.1) Ar.2.2 q1 (by rw [q2]; exact H i hi) (g := mkF m pc Ls (.int j :: .ref a :: st)) rfl rfl hd t kk) K
theorem wIaload {N i : Nat} {f : Nat → Value} {a : Addr} {j : Int32} (P : Pos p l e R s m args below meth c Z own ws bd T h k n) (A : Ar Z h a .int N f) (hj : j.toInt = (i : Int)) (hi : i < N) {v : Value} (hv : f i = v) (hd : decode c.code pc = .ok (.iaload, 1)) (hp : pc + 1 = pc')
    (K : Done p l e R s m args below meth c Z own ws bd Q T (mkF m pc' Ls (v :: st))) : Done p l e R s m args below meth c Z own ws bd Q T (mkF m pc Ls (.int j :: .ref a :: st)) := by
  obtain ⟨⟨L, X, N'⟩, eT, b, hZ, hx, ho, hlk, _, _⟩ := id P
  obtain ⟨cl, Ar, S, hN, H⟩ := A
  obtain ⟨q1, q2⟩ := in_of S hj hi
  subst hp hv
  exact Done.step (fun t kk => X.iaload hx (by rw [eT]; exact Ar.1) (State.isArrayOf_alike hZ.alike Ar.2.1) Ar.2.2 q1 (by rw [q2]; exact H i hi) (g := mkF m pc Ls (.int j :: .ref a :: st)) rfl rfl hd t kk) K
theorem wCaload {N i : Nat} {f : Nat → Value} {a : Addr} {j : Int32} (P : Pos p l e R s m args below meth c Z own ws bd T h k n) (A : Ar Z h a .char N f) (hj : j.toInt = (i : Int)) (hi : i < N) {v : Value} (hv : f i = v) (hd : decode c.code pc = .ok (.caload, 1)) (hp : pc + 1 = pc')
    (K : Done p l e R s m args below meth c Z own ws bd Q T (mkF m pc' Ls (v :: st))) : Done p l e R s m args below meth c Z own ws bd Q T (mkF m pc Ls (.int j :: .ref a :: st)) := by
  obtain ⟨⟨L, X, N'⟩, eT, b, hZ, hx, ho, hlk, _, _⟩ := id P
  obtain ⟨cl, Ar, S, hN, H⟩ := A
  obtain ⟨q1, q2⟩ := in_of S hj hi
  subst hp hv
  exact Done.step (fun t kk => X.caload hx (by rw [eT]; exact Ar.1) (State.isArrayOf_alike hZ.alike Ar.2.1) Ar.2.2 q1 (by rw [q2]; exact H i hi) (g := mkF m pc Ls (.int j :: .ref a :: st)) rfl rfl hd t kk) K
theorem wAaload {N i : Nat} {f : Nat → Value} {a : Addr} {j : Int32} {ty : FieldType} (P : Pos p l e R s m args below meth c Z own ws bd T h k n) (A : Ar Z h a ty N f) (hty : ty.isReference = true) (hj : j.toInt = (i : Int)) (hi : i < N) {v : Value} (hv : f i = v) (hd : decode c.code pc = .ok (.aaload, 1)) (hp : pc + 1 = pc')
    (K : Done p l e R s m args below meth c Z own ws bd Q T (mkF m pc' Ls (v :: st))) : Done p l e R s m args below meth c Z own ws bd Q T (mkF m pc Ls (.int j :: .ref a :: st)) := by
  obtain ⟨⟨L, X, N'⟩, eT, b, hZ, hx, ho, hlk, _, _⟩ := id P
  obtain ⟨cl, Ar, S, hN, H⟩ := A
  obtain ⟨q1, q2⟩ := in_of S hj hi
  subst hp hv
  exact Done.step (fun t kk => X.aaload hx (by rw [eT]; exact Ar.1) (State.isArrayOf_alike hZ.alike Ar.2.1) hty Ar.2.2 q1 (by rw [q2]; exact H i hi) (g := mkF m pc Ls (.int j :: .ref a :: st)) rfl rfl hd t kk) K
theorem Ar.set {cl : Cell} {a : Addr} {ty : FieldType} {N i : Nat} {f : Nat → Value} {v : Value} (A : Arr Z h a cl ty) (S : cl.slots.size = N) (hN : N < 2147483648) (H : ∀ i, i < N → cl.slots[i]? = some (f i)) (hi : i < N) (W : Wr h h' a i v) : Ar Z h' a ty N (oupd f i v) := by
  refine ⟨cl.setSlot i v, A.same W, by rw [sz_set]; exact S, hN, fun j hj => ?_⟩
  by_cases q : j = i
  · subst q; rw [oupd_same]; exact Cell.slots_setSlot_self v (by omega)
  · rw [oupd_ne q, Cell.slots_setSlot_ne v (Ne.symm q)]; exact H j hj
theorem wDastore {N i : Nat} {f : Nat → UInt64} {a : Addr} {j : Int32} {x : UInt64} (P : Pos p l e R s m args below meth c Z own ws bd T h k n) (A : Ar Z h a .double N (fun i => .double (f i))) (hj : j.toInt = (i : Int)) (hi : i < N) (hge : a ∈ ws ∨ bd ≤ a) (hd : decode c.code pc = .ok (.dastore, 1)) (hp : pc + 1 = pc')
    (K : ∀ T' h', Pos p l e R s m args below meth c Z own ws bd T' h' k n → Wr h h' a i (.double x) → Ar Z h' a .double N (fun j => .double (oupd f i x j)) → Done p l e R s m args below meth c Z own ws bd Q T' (mkF m pc' Ls st)) : Done p l e R s m args below meth c Z own ws bd Q T (mkF m pc Ls (.double x :: .int j :: .ref a :: st)) := by
  obtain ⟨⟨L, X, N'⟩, eT, b, hZ, hx, ho, r⟩ := id P
  obtain ⟨cl, Ar', S, hN, H⟩ := A
  obtain ⟨q1, q2⟩ := in_of S hj hi
  obtain ⟨T', h', X', e', W, stp⟩ := stD X hx hZ eT Ar' q1 (g := mkF m pc Ls (.double x :: .int j :: .ref a :: st)) rfl rfl hd
  subst hp
  rw [q2] at W
  refine Done.step stp (K T' h' ⟨⟨_, X', Fw.snoc N' hge⟩, e', by rw [W.size]; exact b, hZ, hx, ho, r⟩ W ((Ar.set Ar' S hN H hi W).congr fun j _ => ?_))
  unfold oupd; split <;> rfl
theorem wIastore {N i : Nat} {f : Nat → Int32} {a : Addr} {j : Int32} {x : Int32} (P : Pos p l e R s m args below meth c Z own ws bd T h k n) (A : Ar Z h a .int N (fun i => .int (f i))) (hj : j.toInt = (i : Int)) (hi : i < N) (hge : a ∈ ws ∨ bd ≤ a) (hd : decode c.code pc = .ok (.iastore, 1)) (hp : pc + 1 = pc')
    (K : ∀ T' h', Pos p l e R s m args below meth c Z own ws bd T' h' k n → Wr h h' a i (.int x) → Ar Z h' a .int N (fun j => .int (oupd f i x j)) → Done p l e R s m args below meth c Z own ws bd Q T' (mkF m pc' Ls st)) : Done p l e R s m args below meth c Z own ws bd Q T (mkF m pc Ls (.int x :: .int j :: .ref a :: st)) := by
  obtain ⟨⟨L, X, N'⟩, eT, b, hZ, hx, ho, r⟩ := id P
  obtain ⟨cl, Ar', S, hN, H⟩ := A
  obtain ⟨q1, q2⟩ := in_of S hj hi
  obtain ⟨T', h', X', e', W, stp⟩ := stI X hx hZ eT Ar' q1 (g := mkF m pc Ls (.int x :: .int j :: .ref a :: st)) rfl rfl hd
  subst hp
  rw [q2] at W
  refine Done.step stp (K T' h' ⟨⟨_, X', Fw.snoc N' hge⟩, e', by rw [W.size]; exact b, hZ, hx, ho, r⟩ W ((Ar.set Ar' S hN H hi W).congr fun j _ => ?_))
  unfold oupd; split <;> rfl
theorem wCastore {N i : Nat} {f : Nat → Int32} {a : Addr} {j : Int32} {x : Int32} (P : Pos p l e R s m args below meth c Z own ws bd T h k n) (A : Ar Z h a .char N (fun i => .int (f i))) (hj : j.toInt = (i : Int)) (hi : i < N) (hge : a ∈ ws ∨ bd ≤ a) (hd : decode c.code pc = .ok (.castore, 1)) (hp : pc + 1 = pc')
    (K : ∀ T' h', Pos p l e R s m args below meth c Z own ws bd T' h' k n → Wr h h' a i (.int (nar .char x)) → Ar Z h' a .char N (fun j => .int (oupd f i (nar .char x) j)) → Done p l e R s m args below meth c Z own ws bd Q T' (mkF m pc' Ls st)) : Done p l e R s m args below meth c Z own ws bd Q T (mkF m pc Ls (.int x :: .int j :: .ref a :: st)) := by
  obtain ⟨⟨L, X, N'⟩, eT, b, hZ, hx, ho, r⟩ := id P
  obtain ⟨cl, Ar', S, hN, H⟩ := A
  obtain ⟨q1, q2⟩ := in_of S hj hi
  obtain ⟨T', h', X', e', W, stp⟩ := stC X hx hZ eT Ar' q1 (g := mkF m pc Ls (.int x :: .int j :: .ref a :: st)) rfl rfl hd
  subst hp
  rw [q2] at W
  refine Done.step stp (K T' h' ⟨⟨_, X', Fw.snoc N' hge⟩, e', by rw [W.size]; exact b, hZ, hx, ho, r⟩ W ((Ar.set Ar' S hN H hi W).congr fun j _ => ?_))
  unfold oupd; split <;> rfl
theorem wBastore {N i : Nat} {f : Nat → Int32} {a : Addr} {j : Int32} {x : Int32} (P : Pos p l e R s m args below meth c Z own ws bd T h k n) (A : Ar Z h a .byte N (fun i => .int (f i))) (hj : j.toInt = (i : Int)) (hi : i < N) (hge : a ∈ ws ∨ bd ≤ a) (hd : decode c.code pc = .ok (.bastore, 1)) (hp : pc + 1 = pc')
    (K : ∀ T' h', Pos p l e R s m args below meth c Z own ws bd T' h' k n → Wr h h' a i (.int (nar .byte x)) → Ar Z h' a .byte N (fun j => .int (oupd f i (nar .byte x) j)) → Done p l e R s m args below meth c Z own ws bd Q T' (mkF m pc' Ls st)) : Done p l e R s m args below meth c Z own ws bd Q T (mkF m pc Ls (.int x :: .int j :: .ref a :: st)) := by
  obtain ⟨⟨L, X, N'⟩, eT, b, hZ, hx, ho, r⟩ := id P
  obtain ⟨cl, Ar', S, hN, H⟩ := A
  obtain ⟨q1, q2⟩ := in_of S hj hi
  obtain ⟨T', h', X', e', W, stp⟩ := stB X hx hZ eT Ar' q1 (g := mkF m pc Ls (.int x :: .int j :: .ref a :: st)) rfl rfl hd
  subst hp
  rw [q2] at W
  refine Done.step stp (K T' h' ⟨⟨_, X', Fw.snoc N' hge⟩, e', by rw [W.size]; exact b, hZ, hx, ho, r⟩ W ((Ar.set Ar' S hN H hi W).congr fun j _ => ?_))
  unfold oupd; split <;> rfl
theorem wZastore {N i : Nat} {f : Nat → Int32} {a : Addr} {j : Int32} {x : Int32} (P : Pos p l e R s m args below meth c Z own ws bd T h k n) (A : Ar Z h a .boolean N (fun i => .int (f i))) (hj : j.toInt = (i : Int)) (hi : i < N) (hge : a ∈ ws ∨ bd ≤ a) (hd : decode c.code pc = .ok (.bastore, 1)) (hp : pc + 1 = pc')
    (K : ∀ T' h', Pos p l e R s m args below meth c Z own ws bd T' h' k n → Wr h h' a i (.int (nar .boolean x)) → Ar Z h' a .boolean N (fun j => .int (oupd f i (nar .boolean x) j)) → Done p l e R s m args below meth c Z own ws bd Q T' (mkF m pc' Ls st)) : Done p l e R s m args below meth c Z own ws bd Q T (mkF m pc Ls (.int x :: .int j :: .ref a :: st)) := by
  obtain ⟨⟨L, X, N'⟩, eT, b, hZ, hx, ho, r⟩ := id P
  obtain ⟨cl, Ar', S, hN, H⟩ := A
  obtain ⟨q1, q2⟩ := in_of S hj hi
  obtain ⟨T', h', X', e', W, stp⟩ := stZ X hx hZ eT Ar' q1 (g := mkF m pc Ls (.int x :: .int j :: .ref a :: st)) rfl rfl hd
  subst hp
  rw [q2] at W
  refine Done.step stp (K T' h' ⟨⟨_, X', Fw.snoc N' hge⟩, e', by rw [W.size]; exact b, hZ, hx, ho, r⟩ W ((Ar.set Ar' S hN H hi W).congr fun j _ => ?_))
  unfold oupd; split <;> rfl
theorem wBaload {N i : Nat} {f : Nat → Value} {a : Addr} {j : Int32} (P : Pos p l e R s m args below meth c Z own ws bd T h k n) (A : Ar Z h a .byte N f) (hj : j.toInt = (i : Int)) (hi : i < N) {v : Value} (hv : f i = v) (hd : decode c.code pc = .ok (.baload, 1)) (hp : pc + 1 = pc')
    (K : Done p l e R s m args below meth c Z own ws bd Q T (mkF m pc' Ls (v :: st))) : Done p l e R s m args below meth c Z own ws bd Q T (mkF m pc Ls (.int j :: .ref a :: st)) := by
  obtain ⟨⟨L, X, N'⟩, eT, b, hZ, hx, ho, hlk, _, _⟩ := id P
  obtain ⟨cl, Ar, S, hN, H⟩ := A
  obtain ⟨q1, q2⟩ := in_of S hj hi
  subst hp hv
  exact Done.step (fun t kk => X.baloadBytes hx (by rw [eT]; exact Ar.1) (State.isArrayOf_alike hZ.alike Ar.2.1) Ar.2.2 q1 (by rw [q2]; exact H i hi) (g := mkF m pc Ls (.int j :: .ref a :: st)) rfl rfl hd t kk) K
theorem staKeep {C nm d : String} {v : Value} {ws' : List Addr} (F : Sta Z h C nm d v) (K : Keep h h' ws') (hw : ∀ x ∈ ws', ∀ cell : Cell, h[x]? = some cell → cell.vm.isStatics = false) : Sta Z h' C nm d v := by
  obtain ⟨cf, i, k, f, st, cell, h1, h2, h3, h4, h5, h6, r⟩ := F
  exact ⟨cf, i, k, f, st, cell, h1, h2, h3, h4, K.2.1 _ _ h5 (fun q => by rw [hw _ q _ h5] at h6; cases h6), h6, r⟩
theorem wCast {K : String} {index : Nat} {a : Addr} (P : Pos p l e R s m args below meth c Z own ws bd T h k n) (w : (Cond.classLink own index K).before a0 Z = true) (F : Ins Z h a K true) (hd : decode c.code pc = .ok (.checkcast index, 3)) (hp : pc + 3 = pc')
    (K' : ∀ T', Pos p l e R s m args below meth c Z own ws bd T' h k n → Done p l e R s m args below meth c Z own ws bd Q T' (mkF m pc' Ls (.ref a :: st))) : Done p l e R s m args below meth c Z own ws bd Q T (mkF m pc Ls (.ref a :: st)) := by
  obtain ⟨⟨L, X, N'⟩, eT, b, hZ, hx, ho, r⟩ := id P
  obtain ⟨T', X', e', stp⟩ := castY X hx hZ ho w eT F (g := mkF m pc Ls (.ref a :: st)) rfl rfl hd
  subst hp
  exact Done.step stp (K' T' ⟨⟨L, X', N'⟩, e', b, hZ, hx, ho, r⟩)
/-! calls -/
theorem wInit {index : Nat} {a : Addr} {W : Nat} (P : Pos p l e R s m args below meth c Z own ws bd T h k n) (w1 : (Cond.methodLink own index Lib.objectInit).before a0 Z = true) (w2 : (Cond.instanceMethod Lib.objectInit).before a0 Z = true) (w3 : (Cond.code Lib.objectInit ⟨#[0xb1]⟩ 1 none).before a0 Z = true) (hml : Ls.size = c.maxLocals)
    (hd : decode c.code pc = .ok (.invokespecial index, 3)) (hf : 1 ≤ R.frames) (hW : (st.map fun v => v.category).sum ≤ W) (hl : W + 12 ≤ R.locals) (hp : pc + 3 = pc')
    (K : ∀ T', Pos p l e R s m args below meth c Z own ws bd T' h k n → Done p l e R s m args below meth c Z own ws bd Q T' (mkF m pc' Ls st)) : Done p l e R s m args below meth c Z own ws bd Q T (mkF m pc Ls (.ref a :: st)) := by
  obtain ⟨⟨L, X, N'⟩, eT, b, hZ, hx, ho, r⟩ := id P
  obtain ⟨T', X', e', stp⟩ := initO X hx hZ ho w1 w2 w3 eT (g := mkF m pc Ls (.ref a :: st)) rfl hml rfl hd hf (W := W) (by show 2 * 0 + _ ≤ _; omega) hl
  subst hp
  exact Done.step stp (K T' ⟨⟨L, X', N'⟩, e', b, hZ, hx, ho, r⟩)
theorem wCallS {y : MethodName} {bytes : ByteArray} {maxL : Nat} {ret : Option FieldType} {rm : Room} {as' : Array Value} {ws' : List Addr} {Q' : Option Value → Heap → Prop} {index W : Nat} {argsL rest stk : List Value} (P : Pos p l e R s m args below meth c Z own ws bd T h k n) (M : OMet l y bytes maxL ret [] rm Z h ws' as' Q')
    (w1 : (Cond.methodLink own index y).before a0 Z = true) (w2 : (Cond.static y).before a0 Z = true) (w3 : (Cond.initialized y.cls).before a0 Z = true) (w4 : (Cond.code y bytes maxL ret).before a0 Z = true) (hy : y.cls ≠ "java/lang/invoke/MethodHandle" ∧ y.cls ≠ "java/lang/invoke/VarHandle") (hml : Ls.size = c.maxLocals)
    (hlen : ∀ sig, parseMethodDescriptor y.desc = some sig → argsL.length = sig.parameters.length) (has : (argsL).toArray = as') (hst : stk = argsL.reverse ++ rest) (hW : (rest.map fun v => v.category).sum ≤ W) (hf : rm.frames + 1 ≤ R.frames) (hl : W + (maxL + 11) + rm.locals ≤ R.locals) (hc : k + rm.cells ≤ R.cells) (hs : n + rm.slots ≤ R.slots)
    (hws : ∀ x ∈ ws', x ∈ ws ∨ bd ≤ x) (hd : decode c.code pc = .ok (.invokestatic index, 3)) (hp : pc + 3 = pc') {k' n' : Nat} (hk' : k + rm.cells = k') (hn' : n + rm.slots = n')
    (K : ∀ T' h' v, Pos p l e R s m args below meth c Z own ws bd T' h' k' n' → Keep h h' ws' → Q' v h' → Done p l e R s m args below meth c Z own ws bd Q T' (mkF m pc' Ls (v.toList ++ rest))) : Done p l e R s m args below meth c Z own ws bd Q T (mkF m pc Ls stk) := by
  obtain ⟨⟨L, X, N'⟩, eT, b, hZ, hx, ho, hlk, _, _⟩ := id P
  subst hst has hp hk' hn'
  obtain ⟨v, _, ⟨T', L', k1, n1⟩, -, X', ⟨Lc, hq, l', y', z'⟩, stp⟩ := Jvm.LawKit.callS X hx (y := y) ho (mvT hZ w1) (mvT hZ w2) (mvT hZ w3) (mvT hZ w4) hy (backOf (W := W) (Q := fun v h' L => Q' v h' ∧ Fw ws' h.size L ∧ Keep h h' ws') M hZ w4 w3 hf hl) (g := mkF m pc Ls (argsL.reverse ++ rest)) rfl hml (argsL := argsL) (rest := rest) hlen rfl (by show 2 * 0 + _ ≤ _; omega) hd (fun _ _ => ⟨rfl, eT, hc, hs⟩)
  dsimp only [Pt.U, Pt.locs, Pt.cells, Pt.slots] at X' l' y' z' stp hq
  subst l' y' z'
  exact Done.step (stp) (K T' T'.heap v ⟨⟨_, X', N'.app fun y hy => (hq.2.1 y hy).elim (fun q => hws _ q) (fun q => Or.inr (Nat.le_trans b q))⟩, rfl, Nat.le_trans b hq.2.2.1, hZ, hx, ho, hlk, hc, hs⟩ hq.2.2 hq.1)
theorem wCallI {y : MethodName} {bytes : ByteArray} {maxL : Nat} {rm : Room} {as' : Array Value} {ws' : List Addr} {Q' : Option Value → Heap → Prop} {index W : Nat} {argsL rest stk : List Value} {a : Addr} (P : Pos p l e R s m args below meth c Z own ws bd T h k n) (M : OMet l y bytes maxL none [] rm Z h ws' as' Q')
    (hyn : y.name = "<init>") (w1 : (Cond.methodLink own index y).before a0 Z = true) (w2 : (Cond.instanceMethod y).before a0 Z = true) (w3 : (Cond.initialized y.cls).before a0 Z = true) (w4 : (Cond.code y bytes maxL none).before a0 Z = true) (hy : y.cls ≠ "java/lang/invoke/MethodHandle" ∧ y.cls ≠ "java/lang/invoke/VarHandle") (hml : Ls.size = c.maxLocals)
    (hlen : ∀ sig, parseMethodDescriptor y.desc = some sig → argsL.length = sig.parameters.length) (has : (.ref a :: argsL).toArray = as') (hst : stk = argsL.reverse ++ .ref a :: rest) (hW : (rest.map fun v => v.category).sum ≤ W) (hf : rm.frames + 1 ≤ R.frames) (hl : W + (maxL + 11) + rm.locals ≤ R.locals) (hc : k + rm.cells ≤ R.cells) (hs : n + rm.slots ≤ R.slots)
    (hws : ∀ x ∈ ws', x ∈ ws ∨ bd ≤ x) (hd : decode c.code pc = .ok (.invokespecial index, 3)) (hp : pc + 3 = pc') {k' n' : Nat} (hk' : k + rm.cells = k') (hn' : n + rm.slots = n')
    (K : ∀ T' h' v, Pos p l e R s m args below meth c Z own ws bd T' h' k' n' → Keep h h' ws' → Q' v h' → Done p l e R s m args below meth c Z own ws bd Q T' (mkF m pc' Ls (v.toList ++ rest))) : Done p l e R s m args below meth c Z own ws bd Q T (mkF m pc Ls stk) := by
  obtain ⟨⟨L, X, N'⟩, eT, b, hZ, hx, ho, hlk, _, _⟩ := id P
  subst hst has hp hk' hn'
  obtain ⟨v, _, ⟨T', L', k1, n1⟩, -, X', ⟨Lc, hq, l', y', z'⟩, stp⟩ := X.specialBack hx (y := y) hyn ho (mvT hZ w1) (mvT hZ w2) (mvT hZ w4) hy (backOf (W := W) (Q := fun v h' L => Q' v h' ∧ Fw ws' h.size L ∧ Keep h h' ws') M hZ w4 w3 hf hl) (g := mkF m pc Ls (argsL.reverse ++ .ref a :: rest)) rfl hml (Steps.refl _) (a := a) (argsL := argsL) (rest := rest) hlen rfl (by show 2 * 0 + _ ≤ _; omega) hd (fun _ _ => ⟨rfl, eT, hc, hs⟩)
  dsimp only [Pt.U, Pt.locs, Pt.cells, Pt.slots] at X' l' y' z' stp hq
  subst l' y' z'
  exact Done.step (fun t kk => stp.trans kk) (K T' T'.heap v ⟨⟨_, X', N'.app fun y hy => (hq.2.1 y hy).elim (fun q => hws _ q) (fun q => Or.inr (Nat.le_trans b q))⟩, rfl, Nat.le_trans b hq.2.2.1, hZ, hx, ho, hlk, hc, hs⟩ hq.2.2 hq.1)
theorem wCallV {y : MethodName} {bytes : ByteArray} {maxL : Nat} {ret : Option FieldType} {rm : Room} {as' : Array Value} {ws' : List Addr} {Q' : Option Value → Heap → Prop} {index W : Nat} {argsL rest stk : List Value} {z : MethodName} {C : String} {a : Addr} (P : Pos p l e R s m args below meth c Z own ws bd T h k n) (M : OMet l z bytes maxL ret [] rm Z h ws' as' Q')
    (w1 : (Cond.methodLink own index y).before a0 Z = true) (w2 : (Cond.declares y).before a0 Z = true) (w5 : (Cond.selects C y z).before a0 Z = true) {D : String} (w7 : (Cond.selects D y y).before a0 Z = true) (w6 : (Cond.instanceMethod z).before a0 Z = true) (w3 : (Cond.initialized z.cls).before a0 Z = true) (w4 : (Cond.code z bytes maxL ret).before a0 Z = true) (hy : y.cls ≠ "java/lang/invoke/MethodHandle" ∧ y.cls ≠ "java/lang/invoke/VarHandle") (E : Exa Z h a C) (hml : Ls.size = c.maxLocals)
    (hlen : ∀ sig, parseMethodDescriptor y.desc = some sig → argsL.length = sig.parameters.length) (has : (.ref a :: argsL).toArray = as') (hst : stk = argsL.reverse ++ .ref a :: rest) (hW : (rest.map fun v => v.category).sum ≤ W) (hf : rm.frames + 1 ≤ R.frames) (hl : W + (maxL + 11) + rm.locals ≤ R.locals) (hc : k + rm.cells ≤ R.cells) (hs : n + rm.slots ≤ R.slots)
    (hws : ∀ x ∈ ws', x ∈ ws ∨ bd ≤ x) (hd : decode c.code pc = .ok (.invokevirtual index, 3)) (hp : pc + 3 = pc') {k' n' : Nat} (hk' : k + rm.cells = k') (hn' : n + rm.slots = n')
    (K : ∀ T' h' v, Pos p l e R s m args below meth c Z own ws bd T' h' k' n' → Keep h h' ws' → Q' v h' → Done p l e R s m args below meth c Z own ws bd Q T' (mkF m pc' Ls (v.toList ++ rest))) : Done p l e R s m args below meth c Z own ws bd Q T (mkF m pc Ls stk) := by
  obtain ⟨⟨L, X, N'⟩, eT, b, hZ, hx, ho, hlk, _, _⟩ := id P
  subst hst has hp hk' hn'
  obtain ⟨cq, kq, qa, qb, qc⟩ := isOf hZ eT E
  obtain ⟨v, _, ⟨T', L', k1, n1⟩, -, X', ⟨Lc, hq, l', y', z'⟩, stp⟩ := X.virtualBack hx (y := y) (z := z) ho (mvT hZ w1) (mvT hZ w2) (notFace_of_selects (args := #[]) (mvT hZ w7)) (mvT hZ w5) (mvT hZ w6) hy (backOf (W := W) (Q := fun v h' L => Q' v h' ∧ Fw ws' h.size L ∧ Keep h h' ws') M hZ w4 w3 hf hl) qa qc (g := mkF m pc Ls (argsL.reverse ++ .ref a :: rest)) rfl hml (Steps.refl _) (argsL := argsL) (rest := rest) hlen rfl (by show 2 * 0 + _ ≤ _; omega) hd (fun _ _ => ⟨rfl, eT, hc, hs⟩)
  dsimp only [Pt.U, Pt.locs, Pt.cells, Pt.slots] at X' l' y' z' stp hq
  subst l' y' z'
  exact Done.step (fun t kk => stp.trans kk) (K T' T'.heap v ⟨⟨_, X', N'.app fun y hy => (hq.2.1 y hy).elim (fun q => hws _ q) (fun q => Or.inr (Nat.le_trans b q))⟩, rfl, Nat.le_trans b hq.2.2.1, hZ, hx, ho, hlk, hc, hs⟩ hq.2.2 hq.1)
theorem wCallP {y : MethodName} {bytes : ByteArray} {maxL : Nat} {ret : Option FieldType} {rm : Room} {as' : Array Value} {ws' : List Addr} {Q' : Option Value → Heap → Prop} {index W kk : Nat} {argsL rest stk : List Value} {a : Addr} {C : String} (P : Pos p l e R s m args below meth c Z own ws bd T h k n) (M : OMet l y bytes maxL ret [] rm Z h ws' as' Q')
    (w1 : (Cond.methodLink own index y).before a0 Z = true) (w2 : (Cond.instanceMethod y).before a0 Z = true) (w5 : (Cond.privateMethod y).before a0 Z = true) (wi : (Cond.instantiable y.cls kk).before a0 Z = true) (w3 : (Cond.initialized y.cls).before a0 Z = true) (w4 : (Cond.code y bytes maxL ret).before a0 Z = true) (hy : y.cls ≠ "java/lang/invoke/MethodHandle" ∧ y.cls ≠ "java/lang/invoke/VarHandle") (E : Exa Z h a C) (hml : Ls.size = c.maxLocals)
    (hlen : ∀ sig, parseMethodDescriptor y.desc = some sig → argsL.length = sig.parameters.length) (has : (.ref a :: argsL).toArray = as') (hst : stk = argsL.reverse ++ .ref a :: rest) (hW : (rest.map fun v => v.category).sum ≤ W) (hf : rm.frames + 1 ≤ R.frames) (hl : W + (maxL + 11) + rm.locals ≤ R.locals) (hc : k + rm.cells ≤ R.cells) (hs : n + rm.slots ≤ R.slots)
    (hws : ∀ x ∈ ws', x ∈ ws ∨ bd ≤ x) (hd : decode c.code pc = .ok (.invokevirtual index, 3)) (hp : pc + 3 = pc') {k' n' : Nat} (hk' : k + rm.cells = k') (hn' : n + rm.slots = n')
    (K : ∀ T' h' v, Pos p l e R s m args below meth c Z own ws bd T' h' k' n' → Keep h h' ws' → Q' v h' → Done p l e R s m args below meth c Z own ws bd Q T' (mkF m pc' Ls (v.toList ++ rest))) : Done p l e R s m args below meth c Z own ws bd Q T (mkF m pc Ls stk) := by
  obtain ⟨⟨L, X, N'⟩, eT, b, hZ, hx, ho, hlk, _, _⟩ := id P
  subst hst has hp hk' hn'
  obtain ⟨cl, hcl, hst⟩ := E.cell
  have hpr : s.PrivateAt y := Cond.privateMethod_at (mvP hZ w5 (args := #[]))
  obtain ⟨ci, ki, hi1, hi2, -, hi3, -⟩ := Cond.instantiable_spec (mvT hZ wi : (Cond.instantiable y.cls kk).before args s = true)
  have hsel : (Cond.selects y.cls y y).before args s = true := selects_self_of_private hi1 hi2 (by simp only [Bool.or_eq_false_iff] at hi3; exact hi3.1) hpr (mvT hZ w2) hy
  obtain ⟨v, _, ⟨T', L', k1, n1⟩, -, X', ⟨Lc, hq, l', y', z'⟩, stp⟩ := X.privateBack hx (y := y) ho (mvT hZ w1) (mvT hZ w2) hsel hpr (mvT hZ w4) hy (backOf (W := W) (Q := fun v h' L => Q' v h' ∧ Fw ws' h.size L ∧ Keep h h' ws') M hZ w4 w3 hf hl) (g := mkF m pc Ls (argsL.reverse ++ .ref a :: rest)) rfl hml (Steps.refl _) (a := a) (by rw [eT]; exact hcl) hst (argsL := argsL) (rest := rest) hlen rfl (by show 2 * 0 + _ ≤ _; omega) hd (fun _ _ => ⟨rfl, eT, hc, hs⟩)
  dsimp only [Pt.U, Pt.locs, Pt.cells, Pt.slots] at X' l' y' z' stp hq
  subst l' y' z'
  exact Done.step (fun t kk => stp.trans kk) (K T' T'.heap v ⟨⟨_, X', N'.app fun y hy => (hq.2.1 y hy).elim (fun q => hws _ q) (fun q => Or.inr (Nat.le_trans b q))⟩, rfl, Nat.le_trans b hq.2.2.1, hZ, hx, ho, hlk, hc, hs⟩ hq.2.2 hq.1)
/-- a call that the machine answers itself -/
theorem wNat {y : MethodName} {by0 : ByteArray} {ml : Nat} {rt : Option FieldType} {index W : Nat} {F : Array Value → Prop} {val : Value} {argsL rest stk : List Value} (P : Pos p l e R s m args below meth c Z own ws bd T h k n)
    (w1 : (Cond.methodLink own index y).before a0 Z = true) (w2 : (Cond.static y).before a0 Z = true) (w3 : (Cond.initialized y.cls).before a0 Z = true) (w4 : (Cond.code y by0 ml rt).before a0 Z = true) (hy : y.cls ≠ "java/lang/invoke/MethodHandle" ∧ y.cls ≠ "java/lang/invoke/VarHandle")
    (hK : (Cond.code y by0 ml rt).before args s = true → Back l R p e below s args y 3 W (fun A a' => A.cells ≤ R.cells ∧ A.slots ≤ R.slots ∧ F a') (fun A _ v B => v = some val ∧ B = A)) (hml : Ls.size = c.maxLocals)
    (hlen : ∀ sig, parseMethodDescriptor y.desc = some sig → argsL.length = sig.parameters.length) (hst : stk = argsL.reverse ++ rest) (hW : (rest.map fun v => v.category).sum ≤ W) (hd : decode c.code pc = .ok (.invokestatic index, 3)) (hp : pc + 3 = pc') (hF : F argsL.toArray)
    (K : ∀ T', Pos p l e R s m args below meth c Z own ws bd T' h k n → Done p l e R s m args below meth c Z own ws bd Q T' (mkF m pc' Ls (val :: rest))) : Done p l e R s m args below meth c Z own ws bd Q T (mkF m pc Ls stk) := by
  obtain ⟨⟨L, X, N'⟩, eT, b, hZ, hx, ho, hlk, hc, hs⟩ := id P
  subst hst hp
  obtain ⟨T', X', e', stp⟩ := natS X hx hZ ho w1 w2 w3 w4 hy eT hK (g := mkF m pc Ls (argsL.reverse ++ rest)) rfl hml hlen rfl (by show 2 * 0 + _ ≤ _; omega) hd hc hs hF rfl
  exact Done.step stp (K T' ⟨⟨L, X', N'⟩, e', b, hZ, hx, ho, hlk, hc, hs⟩)
theorem Fw.toFr {bd : Nat} {L : List Loc} (N : Fw [] bd L) : Fr bd L := fun y hy => (N y hy).resolve_left (by simp)
theorem Fw.ofFr {ws : List Addr} {bd : Nat} {L : List Loc} (N : Fr bd L) : Fw ws bd L := fun y hy => Or.inr (N y hy)
theorem n32 {N : Nat} (h : N < 2147483648) : ¬ Int32.ofNat N < 0 ∧ (Int32.ofNat N).toNatClampNeg = N := by
  have e : (Int32.ofNat N).toInt = (N : Int) := Int32.toInt_ofNat_of_lt (by omega)
  refine ⟨?_, by rw [Int32.toNatClampNeg, e]; omega⟩
  rw [Int32.lt_iff_toInt_lt, e, show (0 : Int32).toInt = 0 from rfl]; omega
theorem Ar.toArv {a : Addr} {ty : FieldType} {N : Nat} {f : Nat → Value} (A : Ar Z h a ty N f) (dv : Value) (hf : ∀ i, fits ty (f i) = true) (hd : fits ty dv = true) : ∃ kA, Arv Z h a kA ty (Int32.ofNat N) ((List.range N).map f) dv := by
  obtain ⟨cl, Ar, S, hN, H⟩ := A
  have g : ∀ i, i < N → ((List.range N).map f).getD i dv = f i := fun i hi => by simp [List.getD_eq_getElem?_getD, hi]
  refine ⟨cl.cls, cl, Ar, rfl, by rw [(n32 hN).2, S], (n32 hN).1, fun i hi => ?_, fun i hi => ?_⟩
  · rw [g i (by omega)]; exact H i (by omega)
  · rw [g i (by omega)]; exact hf i
theorem Ar.ofArv {a : Addr} {ty : FieldType} {kA : ClassId} {N : Nat} {vs : List Value} {dv : Value} (hN : N < 2147483648) (A : Arv Z h a kA ty (Int32.ofNat N) vs dv) : Ar Z h a ty N (fun i => vs.getD i dv) := by
  obtain ⟨cl, Ar, -, S, -, H, -⟩ := A
  rw [(n32 hN).2] at S
  exact ⟨cl, Ar, S, hN, fun i hi => H i (by omega)⟩
/-- a copy of an array of doubles -/
theorem wClone {N cap index W : Nat} {f : Nat → UInt64} {a : Addr} (P : Pos p l e R s m args below meth c Z own ws bd T h k n) (A : Ar Z h a .double N (fun i => .double (f i))) (E : Exa Z h a "[D")
    (w1 : (Cond.methodLink own index ⟨"[D", "clone", "()Ljava/lang/Object;"⟩).before a0 Z = true) (w2 : (Cond.sameMethod "[D" "java/lang/Object" "clone" "()Ljava/lang/Object;").before a0 Z = true) (w3 : (Cond.native ⟨"java/lang/Object", "clone", "()Ljava/lang/Object;"⟩).before a0 Z = true)
    (w4 : (Cond.instanceMethod ⟨"java/lang/Object", "clone", "()Ljava/lang/Object;"⟩).before a0 Z = true) (w5 : (Cond.selects "[D" ⟨"[D", "clone", "()Ljava/lang/Object;"⟩ ⟨"java/lang/Object", "clone", "()Ljava/lang/Object;"⟩).before a0 Z = true) (w6 : (Cond.castable "[D" "java/lang/Cloneable").before a0 Z = true)
    (hml : Ls.size = c.maxLocals) (hd : decode c.code pc = .ok (.invokevirtual index, 3)) (hp : pc + 3 = pc') (hf : 1 ≤ R.frames) (hW : (st.map fun v => v.category).sum ≤ W) (hl : W + 14 ≤ R.locals) (hcap : N ≤ cap) (hc : k + 1 ≤ R.cells) (hsl : n + cap ≤ R.slots) {k' n' : Nat} (hk' : k + 1 = k') (hn' : n + cap = n')
    (K : ∀ T' h' b, b = h.size → h.size < h'.size → Pos p l e R s m args below meth c Z own ws bd T' h' k' n' → Ext h h' → Ar Z h' b .double N (fun i => .double (f i)) → Exa Z h' b "[D" → Done p l e R s m args below meth c Z own ws bd Q T' (mkF m pc' Ls (.ref b :: st))) : Done p l e R s m args below meth c Z own ws bd Q T (mkF m pc Ls (.ref a :: st)) := by
  obtain ⟨⟨L, X, N'⟩, eT, b, hZ, hx, ho, hlk, _, _⟩ := id P
  obtain ⟨cl, Ar, S, hN, H⟩ := A
  have FC : FitC Z cl := fitC_of Ar fun i hi v hv => by rw [H i (by omega)] at hv; cases hv; rfl
  obtain ⟨T', h', X', e', ex, A', E', stp⟩ := cloneA X hx hZ ho w1 w2 w3 w4 w5 w6 eT Ar E FC (g := mkF m pc Ls (.ref a :: st)) rfl hml rfl hd hf (W := W) (by show 2 * 0 + _ ≤ _; omega) hl (cap := cap) (by omega) hc hsl
  subst hp hk' hn'
  exact Done.step stp (K T' h' h.size rfl A'.lt ⟨⟨L, X', N'⟩, e', Nat.le_trans b ex.1, hZ, hx, ho, hlk, hc, hsl⟩ ex ⟨_, A', S, hN, H⟩ E')
/-- System.arraycopy of the first places of an array of doubles into a fresh one -/
theorem wCopyD {N M K0 index W : Nat} {f g : Nat → UInt64} {a b : Addr} {nn : Int32} (P : Pos p l e R s m args below meth c Z own [] bd T h k n) (A : Ar Z h a .double N (fun i => .double (f i))) (B : Ar Z h b .double M (fun i => .double (g i))) (hnn : nn.toInt = (K0 : Int)) (h1 : K0 ≤ N) (h2 : K0 ≤ M) (ge : bd ≤ b)
    (w1 : (Cond.methodLink own index Jvm.Stand.acN).before a0 Z = true) (w2 : (Cond.native Jvm.Stand.acN).before a0 Z = true) (w3 : (Cond.static Jvm.Stand.acN).before a0 Z = true) (w4 : (Cond.initialized "java/lang/System").before a0 Z = true)
    (hml : Ls.size = c.maxLocals) (hd : decode c.code pc = .ok (.invokestatic index, 3)) (hp : pc + 3 = pc') (hf : 1 ≤ R.frames) (hW : (st.map fun v => v.category).sum ≤ W) (hlo : W + (nativeFrameWords "java/lang/System" "arraycopy" 5 + 11) ≤ R.locals)
    (K : ∀ T' h', Pos p l e R s m args below meth c Z own [] bd T' h' k n → Keep h h' [b] → Ar Z h' b .double M (fun i => .double (if i < K0 then f i else g i)) → Done p l e R s m args below meth c Z own [] bd Q T' (mkF m pc' Ls st)) :
    Done p l e R s m args below meth c Z own [] bd Q T (mkF m pc Ls (.int nn :: .int 0 :: .ref b :: .int 0 :: .ref a :: st)) := by
  obtain ⟨⟨L, X, N'⟩, eT, hb', hZ, hx, ho, r⟩ := id P
  have hN := A.len
  have hM := B.len
  obtain ⟨kA, VA⟩ := A.toArv (.double 0) (fun _ => rfl) rfl
  obtain ⟨kB, VB⟩ := B.toArv (.double 0) (fun _ => rfl) rfl
  have z0 : ¬ (0 : Int32) < 0 := by decide
  have z1 : (0 : Int32).toNatClampNeg = 0 := by decide
  have q0 : ¬ nn < 0 := by rw [Int32.lt_iff_toInt_lt, hnn, show (0 : Int32).toInt = 0 from rfl]; omega
  have q1 : nn.toNatClampNeg = K0 := by rw [Int32.toNatClampNeg, hnn]; omega
  obtain ⟨T', h', L', X', e', F', Kp, V', stp⟩ := cpA X hx hZ ho w1 w2 w3 w4 eT VA VB (Or.inl ⟨rfl, rfl⟩) z0 z0 q0 (by rw [z1, q1, (n32 hN).2]; omega) (by rw [z1, q1, (n32 hM).2]; omega) rfl (by rw [z1, q1]; simp; omega) (n0 := bd) N'.toFr ge (g := mkF m pc Ls (.int nn :: .int 0 :: .ref b :: .int 0 :: .ref a :: st)) rfl hml rfl hd hf (W := W) (by show 2 * 0 + _ ≤ _; omega) hlo
  subst hp
  refine Done.step stp (K T' h' ⟨⟨L', X', Fw.ofFr F'⟩, e', Nat.le_trans hb' Kp.1, hZ, hx, ho, r⟩ Kp ((Ar.ofArv hM V').congr fun i hi => ?_))
  rw [z1, q1]
  by_cases q : i < K0
  · rw [if_pos q]
    simp [List.getD_eq_getElem?_getD, List.getElem?_append, q]
    rw [List.getElem?_range (by omega)]
    rfl
  · rw [if_neg q]
    simp [List.getD_eq_getElem?_getD, List.getElem?_append, q]
    have e2 : K0 + (i - K0) = i := by omega
    simp [e2, hi]
/-! constants and references -/
theorem pLdcI {index : Nat} {v : Int32} {t : State} (P : Pos p l e R s m args below meth c Z own ws bd T h k n) (w : (Cond.constant own index v).before a0 Z = true) (hd : decode c.code pc = .ok (.ldc index, 2)) (hp : pc + 2 = pc') (kk : Steps p.tables e below (T.setTop (mkF m pc' Ls (.int v :: st))) t) : Steps p.tables e below (T.setTop (mkF m pc Ls st)) t := by
  obtain ⟨⟨L, X, N'⟩, eT, b, hZ, hx, ho, hlk, _, _⟩ := id P
  subst hp
  exact X.ldcI hx ho (mvT hZ w) (g := mkF m pc Ls st) rfl hd kk
theorem pLdcIw {index : Nat} {v : Int32} {t : State} (P : Pos p l e R s m args below meth c Z own ws bd T h k n) (w : (Cond.constant own index v).before a0 Z = true) (hd : decode c.code pc = .ok (.ldc_w index, 3)) (hp : pc + 3 = pc') (kk : Steps p.tables e below (T.setTop (mkF m pc' Ls (.int v :: st))) t) : Steps p.tables e below (T.setTop (mkF m pc Ls st)) t := by
  obtain ⟨⟨L, X, N'⟩, eT, b, hZ, hx, ho, hlk, _, _⟩ := id P
  subst hp
  exact X.ldcWI hx ho (mvT hZ w) (g := mkF m pc Ls st) rfl hd kk
theorem pLdcJ {index : Nat} {v : Int64} {t : State} (P : Pos p l e R s m args below meth c Z own ws bd T h k n) (w : (Cond.constantLong own index v).before a0 Z = true) (hd : decode c.code pc = .ok (.ldc2_w index, 3)) (hp : pc + 3 = pc') (kk : Steps p.tables e below (T.setTop (mkF m pc' Ls (.long v :: st))) t) : Steps p.tables e below (T.setTop (mkF m pc Ls st)) t := by
  obtain ⟨⟨L, X, N'⟩, eT, b, hZ, hx, ho, hlk, _, _⟩ := id P
  subst hp
  exact X.ldc2J hx ho (mvT hZ w) (g := mkF m pc Ls st) rfl hd kk
theorem pLdcD {index : Nat} {v : UInt64} {t : State} (P : Pos p l e R s m args below meth c Z own ws bd T h k n) (w : (Cond.constantDouble own index v).before a0 Z = true) (hd : decode c.code pc = .ok (.ldc2_w index, 3)) (hp : pc + 3 = pc') (kk : Steps p.tables e below (T.setTop (mkF m pc' Ls (.double v :: st))) t) : Steps p.tables e below (T.setTop (mkF m pc Ls st)) t := by
  obtain ⟨⟨L, X, N'⟩, eT, b, hZ, hx, ho, hlk, _, _⟩ := id P
  subst hp
  exact X.ldc2DoubleC hx ho (mvT hZ w) (g := mkF m pc Ls st) rfl hd t kk
theorem pAcmp {cd : ACond} {x y : Value} {rest stk : List Value} {o : Int} {pc0 : Nat} {same : Bool} {t : State} (P : Pos p l e R s m args below meth c Z own ws bd T h k n) (h1 : x.isRef = true) (h2 : y.isRef = true) (hpc : pc = pc0) (hd : decode c.code pc = .ok (.if_acmp cd o, 3)) (hs : stk = y :: x :: rest) (hq : decide (x = y) = same) (ho : 0 ≤ (pc0 : Int) + o)
    (hp : pc' = if acV cd same = true then ((pc0 : Int) + o).toNat else pc0 + 3) (kk : Steps p.tables e below (T.setTop (mkF m pc' Ls rest)) t) : Steps p.tables e below (T.setTop (mkF m pc Ls stk)) t := by
  obtain ⟨⟨L, X, N'⟩, eT, b, hZ, hx, ho', hlk, _, _⟩ := id P
  exact Jvm.RoadKit.acmp (g := mkF m pc Ls stk) X hx rfl h1 h2 (pc0 := pc0) (pc' := pc') (same := same) hpc hd hs hq ho hp kk
end A
/-! conditions of branches -/
theorem iiW_lt_t {x y : Int32} (h : x < y) : if_icmp.holds .lt x y = true := (tlt h).1
theorem iiW_lt_f {x y : Int32} (h : ¬ (x < y)) : if_icmp.holds .lt x y = false := (flt h).1
theorem iiW_ge_t {x y : Int32} (h : ¬ (x < y)) : if_icmp.holds .ge x y = true := (flt h).2.1
theorem iiW_ge_f {x y : Int32} (h : ¬ ¬ (x < y)) : if_icmp.holds .ge x y = false := (tlt (Decidable.not_not.mp h)).2.1
theorem iiW_gt_t {x y : Int32} (h : y < x) : if_icmp.holds .gt x y = true := (tlt h).2.2.1
theorem iiW_gt_f {x y : Int32} (h : ¬ (y < x)) : if_icmp.holds .gt x y = false := (flt h).2.2.1
theorem iiW_le_t {x y : Int32} (h : ¬ (y < x)) : if_icmp.holds .le x y = true := (flt h).2.2.2
theorem iiW_le_f {x y : Int32} (h : ¬ ¬ (y < x)) : if_icmp.holds .le x y = false := (tlt (Decidable.not_not.mp h)).2.2.2
theorem iiW_eq_t {x y : Int32} (h : x = y) : if_icmp.holds .eq x y = true := (teq h).1
theorem iiW_eq_f {x y : Int32} (h : ¬ (x = y)) : if_icmp.holds .eq x y = false := (feq h).1
theorem iiW_ne_t {x y : Int32} (h : ¬ (x = y)) : if_icmp.holds .ne x y = true := (feq h).2
theorem iiW_ne_f {x y : Int32} (h : ¬ ¬ (x = y)) : if_icmp.holds .ne x y = false := (teq (Decidable.not_not.mp h)).2
theorem i0W_lt_t {x : Int32} (h : x < (0 : Int32)) : ifCond.holds .lt x = true := (if0 _ _).trans (iiW_lt_t h)
theorem i0W_lt_f {x : Int32} (h : ¬ (x < (0 : Int32))) : ifCond.holds .lt x = false := (if0 _ _).trans (iiW_lt_f h)
theorem i0W_ge_t {x : Int32} (h : ¬ (x < (0 : Int32))) : ifCond.holds .ge x = true := (if0 _ _).trans (iiW_ge_t h)
theorem i0W_ge_f {x : Int32} (h : ¬ ¬ (x < (0 : Int32))) : ifCond.holds .ge x = false := (if0 _ _).trans (iiW_ge_f h)
theorem i0W_gt_t {x : Int32} (h : (0 : Int32) < x) : ifCond.holds .gt x = true := (if0 _ _).trans (iiW_gt_t h)
theorem i0W_gt_f {x : Int32} (h : ¬ ((0 : Int32) < x)) : ifCond.holds .gt x = false := (if0 _ _).trans (iiW_gt_f h)
theorem i0W_le_t {x : Int32} (h : ¬ ((0 : Int32) < x)) : ifCond.holds .le x = true := (if0 _ _).trans (iiW_le_t h)
theorem i0W_le_f {x : Int32} (h : ¬ ¬ ((0 : Int32) < x)) : ifCond.holds .le x = false := (if0 _ _).trans (iiW_le_f h)
theorem i0W_eq_t {x : Int32} (h : x = (0 : Int32)) : ifCond.holds .eq x = true := (if0 _ _).trans (iiW_eq_t h)
theorem i0W_eq_f {x : Int32} (h : ¬ (x = (0 : Int32))) : ifCond.holds .eq x = false := (if0 _ _).trans (iiW_eq_f h)
theorem i0W_ne_t {x : Int32} (h : ¬ (x = (0 : Int32))) : ifCond.holds .ne x = true := (if0 _ _).trans (iiW_ne_t h)
theorem i0W_ne_f {x : Int32} (h : ¬ ¬ (x = (0 : Int32))) : ifCond.holds .ne x = false := (if0 _ _).trans (iiW_ne_f h)
theorem lcW_lt_t {x y : Int64} (h : x < y) : ifCond.holds .lt (lcmpW x y) = true := i0W_lt_t ((lw_lt x y).mpr h)
theorem lcW_lt_f {x y : Int64} (h : ¬ (x < y)) : ifCond.holds .lt (lcmpW x y) = false := i0W_lt_f fun q => h ((lw_lt x y).mp q)
theorem lcW_ge_t {x y : Int64} (h : ¬ (x < y)) : ifCond.holds .ge (lcmpW x y) = true := i0W_ge_t fun q => h ((lw_lt x y).mp q)
theorem lcW_ge_f {x y : Int64} (h : ¬ ¬ (x < y)) : ifCond.holds .ge (lcmpW x y) = false := i0W_ge_f fun q => h fun z => q ((lw_lt x y).mpr z)
theorem lcW_gt_t {x y : Int64} (h : y < x) : ifCond.holds .gt (lcmpW x y) = true := i0W_gt_t ((lw_gt x y).mpr h)
theorem lcW_gt_f {x y : Int64} (h : ¬ (y < x)) : ifCond.holds .gt (lcmpW x y) = false := i0W_gt_f fun q => h ((lw_gt x y).mp q)
theorem lcW_le_t {x y : Int64} (h : ¬ (y < x)) : ifCond.holds .le (lcmpW x y) = true := i0W_le_t fun q => h ((lw_gt x y).mp q)
theorem lcW_le_f {x y : Int64} (h : ¬ ¬ (y < x)) : ifCond.holds .le (lcmpW x y) = false := i0W_le_f fun q => h fun z => q ((lw_gt x y).mpr z)
theorem lcW_eq_t {x y : Int64} (h : x = y) : ifCond.holds .eq (lcmpW x y) = true := i0W_eq_t ((lw_eq x y).mpr h)
theorem lcW_eq_f {x y : Int64} (h : ¬ (x = y)) : ifCond.holds .eq (lcmpW x y) = false := i0W_eq_f fun q => h ((lw_eq x y).mp q)
theorem lcW_ne_t {x y : Int64} (h : ¬ (x = y)) : ifCond.holds .ne (lcmpW x y) = true := i0W_ne_t fun q => h ((lw_eq x y).mp q)
theorem lcW_ne_f {x y : Int64} (h : ¬ ¬ (x = y)) : ifCond.holds .ne (lcmpW x y) = false := i0W_ne_f fun q => h fun z => q ((lw_eq x y).mpr z)
/-- how two whole numbers compare, as dcmp pushes it -/
def cmpZ (i j : Int) : Int32 := if i < j then -1 else if i = j then 0 else 1
theorem cmpZ_lt (i j : Int) : cmpZ i j < (0 : Int32) ↔ i < j := by
  unfold cmpZ
  by_cases h1 : i < j
  · rw [if_pos h1]; exact ⟨fun _ => h1, fun _ => by decide⟩
  · rw [if_neg h1]
    by_cases h2 : i = j
    · rw [if_pos h2]; exact ⟨fun q => absurd q (by decide), fun q => absurd q h1⟩
    · rw [if_neg h2]; exact ⟨fun q => absurd q (by decide), fun q => absurd q h1⟩
theorem cmpZ_gt (i j : Int) : (0 : Int32) < cmpZ i j ↔ j < i := by
  unfold cmpZ
  by_cases h1 : i < j
  · rw [if_pos h1]; exact ⟨fun q => absurd q (by decide), fun q => by omega⟩
  · rw [if_neg h1]
    by_cases h2 : i = j
    · rw [if_pos h2]; exact ⟨fun q => absurd q (by decide), fun q => by omega⟩
    · rw [if_neg h2]; exact ⟨fun _ => by omega, fun _ => by decide⟩
theorem cmpZ_eq (i j : Int) : cmpZ i j = (0 : Int32) ↔ i = j := by
  unfold cmpZ
  by_cases h1 : i < j
  · rw [if_pos h1]; exact ⟨fun q => absurd q (by decide), fun q => by omega⟩
  · rw [if_neg h1]
    by_cases h2 : i = j
    · rw [if_pos h2]; exact ⟨fun _ => h2, fun _ => rfl⟩
    · rw [if_neg h2]; exact ⟨fun q => absurd q (by decide), fun q => absurd q h2⟩
theorem ciW_lt_t {x y : Int} (h : x < y) : ifCond.holds .lt (cmpZ x y) = true := i0W_lt_t ((cmpZ_lt x y).mpr h)
theorem ciW_lt_f {x y : Int} (h : ¬ (x < y)) : ifCond.holds .lt (cmpZ x y) = false := i0W_lt_f fun q => h ((cmpZ_lt x y).mp q)
theorem ciW_ge_t {x y : Int} (h : ¬ (x < y)) : ifCond.holds .ge (cmpZ x y) = true := i0W_ge_t fun q => h ((cmpZ_lt x y).mp q)
theorem ciW_ge_f {x y : Int} (h : ¬ ¬ (x < y)) : ifCond.holds .ge (cmpZ x y) = false := i0W_ge_f fun q => h fun z => q ((cmpZ_lt x y).mpr z)
theorem ciW_gt_t {x y : Int} (h : y < x) : ifCond.holds .gt (cmpZ x y) = true := i0W_gt_t ((cmpZ_gt x y).mpr h)
theorem ciW_gt_f {x y : Int} (h : ¬ (y < x)) : ifCond.holds .gt (cmpZ x y) = false := i0W_gt_f fun q => h ((cmpZ_gt x y).mp q)
theorem ciW_le_t {x y : Int} (h : ¬ (y < x)) : ifCond.holds .le (cmpZ x y) = true := i0W_le_t fun q => h ((cmpZ_gt x y).mp q)
theorem ciW_le_f {x y : Int} (h : ¬ ¬ (y < x)) : ifCond.holds .le (cmpZ x y) = false := i0W_le_f fun q => h fun z => q ((cmpZ_gt x y).mpr z)
theorem ciW_eq_t {x y : Int} (h : x = y) : ifCond.holds .eq (cmpZ x y) = true := i0W_eq_t ((cmpZ_eq x y).mpr h)
theorem ciW_eq_f {x y : Int} (h : ¬ (x = y)) : ifCond.holds .eq (cmpZ x y) = false := i0W_eq_f fun q => h ((cmpZ_eq x y).mp q)
theorem ciW_ne_t {x y : Int} (h : ¬ (x = y)) : ifCond.holds .ne (cmpZ x y) = true := i0W_ne_t fun q => h ((cmpZ_eq x y).mp q)
theorem ciW_ne_f {x y : Int} (h : ¬ ¬ (x = y)) : ifCond.holds .ne (cmpZ x y) = false := i0W_ne_f fun q => h fun z => q ((cmpZ_eq x y).mpr z)
section B
variable {C : Prop} [Decidable C]
theorem b01or (C : Prop) [Decidable C] : (if C then (1 : Int32) else (0 : Int32)) = 0 ∨ (if C then (1 : Int32) else (0 : Int32)) = 1 := by split <;> simp
theorem b01_eq_t (h : ¬ (C)) : ifCond.holds .eq (if C then (1 : Int32) else (0 : Int32)) = true := by rw [if_neg h]; rfl
theorem b01_eq_f (h : ¬ ¬ (C)) : ifCond.holds .eq (if C then (1 : Int32) else (0 : Int32)) = false := by rw [if_pos (Decidable.not_not.mp h)]; rfl
theorem b01_ne_t (h : C) : ifCond.holds .ne (if C then (1 : Int32) else (0 : Int32)) = true := by rw [if_pos h]; rfl
theorem b01_ne_f (h : ¬ (C)) : ifCond.holds .ne (if C then (1 : Int32) else (0 : Int32)) = false := by rw [if_neg h]; rfl
end B
theorem narrow_01 {x : Int32} (h : x = 0 ∨ x = 1) : narrow .boolean (.int x) = .int x := by rcases h with rfl | rfl <;> rfl
theorem fits_01 {x : Int32} (h : x = 0 ∨ x = 1) : fits .boolean (.int x) = true := by rcases h with rfl | rfl <;> rfl
theorem cat1 {v : Value} (h : v.isRef = true) : v.category = 1 := by cases v <;> first | rfl | (simp [Value.isRef] at h)
theorem narrow_refT {v : Value} {t : FieldType} (h : v.isRef = true) : narrow t v = v := by cases v <;> first | (simp [Value.isRef] at h; done) | (cases t <;> rfl)
theorem fits_refT {v : Value} {t : FieldType} (h : v.isRef = true) (ht : t.isReference = true) : fits t v = true := by cases v <;> first | (simp [Value.isRef] at h; done) | (cases t <;> first | rfl | (simp [FieldType.isReference] at ht; done))
theorem nab_mul {i j : Int} {A B : Nat} (h1 : i.natAbs ≤ A) (h2 : j.natAbs ≤ B) : (i * j).natAbs ≤ A * B := by rw [Int.natAbs_mul]; exact Nat.mul_le_mul h1 h2
theorem nab_add {i j : Int} {A B : Nat} (h1 : i.natAbs ≤ A) (h2 : j.natAbs ≤ B) : (i + j).natAbs ≤ A + B := by omega
theorem nab_sub {i j : Int} {A B : Nat} (h1 : i.natAbs ≤ A) (h2 : j.natAbs ≤ B) : (i - j).natAbs ≤ A + B := by omega
/-! whole numbers as doubles -/
section C
open Jvm.FP Jvm.FP.Core Jvm.Free.Fl
theorem dint_c0 : DInt 0 FP.dconst0 := by
  have h := i2d_int 0
  rwa [show Core.i2d 0 = FP.dconst0 from by decide +kernel] at h
theorem dint_c1 : DInt 1 FP.dconst1 := by
  have h := i2d_int 1
  rwa [show Core.i2d 1 = FP.dconst1 from by decide +kernel] at h
theorem dint_ite {C : Prop} [Decidable C] {i j : Int} {a b : UInt64} (h1 : C → DInt i a) (h0 : ¬ C → DInt j b) : DInt (if C then i else j) (if C then a else b) := by
  by_cases h : C
  · rw [if_pos h, if_pos h]; exact h1 h
  · rw [if_neg h, if_neg h]; exact h0 h
theorem nnD {i : Int} {a : UInt64} (h : DInt i a) : NoNaN64 a := val64_no.mpr (DInt_ne_nan h)
theorem dcmpZ {i j : Int} {a b : UInt64} (ha : DInt i a) (hb : DInt j b) {o : CmpOp} : cmpValue (FP.dcmp a b) o = cmpZ i j := by
  rw [show FP.dcmp a b = some (compare i j) from dcmp_int ha hb, compare_ite]
  unfold cmpZ
  split
  · rfl
  · split <;> rfl
end C
end Jvm.OwnW
namespace Jvm.Pilot.@@N@@
open Jvm Jvm.ClassFile Sem Op Lib Jvm.Free Jvm.Stand Jvm.LawKit Jvm.RoadKit Jvm.OwnW Bundle Jvm.Pilot.@@N@@.Jvm.D
open Jvm.FP.Core (DInt i2d_int l2d_int dadd_int dsub_int dmul_int dneg_int zval b64 val64 dcmp_zval compare_ite i2d_ne_zero DInt_ne_nan dcmp_int dcmp_l2d)

theorem own_j (c : Int32) : ∃ i : Nat, ((c &&& (2147483647 : Int32)) - (c &&& (2147483647 : Int32)) / (3 : Int32) * (3 : Int32)).toInt = (i : Int) ∧ i < 3 := by
  rw [irem_eq_mod]
  have h0 := c_and c 2147483647 (by decide)
  have h := (c_irem (c &&& 2147483647) 3 3 (by decide)).1 h0.1
  exact ⟨((c &&& 2147483647) % 3).toInt.toNat, by omega, by omega⟩
theorem own_at (u0 u1 u2 : UInt64) (j : Int32) (i : Nat) (hj : j.toInt = (i : Int)) (hi : i < 3) : oupd (oupd (oupd (fun _ => (0 : UInt64)) 0 u0) 1 u1) 2 u2 i = (if j = (0 : Int32) then u0 else (if j = (1 : Int32) then u1 else u2)) := by
  have e0 : j = 0 ↔ i = 0 := by rw [← Int32.toInt_inj, hj]; show (i : Int) = 0 ↔ _; omega
  have e1 : j = 1 ↔ i = 1 := by rw [← Int32.toInt_inj, hj]; show (i : Int) = 1 ↔ _; omega
  unfold oupd
  by_cases a : i = 0
  · simp [e0, a]
  · by_cases b : i = 1
    · simp [e0, e1, b]
    · have : i = 2 := by omega
      simp [e0, e1, this]
theorem own_nnat (u0 u1 u2 : UInt64) (j : Int32) (n0 : Jvm.Free.Fl.NoNaN64 u0) (n1 : Jvm.Free.Fl.NoNaN64 u1) (n2 : Jvm.Free.Fl.NoNaN64 u2) : Jvm.Free.Fl.NoNaN64 (if j = (0 : Int32) then u0 else (if j = (1 : Int32) then u1 else u2)) := by
  split
  · exact n0
  · split
    · exact n1
    · exact n2
theorem own_e1 (C : Prop) [Decidable C] (u0 u1 u2 : UInt64) (j : Int32) (i : Nat) (hj : j.toInt = (i : Int)) (hi : i < 3) (n0 : Jvm.Free.Fl.NoNaN64 u0) (n1 : Jvm.Free.Fl.NoNaN64 u1) (n2 : Jvm.Free.Fl.NoNaN64 u2) :
    cmpValue (FP.dcmp (if (if C then (1 : Int32) else (0 : Int32)) = (0 : Int32) then FP.dconst1 else oupd (oupd (oupd (fun _ => (0 : UInt64)) 0 u0) 1 u1) 2 u2 i) (if C then (if j = (0 : Int32) then u0 else (if j = (1 : Int32) then u1 else u2)) else FP.dconst1)) .l = (0 : Int32) := by
  rw [own_at u0 u1 u2 j i hj hi]
  by_cases h : C
  · rw [if_pos h, if_neg (by decide), if_pos h]; exact dcmpV_self (own_nnat u0 u1 u2 j n0 n1 n2) _
  · rw [if_neg h, if_pos rfl, if_neg h]; exact dcmpV_self (nnD dint_c1) _
theorem own_e2 (u0 u1 u2 : UInt64) (j : Int32) (i : Nat) (hj : j.toInt = (i : Int)) (hi : i < 3) (n0 : Jvm.Free.Fl.NoNaN64 u0) (n1 : Jvm.Free.Fl.NoNaN64 u1) (n2 : Jvm.Free.Fl.NoNaN64 u2) :
    cmpValue (FP.dcmp (if (1 : Int32) = (0 : Int32) then FP.dconst1 else oupd (oupd (oupd (fun _ => (0 : UInt64)) 0 u0) 1 u1) 2 u2 i) (if j = (0 : Int32) then u0 else (if j = (1 : Int32) then u1 else u2))) .l = (0 : Int32) := by
  rw [own_at u0 u1 u2 j i hj hi, if_neg (by decide)]
  exact dcmpV_self (own_nnat u0 u1 u2 j n0 n1 n2) _
theorem tw0 {a0 : Array Value} {Z : State} (hw : ∀ d ∈ tables_1, d.before a0 Z = true) : (Jvm.Cond.methodLink "com/example/marginfold/marginfold/perimeter/MeasureRowUnitPinLaw" (9 : Nat) ({ cls := "com/example/marginfold/marginfold/perimeter/MeasureRowUnitPinLaw", name := "unitOf", desc := "(I)D" } : Jvm.MethodName)).before a0 Z = true := hw _ (List.mem_of_getElem? (i := 0) rfl)
theorem tw1 {a0 : Array Value} {Z : State} (hw : ∀ d ∈ tables_1, d.before a0 Z = true) : (Jvm.Cond.static ({ cls := "com/example/marginfold/marginfold/perimeter/MeasureRowUnitPinLaw", name := "unitOf", desc := "(I)D" } : Jvm.MethodName)).before a0 Z = true := hw _ (List.mem_of_getElem? (i := 1) rfl)
theorem tw2 {a0 : Array Value} {Z : State} (hw : ∀ d ∈ tables_1, d.before a0 Z = true) : (Jvm.Cond.initialized "com/example/marginfold/marginfold/perimeter/MeasureRowUnitPinLaw").before a0 Z = true := hw _ (List.mem_of_getElem? (i := 2) rfl)
theorem tw3 {a0 : Array Value} {Z : State} (hw : ∀ d ∈ tables_1, d.before a0 Z = true) : (Jvm.Cond.code ({ cls := "com/example/marginfold/marginfold/perimeter/MeasureRowUnitPinLaw", name := "unitOf", desc := "(I)D" } : Jvm.MethodName) method_2_code (1 : Nat) (Option.some Jvm.ClassFile.FieldType.double)).before a0 Z = true := hw _ (List.mem_of_getElem? (i := 3) rfl)
theorem tw4 {a0 : Array Value} {Z : State} (hw : ∀ d ∈ tables_1, d.before a0 Z = true) : (Jvm.Cond.constantLong "com/example/marginfold/marginfold/perimeter/MeasureRowUnitPinLaw" (7 : Nat) (2147483647 : Int64)).before a0 Z = true := hw _ (List.mem_of_getElem? (i := 4) rfl)
theorem tw5 {a0 : Array Value} {Z : State} (hw : ∀ d ∈ tables_1, d.before a0 Z = true) : (Jvm.Cond.arrayClass Jvm.ClassFile.FieldType.double).before a0 Z = true := hw _ (List.mem_of_getElem? (i := 5) rfl)
theorem tw6 {a0 : Array Value} {Z : State} (hw : ∀ d ∈ tables_1, d.before a0 Z = true) : (Jvm.Cond.constant "com/example/marginfold/marginfold/perimeter/MeasureRowUnitPinLaw" (15 : Nat) (2147483647 : Int32)).before a0 Z = true := hw _ (List.mem_of_getElem? (i := 6) rfl)
theorem tw7 {a0 : Array Value} {Z : State} (hw : ∀ d ∈ tables_1, d.before a0 Z = true) : (Jvm.Cond.classLink "com/example/marginfold/marginfold/perimeter/MeasureRowUnitPinLaw" (16 : Nat) "com/example/marginfold/marginfold/perimeter/Measure").before a0 Z = true := hw _ (List.mem_of_getElem? (i := 7) rfl)
theorem tw8 {a0 : Array Value} {Z : State} (hw : ∀ d ∈ tables_1, d.before a0 Z = true) : (Jvm.Cond.instantiable "com/example/marginfold/marginfold/perimeter/Measure" (4 : Nat)).before a0 Z = true := hw _ (List.mem_of_getElem? (i := 8) rfl)
theorem tw9 {a0 : Array Value} {Z : State} (hw : ∀ d ∈ tables_1, d.before a0 Z = true) : (Jvm.Cond.initialized "com/example/marginfold/marginfold/perimeter/Measure").before a0 Z = true := hw _ (List.mem_of_getElem? (i := 9) rfl)
theorem tw10 {a0 : Array Value} {Z : State} (hw : ∀ d ∈ tables_1, d.before a0 Z = true) : (Jvm.Cond.methodLink "com/example/marginfold/marginfold/perimeter/MeasureRowUnitPinLaw" (18 : Nat) ({ cls := "com/example/marginfold/marginfold/perimeter/Measure", name := "<init>", desc := "([DDZZ)V" } : Jvm.MethodName)).before a0 Z = true := hw _ (List.mem_of_getElem? (i := 10) rfl)
theorem tw11 {a0 : Array Value} {Z : State} (hw : ∀ d ∈ tables_1, d.before a0 Z = true) : (Jvm.Cond.instanceMethod ({ cls := "com/example/marginfold/marginfold/perimeter/Measure", name := "<init>", desc := "([DDZZ)V" } : Jvm.MethodName)).before a0 Z = true := hw _ (List.mem_of_getElem? (i := 11) rfl)
theorem tw12 {a0 : Array Value} {Z : State} (hw : ∀ d ∈ tables_1, d.before a0 Z = true) : (Jvm.Cond.code ({ cls := "com/example/marginfold/marginfold/perimeter/Measure", name := "<init>", desc := "([DDZZ)V" } : Jvm.MethodName) prog_27_method_1_code (6 : Nat) (Option.none : Option Jvm.ClassFile.FieldType)).before a0 Z = true := hw _ (List.mem_of_getElem? (i := 12) rfl)
theorem tw13 {a0 : Array Value} {Z : State} (hw : ∀ d ∈ tables_1, d.before a0 Z = true) : (Jvm.Cond.methodLink "com/example/marginfold/marginfold/perimeter/Measure" (1 : Nat) ({ cls := "java/lang/Record", name := "<init>", desc := "()V" } : Jvm.MethodName)).before a0 Z = true := hw _ (List.mem_of_getElem? (i := 13) rfl)
theorem tw14 {a0 : Array Value} {Z : State} (hw : ∀ d ∈ tables_1, d.before a0 Z = true) : (Jvm.Cond.instanceMethod ({ cls := "java/lang/Record", name := "<init>", desc := "()V" } : Jvm.MethodName)).before a0 Z = true := hw _ (List.mem_of_getElem? (i := 14) rfl)
theorem tw16 {a0 : Array Value} {Z : State} (hw : ∀ d ∈ tables_1, d.before a0 Z = true) : (Jvm.Cond.initialized "java/lang/Record").before a0 Z = true := hw _ (List.mem_of_getElem? (i := 16) rfl)
theorem tw17 {a0 : Array Value} {Z : State} (hw : ∀ d ∈ tables_1, d.before a0 Z = true) : (Jvm.Cond.code ({ cls := "java/lang/Record", name := "<init>", desc := "()V" } : Jvm.MethodName) jdk_30_method_1_code (1 : Nat) (Option.none : Option Jvm.ClassFile.FieldType)).before a0 Z = true := hw _ (List.mem_of_getElem? (i := 17) rfl)
theorem tw18 {a0 : Array Value} {Z : State} (hw : ∀ d ∈ tables_1, d.before a0 Z = true) : (Jvm.Cond.methodLink "java/lang/Record" (1 : Nat) ({ cls := "java/lang/Object", name := "<init>", desc := "()V" } : Jvm.MethodName)).before a0 Z = true := hw _ (List.mem_of_getElem? (i := 18) rfl)
theorem tw19 {a0 : Array Value} {Z : State} (hw : ∀ d ∈ tables_1, d.before a0 Z = true) : (Jvm.Cond.instanceMethod ({ cls := "java/lang/Object", name := "<init>", desc := "()V" } : Jvm.MethodName)).before a0 Z = true := hw _ (List.mem_of_getElem? (i := 19) rfl)
theorem tw20 {a0 : Array Value} {Z : State} (hw : ∀ d ∈ tables_1, d.before a0 Z = true) : (Jvm.Cond.code ({ cls := "java/lang/Object", name := "<init>", desc := "()V" } : Jvm.MethodName) object_method_1_code (1 : Nat) (Option.none : Option Jvm.ClassFile.FieldType)).before a0 Z = true := hw _ (List.mem_of_getElem? (i := 20) rfl)
theorem tw21 {a0 : Array Value} {Z : State} (hw : ∀ d ∈ tables_1, d.before a0 Z = true) : (Jvm.Cond.fieldLink "com/example/marginfold/marginfold/perimeter/Measure" (7 : Nat) "com/example/marginfold/marginfold/perimeter/Measure" "units" "[D").before a0 Z = true := hw _ (List.mem_of_getElem? (i := 21) rfl)
theorem tw22 {a0 : Array Value} {Z : State} (hw : ∀ d ∈ tables_1, d.before a0 Z = true) : (Jvm.Cond.laysFinal "com/example/marginfold/marginfold/perimeter/Measure" "com/example/marginfold/marginfold/perimeter/Measure" "units" "[D").before a0 Z = true := hw _ (List.mem_of_getElem? (i := 22) rfl)
theorem tw23 {a0 : Array Value} {Z : State} (hw : ∀ d ∈ tables_1, d.before a0 Z = true) : (Jvm.Cond.fieldLink "com/example/marginfold/marginfold/perimeter/Measure" (13 : Nat) "com/example/marginfold/marginfold/perimeter/Measure" "weight" "D").before a0 Z = true := hw _ (List.mem_of_getElem? (i := 23) rfl)
theorem tw24 {a0 : Array Value} {Z : State} (hw : ∀ d ∈ tables_1, d.before a0 Z = true) : (Jvm.Cond.laysFinal "com/example/marginfold/marginfold/perimeter/Measure" "com/example/marginfold/marginfold/perimeter/Measure" "weight" "D").before a0 Z = true := hw _ (List.mem_of_getElem? (i := 24) rfl)
theorem tw25 {a0 : Array Value} {Z : State} (hw : ∀ d ∈ tables_1, d.before a0 Z = true) : (Jvm.Cond.fieldLink "com/example/marginfold/marginfold/perimeter/Measure" (17 : Nat) "com/example/marginfold/marginfold/perimeter/Measure" "nonNegative" "Z").before a0 Z = true := hw _ (List.mem_of_getElem? (i := 25) rfl)
theorem tw26 {a0 : Array Value} {Z : State} (hw : ∀ d ∈ tables_1, d.before a0 Z = true) : (Jvm.Cond.laysFinal "com/example/marginfold/marginfold/perimeter/Measure" "com/example/marginfold/marginfold/perimeter/Measure" "nonNegative" "Z").before a0 Z = true := hw _ (List.mem_of_getElem? (i := 26) rfl)
theorem tw27 {a0 : Array Value} {Z : State} (hw : ∀ d ∈ tables_1, d.before a0 Z = true) : (Jvm.Cond.fieldLink "com/example/marginfold/marginfold/perimeter/Measure" (21 : Nat) "com/example/marginfold/marginfold/perimeter/Measure" "rowsInMw" "Z").before a0 Z = true := hw _ (List.mem_of_getElem? (i := 27) rfl)
theorem tw28 {a0 : Array Value} {Z : State} (hw : ∀ d ∈ tables_1, d.before a0 Z = true) : (Jvm.Cond.laysFinal "com/example/marginfold/marginfold/perimeter/Measure" "com/example/marginfold/marginfold/perimeter/Measure" "rowsInMw" "Z").before a0 Z = true := hw _ (List.mem_of_getElem? (i := 28) rfl)
theorem tw29 {a0 : Array Value} {Z : State} (hw : ∀ d ∈ tables_1, d.before a0 Z = true) : (Jvm.Cond.methodLink "com/example/marginfold/marginfold/perimeter/MeasureRowUnitPinLaw" (21 : Nat) ({ cls := "com/example/marginfold/marginfold/perimeter/Measure", name := "rowUnit", desc := "(I)D" } : Jvm.MethodName)).before a0 Z = true := hw _ (List.mem_of_getElem? (i := 29) rfl)
theorem tw30 {a0 : Array Value} {Z : State} (hw : ∀ d ∈ tables_1, d.before a0 Z = true) : (Jvm.Cond.declares ({ cls := "com/example/marginfold/marginfold/perimeter/Measure", name := "rowUnit", desc := "(I)D" } : Jvm.MethodName)).before a0 Z = true := hw _ (List.mem_of_getElem? (i := 30) rfl)
theorem tw31 {a0 : Array Value} {Z : State} (hw : ∀ d ∈ tables_1, d.before a0 Z = true) : (Jvm.Cond.instanceMethod ({ cls := "com/example/marginfold/marginfold/perimeter/Measure", name := "rowUnit", desc := "(I)D" } : Jvm.MethodName)).before a0 Z = true := hw _ (List.mem_of_getElem? (i := 31) rfl)
theorem tw32 {a0 : Array Value} {Z : State} (hw : ∀ d ∈ tables_1, d.before a0 Z = true) : (Jvm.Cond.selects "com/example/marginfold/marginfold/perimeter/Measure" ({ cls := "com/example/marginfold/marginfold/perimeter/Measure", name := "rowUnit", desc := "(I)D" } : Jvm.MethodName) ({ cls := "com/example/marginfold/marginfold/perimeter/Measure", name := "rowUnit", desc := "(I)D" } : Jvm.MethodName)).before a0 Z = true := hw _ (List.mem_of_getElem? (i := 32) rfl)
theorem tw33 {a0 : Array Value} {Z : State} (hw : ∀ d ∈ tables_1, d.before a0 Z = true) : (Jvm.Cond.code ({ cls := "com/example/marginfold/marginfold/perimeter/Measure", name := "rowUnit", desc := "(I)D" } : Jvm.MethodName) prog_27_method_7_code (2 : Nat) (Option.some Jvm.ClassFile.FieldType.double)).before a0 Z = true := hw _ (List.mem_of_getElem? (i := 33) rfl)
theorem tw34 {a0 : Array Value} {Z : State} (hw : ∀ d ∈ tables_1, d.before a0 Z = true) : (Jvm.Cond.methodLink "com/example/marginfold/marginfold/perimeter/MeasureRowUnitPinLaw" (24 : Nat) ({ cls := "com/example/marginfold/marginfold/perimeter/Measure", name := "withRowsInMw", desc := "()Lcom/example/marginfold/marginfold/perimeter/Measure;" } : Jvm.MethodName)).before a0 Z = true := hw _ (List.mem_of_getElem? (i := 34) rfl)
theorem tw35 {a0 : Array Value} {Z : State} (hw : ∀ d ∈ tables_1, d.before a0 Z = true) : (Jvm.Cond.declares ({ cls := "com/example/marginfold/marginfold/perimeter/Measure", name := "withRowsInMw", desc := "()Lcom/example/marginfold/marginfold/perimeter/Measure;" } : Jvm.MethodName)).before a0 Z = true := hw _ (List.mem_of_getElem? (i := 35) rfl)
theorem tw36 {a0 : Array Value} {Z : State} (hw : ∀ d ∈ tables_1, d.before a0 Z = true) : (Jvm.Cond.instanceMethod ({ cls := "com/example/marginfold/marginfold/perimeter/Measure", name := "withRowsInMw", desc := "()Lcom/example/marginfold/marginfold/perimeter/Measure;" } : Jvm.MethodName)).before a0 Z = true := hw _ (List.mem_of_getElem? (i := 36) rfl)
theorem tw37 {a0 : Array Value} {Z : State} (hw : ∀ d ∈ tables_1, d.before a0 Z = true) : (Jvm.Cond.selects "com/example/marginfold/marginfold/perimeter/Measure" ({ cls := "com/example/marginfold/marginfold/perimeter/Measure", name := "withRowsInMw", desc := "()Lcom/example/marginfold/marginfold/perimeter/Measure;" } : Jvm.MethodName) ({ cls := "com/example/marginfold/marginfold/perimeter/Measure", name := "withRowsInMw", desc := "()Lcom/example/marginfold/marginfold/perimeter/Measure;" } : Jvm.MethodName)).before a0 Z = true := hw _ (List.mem_of_getElem? (i := 37) rfl)
theorem tw38 {a0 : Array Value} {Z : State} (hw : ∀ d ∈ tables_1, d.before a0 Z = true) : (Jvm.Cond.code ({ cls := "com/example/marginfold/marginfold/perimeter/Measure", name := "withRowsInMw", desc := "()Lcom/example/marginfold/marginfold/perimeter/Measure;" } : Jvm.MethodName) prog_27_method_4_code (1 : Nat) (Option.some (Jvm.ClassFile.FieldType.object "com/example/marginfold/marginfold/perimeter/Measure"))).before a0 Z = true := hw _ (List.mem_of_getElem? (i := 38) rfl)
theorem tw39 {a0 : Array Value} {Z : State} (hw : ∀ d ∈ tables_1, d.before a0 Z = true) : (Jvm.Cond.classLink "com/example/marginfold/marginfold/perimeter/Measure" (8 : Nat) "com/example/marginfold/marginfold/perimeter/Measure").before a0 Z = true := hw _ (List.mem_of_getElem? (i := 39) rfl)
theorem tw40 {a0 : Array Value} {Z : State} (hw : ∀ d ∈ tables_1, d.before a0 Z = true) : (Jvm.Cond.methodLink "com/example/marginfold/marginfold/perimeter/Measure" (42 : Nat) ({ cls := "com/example/marginfold/marginfold/perimeter/Measure", name := "<init>", desc := "([DDZZ)V" } : Jvm.MethodName)).before a0 Z = true := hw _ (List.mem_of_getElem? (i := 40) rfl)
theorem pn_0 : plainName "java/lang/Record" = true := by first | (simp [plainName, overriddenIn]; done) | decide +kernel
theorem pn_1 : plainName "com/example/marginfold/marginfold/perimeter/MeasureRowUnitPinLaw" = true := by first | (simp [plainName, overriddenIn]; done) | decide +kernel
theorem pd_0 : parseMethodDescriptor "()V" = some ⟨[], none⟩ := by decide +kernel
theorem pn_2 : plainName "com/example/marginfold/marginfold/perimeter/Measure" = true := by first | (simp [plainName, overriddenIn]; done) | decide +kernel
theorem pd_1 : parseMethodDescriptor "([DDZZ)V" = some ⟨[(.array .double), .double, .boolean, .boolean], none⟩ := by decide +kernel
theorem pd_2 : parseMethodDescriptor "(I)D" = some ⟨[.int], some .double⟩ := by decide +kernel
theorem pd_3 : parseMethodDescriptor "()Lcom/example/marginfold/marginfold/perimeter/Measure;" = some ⟨[], some (.object "com/example/marginfold/marginfold/perimeter/Measure")⟩ := by decide +kernel
theorem ef_rec (m : MethodId) (x0 : Addr) : entryFrame m #[(.ref x0)] 1 = mkF m 0 #[.val (.ref x0)] [] := by first | (simp [entryFrame, mkF, argsToLocals, Value.category]; done) | rfl
theorem d_rec_0 : decode jdk_30_method_1_code 0 = .ok (.aload_n 0, 1) := by decide +kernel
theorem d_rec_1 : decode jdk_30_method_1_code 1 = .ok (.invokespecial 1, 3) := by decide +kernel
theorem d_rec_4 : decode jdk_30_method_1_code 4 = .ok (.return_, 1) := by decide +kernel
set_option maxRecDepth 65536 in
set_option maxHeartbeats 4000000 in
theorem m_rec (l : Launch) (Z : State) (a0 : Array Value) (hw : ∀ d ∈ tables_1, d.before a0 Z = true) (a : Addr) (h0 : Heap)  :
    OMet l (⟨"java/lang/Record", "<init>", "()V"⟩ : MethodName) jdk_30_method_1_code 1 (Option.none : Option FieldType) [] ({ frames := 1, cells := 0, slots := 0, locals := 12 } : Room) Z h0 [] #[(.ref a)] (fun v h' => v = none ∧ h0 = h') := by
  refine OMet.of (own := "java/lang/Record") (nm := "<init>") (plainFor_of_name pn_0) rfl rfl ?_
  intro p e s m below meth c T0 P0 hby hml hret hnm
  refine Done.step (T' := T0) (g' := (mkF m 0 #[.val (.ref a)] [])) (fun t kk => castTop (ef_rec m a) kk) ?_
  refine Done.step (T' := T0) (g' := (mkF m 1 #[.val (.ref a)] [(.ref a)])) (fun t kk => ?_) ?_
  · show Steps p.tables e below (T0.setTop (mkF m 0 #[.val (.ref a)] [])) t
    refine XS.aloadN P0.here P0.x rfl (hb hby d_rec_0) rfl rfl ?_
    exact kk
  show Done _ _ _ _ _ _ _ _ _ _ _ _ _ _ _ T0 (mkF m 1 #[.val (.ref a)] [(.ref a)])
  refine wInit P0 (tw18 hw) (tw19 hw) (tw20 hw) (by rw [hml]; rfl) (hb hby d_rec_1) (by decide) (W := 0) (Nat.le_of_eq rfl) (by decide) rfl (fun T1 P2 => ?_)
  show Done _ _ _ _ _ _ _ _ _ _ _ _ _ _ _ T1 (mkF m 4 #[.val (.ref a)] [])
  show Done _ _ _ _ _ _ _ _ _ _ _ _ _ _ _ T1 (mkF m 4 #[.val (.ref a)] [])
  exact wRetV P2 hret (hb hby d_rec_4) ⟨rfl, rfl⟩
theorem ef_unitOf (m : MethodId) (x0 : Int32) : entryFrame m #[(.int x0)] 1 = mkF m 0 #[.val (.int x0)] [] := by first | (simp [entryFrame, mkF, argsToLocals, Value.category]; done) | rfl
theorem d_unitOf_0 : decode method_2_code 0 = .ok (.iload_n 0, 1) := by decide +kernel
theorem d_unitOf_1 : decode method_2_code 1 = .ok (.i2l, 1) := by decide +kernel
theorem d_unitOf_2 : decode method_2_code 2 = .ok (.ldc2_w 7, 3) := by decide +kernel
theorem d_unitOf_5 : decode method_2_code 5 = .ok (.land, 1) := by decide +kernel
theorem d_unitOf_6 : decode method_2_code 6 = .ok (.lconst 1, 1) := by decide +kernel
theorem d_unitOf_7 : decode method_2_code 7 = .ok (.ladd, 1) := by decide +kernel
theorem d_unitOf_8 : decode method_2_code 8 = .ok (.l2d, 1) := by decide +kernel
theorem d_unitOf_9 : decode method_2_code 9 = .ok (.dreturn, 1) := by decide +kernel
set_option maxRecDepth 65536 in
set_option maxHeartbeats 4000000 in
theorem m_unitOf (l : Launch) (Z : State) (a0 : Array Value) (hw : ∀ d ∈ tables_1, d.before a0 Z = true) (p0 : Int32) (h0 : Heap)  :
    OMet l (⟨"com/example/marginfold/marginfold/perimeter/MeasureRowUnitPinLaw", "unitOf", "(I)D"⟩ : MethodName) method_2_code 1 (Option.some FieldType.double) [] ({ frames := 0, cells := 0, slots := 0, locals := 0 } : Room) Z h0 [] #[(.int p0)] (fun v h' => v = some (.double (FP.l2d ((p0.toInt64 &&& (2147483647 : Int64)) + (1 : Int64)))) ∧ h0 = h') := by
  refine OMet.of (own := "com/example/marginfold/marginfold/perimeter/MeasureRowUnitPinLaw") (nm := "unitOf") (plainFor_of_name pn_1) rfl rfl ?_
  intro p e s m below meth c T0 P0 hby hml hret hnm
  refine Done.step (T' := T0) (g' := (mkF m 0 #[.val (.int p0)] [])) (fun t kk => castTop (ef_unitOf m p0) kk) ?_
  refine Done.step (T' := T0) (g' := (mkF m 9 #[.val (.int p0)] [(.double (FP.l2d ((p0.toInt64 &&& (2147483647 : Int64)) + (1 : Int64))))])) (fun t kk => ?_) ?_
  · show Steps p.tables e below (T0.setTop (mkF m 0 #[.val (.int p0)] [])) t
    refine XS.iloadN P0.here P0.x rfl (hb hby d_unitOf_0) rfl ?_
    show Steps p.tables e below (T0.setTop (mkF m 1 #[.val (.int p0)] [(.int p0)])) t
    refine XS.i2l P0.here P0.x rfl (hb hby d_unitOf_1) rfl ?_
    show Steps p.tables e below (T0.setTop (mkF m 2 #[.val (.int p0)] [(.long p0.toInt64)])) t
    refine pLdcJ P0 (tw4 hw) (hb hby d_unitOf_2) rfl ?_
    show Steps p.tables e below (T0.setTop (mkF m 5 #[.val (.int p0)] [(.long (2147483647 : Int64)), (.long p0.toInt64)])) t
    refine XS.land P0.here P0.x rfl (hb hby d_unitOf_5) rfl ?_
    show Steps p.tables e below (T0.setTop (mkF m 6 #[.val (.int p0)] [(.long (p0.toInt64 &&& (2147483647 : Int64)))])) t
    refine XS.lconst P0.here P0.x rfl (hb hby d_unitOf_6) ?_
    show Steps p.tables e below (T0.setTop (mkF m 7 #[.val (.int p0)] [(.long (1 : Int64)), (.long (p0.toInt64 &&& (2147483647 : Int64)))])) t
    refine XS.ladd P0.here P0.x rfl (hb hby d_unitOf_7) rfl ?_
    show Steps p.tables e below (T0.setTop (mkF m 8 #[.val (.int p0)] [(.long ((p0.toInt64 &&& (2147483647 : Int64)) + (1 : Int64)))])) t
    refine XS.l2dS P0.here P0.x rfl (hb hby d_unitOf_8) rfl rfl ?_
    exact kk
  show Done _ _ _ _ _ _ _ _ _ _ _ _ _ _ _ T0 (mkF m 9 #[.val (.int p0)] [(.double (FP.l2d ((p0.toInt64 &&& (2147483647 : Int64)) + (1 : Int64))))])
  exact wRetD P0 hret (hb hby d_unitOf_9) ⟨rfl, rfl⟩
theorem ef_init (m : MethodId) (x0 : Addr) (x1 : Addr) (x2 : UInt64) (x3 : Int32) (x4 : Int32) : entryFrame m #[(.ref x0), (.ref x1), (.double x2), (.int x3), (.int x4)] 6 = mkF m 0 #[.val (.ref x0), .val (.ref x1), .val (.double x2), .second, .val (.int x3), .val (.int x4)] [] := by first | (simp [entryFrame, mkF, argsToLocals, Value.category]; done) | rfl
theorem d_init_0 : decode prog_27_method_1_code 0 = .ok (.aload_n 0, 1) := by decide +kernel
theorem d_init_1 : decode prog_27_method_1_code 1 = .ok (.invokespecial 1, 3) := by decide +kernel
theorem d_init_4 : decode prog_27_method_1_code 4 = .ok (.aload_n 0, 1) := by decide +kernel
theorem d_init_5 : decode prog_27_method_1_code 5 = .ok (.aload_n 1, 1) := by decide +kernel
theorem d_init_6 : decode prog_27_method_1_code 6 = .ok (.putfield 7, 3) := by decide +kernel
theorem d_init_9 : decode prog_27_method_1_code 9 = .ok (.aload_n 0, 1) := by decide +kernel
theorem d_init_10 : decode prog_27_method_1_code 10 = .ok (.dload_n 2, 1) := by decide +kernel
theorem d_init_11 : decode prog_27_method_1_code 11 = .ok (.putfield 13, 3) := by decide +kernel
theorem d_init_14 : decode prog_27_method_1_code 14 = .ok (.aload_n 0, 1) := by decide +kernel
theorem d_init_15 : decode prog_27_method_1_code 15 = .ok (.iload 4, 2) := by decide +kernel
theorem d_init_17 : decode prog_27_method_1_code 17 = .ok (.putfield 17, 3) := by decide +kernel
theorem d_init_20 : decode prog_27_method_1_code 20 = .ok (.aload_n 0, 1) := by decide +kernel
theorem d_init_21 : decode prog_27_method_1_code 21 = .ok (.iload 5, 2) := by decide +kernel
theorem d_init_23 : decode prog_27_method_1_code 23 = .ok (.putfield 21, 3) := by decide +kernel
theorem d_init_26 : decode prog_27_method_1_code 26 = .ok (.return_, 1) := by decide +kernel
set_option maxRecDepth 65536 in
set_option maxHeartbeats 4000000 in
theorem m_init (l : Launch) (Z : State) (a0 : Array Value) (hw : ∀ d ∈ tables_1, d.before a0 Z = true) (a : Addr) (p0 : Addr) (p1 : UInt64) (p2 : Int32) (p3 : Int32) (h0 : Heap) (E0 : Exa Z h0 a "com/example/marginfold/marginfold/perimeter/Measure") (b2 : p2 = 0 ∨ p2 = 1) (b3 : p3 = 0 ∨ p3 = 1) (F_units : Fld Z h0 a "com/example/marginfold/marginfold/perimeter/Measure" "units" "[D" .null) (F_weight : Fld Z h0 a "com/example/marginfold/marginfold/perimeter/Measure" "weight" "D" (.double (0 : UInt64))) (F_nonNegative : Fld Z h0 a "com/example/marginfold/marginfold/perimeter/Measure" "nonNegative" "Z" (.int (0 : Int32))) (F_rowsInMw : Fld Z h0 a "com/example/marginfold/marginfold/perimeter/Measure" "rowsInMw" "Z" (.int (0 : Int32))) :
    OMet l (⟨"com/example/marginfold/marginfold/perimeter/Measure", "<init>", "([DDZZ)V"⟩ : MethodName) prog_27_method_1_code 6 (Option.none : Option FieldType) [] ({ frames := 2, cells := 0, slots := 0, locals := 24 } : Room) Z h0 [a] #[(.ref a), (.ref p0), (.double p1), (.int p2), (.int p3)] (fun v h' => v = none ∧ Fld Z h' a "com/example/marginfold/marginfold/perimeter/Measure" "units" "[D" (.ref p0) ∧ Fld Z h' a "com/example/marginfold/marginfold/perimeter/Measure" "weight" "D" (.double p1) ∧ Fld Z h' a "com/example/marginfold/marginfold/perimeter/Measure" "nonNegative" "Z" (.int p2) ∧ Fld Z h' a "com/example/marginfold/marginfold/perimeter/Measure" "rowsInMw" "Z" (.int p3)) := by
  refine OMet.of (own := "com/example/marginfold/marginfold/perimeter/Measure") (nm := "<init>") (plainFor_of_name pn_2) rfl rfl ?_
  intro p e s m below meth c T0 P0 hby hml hret hnm
  refine Done.step (T' := T0) (g' := (mkF m 0 #[.val (.ref a), .val (.ref p0), .val (.double p1), .second, .val (.int p2), .val (.int p3)] [])) (fun t kk => castTop (ef_init m a p0 p1 p2 p3) kk) ?_
  refine Done.step (T' := T0) (g' := (mkF m 1 #[.val (.ref a), .val (.ref p0), .val (.double p1), .second, .val (.int p2), .val (.int p3)] [(.ref a)])) (fun t kk => ?_) ?_
  · show Steps p.tables e below (T0.setTop (mkF m 0 #[.val (.ref a), .val (.ref p0), .val (.double p1), .second, .val (.int p2), .val (.int p3)] [])) t
    refine XS.aloadN P0.here P0.x rfl (hb hby d_init_0) rfl rfl ?_
    exact kk
  show Done _ _ _ _ _ _ _ _ _ _ _ _ _ _ _ T0 (mkF m 1 #[.val (.ref a), .val (.ref p0), .val (.double p1), .second, .val (.int p2), .val (.int p3)] [(.ref a)])
  refine wCallI P0 (m_rec l Z a0 hw a h0) rfl (tw13 hw) (tw14 hw) (tw16 hw) (tw17 hw) (by decide) (a := a) (by rw [hml]; rfl) (lenOf pd_0 rfl) (argsL := []) (rest := []) rfl rfl (W := 0) (Nat.le_of_eq rfl) (by decide) (by decide) (by decide) (by decide) (by simp) (hb hby d_init_1) rfl (k' := 0) (n' := 0) rfl rfl ?_
  rintro T1 _ _ P2 - ⟨rfl, rfl⟩
  show Done _ _ _ _ _ _ _ _ _ _ _ _ _ _ _ T1 (mkF m 4 #[.val (.ref a), .val (.ref p0), .val (.double p1), .second, .val (.int p2), .val (.int p3)] [])
  refine Done.step (T' := T1) (g' := (mkF m 6 #[.val (.ref a), .val (.ref p0), .val (.double p1), .second, .val (.int p2), .val (.int p3)] [(.ref p0), (.ref a)])) (fun t kk => ?_) ?_
  · show Steps p.tables e below (T1.setTop (mkF m 4 #[.val (.ref a), .val (.ref p0), .val (.double p1), .second, .val (.int p2), .val (.int p3)] [])) t
    refine XS.aloadN P2.here P2.x rfl (hb hby d_init_4) rfl rfl ?_
    show Steps p.tables e below (T1.setTop (mkF m 5 #[.val (.ref a), .val (.ref p0), .val (.double p1), .second, .val (.int p2), .val (.int p3)] [(.ref a)])) t
    refine XS.aloadN P2.here P2.x rfl (hb hby d_init_5) rfl rfl ?_
    exact kk
  show Done _ _ _ _ _ _ _ _ _ _ _ _ _ _ _ T1 (mkF m 6 #[.val (.ref a), .val (.ref p0), .val (.double p1), .second, .val (.int p2), .val (.int p3)] [(.ref p0), (.ref a)])
  refine wPut P2 (host := "") (Or.inl (tw21 hw)) Via.refl F_units E0 (Or.inr ⟨(tw22 hw), rfl, hnm⟩) (tw8 hw) (ty := (.array .double)) (by decide) rfl rfl (Or.inl (by simp)) (hb hby d_init_6) rfl (fun T3 h5 P4 W6 F7 => ?_)
  have szh5 : h5.size = h0.size := W6.size
  show Done _ _ _ _ _ _ _ _ _ _ _ _ _ _ _ T3 (mkF m 9 #[.val (.ref a), .val (.ref p0), .val (.double p1), .second, .val (.int p2), .val (.int p3)] [])
  refine Done.step (T' := T3) (g' := (mkF m 11 #[.val (.ref a), .val (.ref p0), .val (.double p1), .second, .val (.int p2), .val (.int p3)] [(.double p1), (.ref a)])) (fun t kk => ?_) ?_
  · show Steps p.tables e below (T3.setTop (mkF m 9 #[.val (.ref a), .val (.ref p0), .val (.double p1), .second, .val (.int p2), .val (.int p3)] [])) t
    refine XS.aloadN P4.here P4.x rfl (hb hby d_init_9) rfl rfl ?_
    show Steps p.tables e below (T3.setTop (mkF m 10 #[.val (.ref a), .val (.ref p0), .val (.double p1), .second, .val (.int p2), .val (.int p3)] [(.ref a)])) t
    refine XS.dloadN P4.here P4.x rfl (hb hby d_init_10) rfl ?_
    exact kk
  have f8 := (F_weight.other W6 (Or.inr (slot_ne (Or.inr (tw24 hw)) (Or.inr (tw22 hw)) (by decide) (t := .double) (t' := (.array .double)) (by decide) (by decide))))
  have f9 := (E0.wr W6)
  show Done _ _ _ _ _ _ _ _ _ _ _ _ _ _ _ T3 (mkF m 11 #[.val (.ref a), .val (.ref p0), .val (.double p1), .second, .val (.int p2), .val (.int p3)] [(.double p1), (.ref a)])
  refine wPut P4 (host := "") (Or.inl (tw23 hw)) Via.refl f8 f9 (Or.inr ⟨(tw24 hw), rfl, hnm⟩) (tw8 hw) (ty := .double) (by decide) rfl rfl (Or.inl (by simp)) (hb hby d_init_11) rfl (fun T10 h12 P11 W13 F14 => ?_)
  have szh12 : h12.size = h5.size := W13.size
  show Done _ _ _ _ _ _ _ _ _ _ _ _ _ _ _ T10 (mkF m 14 #[.val (.ref a), .val (.ref p0), .val (.double p1), .second, .val (.int p2), .val (.int p3)] [])
  refine Done.step (T' := T10) (g' := (mkF m 17 #[.val (.ref a), .val (.ref p0), .val (.double p1), .second, .val (.int p2), .val (.int p3)] [(.int p2), (.ref a)])) (fun t kk => ?_) ?_
  · show Steps p.tables e below (T10.setTop (mkF m 14 #[.val (.ref a), .val (.ref p0), .val (.double p1), .second, .val (.int p2), .val (.int p3)] [])) t
    refine XS.aloadN P11.here P11.x rfl (hb hby d_init_14) rfl rfl ?_
    show Steps p.tables e below (T10.setTop (mkF m 15 #[.val (.ref a), .val (.ref p0), .val (.double p1), .second, .val (.int p2), .val (.int p3)] [(.ref a)])) t
    refine XS.iload P11.here P11.x rfl (hb hby d_init_15) rfl ?_
    exact kk
  have f15 := ((F_nonNegative.other W6 (Or.inr (slot_ne (Or.inr (tw26 hw)) (Or.inr (tw22 hw)) (by decide) (t := .boolean) (t' := (.array .double)) (by decide) (by decide)))).other W13 (Or.inr (slot_ne (Or.inr (tw26 hw)) (Or.inr (tw24 hw)) (by decide) (t := .boolean) (t' := .double) (by decide) (by decide))))
  have f16 := (f9.wr W13)
  show Done _ _ _ _ _ _ _ _ _ _ _ _ _ _ _ T10 (mkF m 17 #[.val (.ref a), .val (.ref p0), .val (.double p1), .second, .val (.int p2), .val (.int p3)] [(.int p2), (.ref a)])
  refine wPut P11 (host := "") (Or.inl (tw25 hw)) Via.refl f15 f16 (Or.inr ⟨(tw26 hw), rfl, hnm⟩) (tw8 hw) (ty := .boolean) (by decide) (narrow_01 b2) (fits_01 b2) (Or.inl (by simp)) (hb hby d_init_17) rfl (fun T17 h19 P18 W20 F21 => ?_)
  have szh19 : h19.size = h12.size := W20.size
  show Done _ _ _ _ _ _ _ _ _ _ _ _ _ _ _ T17 (mkF m 20 #[.val (.ref a), .val (.ref p0), .val (.double p1), .second, .val (.int p2), .val (.int p3)] [])
  refine Done.step (T' := T17) (g' := (mkF m 23 #[.val (.ref a), .val (.ref p0), .val (.double p1), .second, .val (.int p2), .val (.int p3)] [(.int p3), (.ref a)])) (fun t kk => ?_) ?_
  · show Steps p.tables e below (T17.setTop (mkF m 20 #[.val (.ref a), .val (.ref p0), .val (.double p1), .second, .val (.int p2), .val (.int p3)] [])) t
    refine XS.aloadN P18.here P18.x rfl (hb hby d_init_20) rfl rfl ?_
    show Steps p.tables e below (T17.setTop (mkF m 21 #[.val (.ref a), .val (.ref p0), .val (.double p1), .second, .val (.int p2), .val (.int p3)] [(.ref a)])) t
    refine XS.iload P18.here P18.x rfl (hb hby d_init_21) rfl ?_
    exact kk
  have f22 := (((F_rowsInMw.other W6 (Or.inr (slot_ne (Or.inr (tw28 hw)) (Or.inr (tw22 hw)) (by decide) (t := .boolean) (t' := (.array .double)) (by decide) (by decide)))).other W13 (Or.inr (slot_ne (Or.inr (tw28 hw)) (Or.inr (tw24 hw)) (by decide) (t := .boolean) (t' := .double) (by decide) (by decide)))).other W20 (Or.inr (slot_ne (Or.inr (tw28 hw)) (Or.inr (tw26 hw)) (by decide) (t := .boolean) (t' := .boolean) (by decide) (by decide))))
  have f23 := (f16.wr W20)
  show Done _ _ _ _ _ _ _ _ _ _ _ _ _ _ _ T17 (mkF m 23 #[.val (.ref a), .val (.ref p0), .val (.double p1), .second, .val (.int p2), .val (.int p3)] [(.int p3), (.ref a)])
  refine wPut P18 (host := "") (Or.inl (tw27 hw)) Via.refl f22 f23 (Or.inr ⟨(tw28 hw), rfl, hnm⟩) (tw8 hw) (ty := .boolean) (by decide) (narrow_01 b3) (fits_01 b3) (Or.inl (by simp)) (hb hby d_init_23) rfl (fun T24 h26 P25 W27 F28 => ?_)
  have szh26 : h26.size = h19.size := W27.size
  show Done _ _ _ _ _ _ _ _ _ _ _ _ _ _ _ T24 (mkF m 26 #[.val (.ref a), .val (.ref p0), .val (.double p1), .second, .val (.int p2), .val (.int p3)] [])
  show Done _ _ _ _ _ _ _ _ _ _ _ _ _ _ _ T24 (mkF m 26 #[.val (.ref a), .val (.ref p0), .val (.double p1), .second, .val (.int p2), .val (.int p3)] [])
  have f29 := (((F7.other W13 (Or.inr (slot_ne (Or.inr (tw22 hw)) (Or.inr (tw24 hw)) (by decide) (t := (.array .double)) (t' := .double) (by decide) (by decide)))).other W20 (Or.inr (slot_ne (Or.inr (tw22 hw)) (Or.inr (tw26 hw)) (by decide) (t := (.array .double)) (t' := .boolean) (by decide) (by decide)))).other W27 (Or.inr (slot_ne (Or.inr (tw22 hw)) (Or.inr (tw28 hw)) (by decide) (t := (.array .double)) (t' := .boolean) (by decide) (by decide))))
  have f30 := ((F14.other W20 (Or.inr (slot_ne (Or.inr (tw24 hw)) (Or.inr (tw26 hw)) (by decide) (t := .double) (t' := .boolean) (by decide) (by decide)))).other W27 (Or.inr (slot_ne (Or.inr (tw24 hw)) (Or.inr (tw28 hw)) (by decide) (t := .double) (t' := .boolean) (by decide) (by decide))))
  have f31 := (F21.other W27 (Or.inr (slot_ne (Or.inr (tw26 hw)) (Or.inr (tw28 hw)) (by decide) (t := .boolean) (t' := .boolean) (by decide) (by decide))))
  exact wRetV P25 hret (hb hby d_init_26) ⟨rfl, f29, f30, f31, F28⟩
theorem ef_rowUnit (m : MethodId) (x0 : Addr) (x1 : Int32) : entryFrame m #[(.ref x0), (.int x1)] 2 = mkF m 0 #[.val (.ref x0), .val (.int x1)] [] := by first | (simp [entryFrame, mkF, argsToLocals, Value.category]; done) | rfl
theorem d_rowUnit_0 : decode prog_27_method_7_code 0 = .ok (.aload_n 0, 1) := by decide +kernel
theorem d_rowUnit_1 : decode prog_27_method_7_code 1 = .ok (.getfield 21, 3) := by decide +kernel
theorem d_rowUnit_4 : decode prog_27_method_7_code 4 = .ok (.ifCond .eq 12, 3) := by decide +kernel
theorem d_rowUnit_16 : decode prog_27_method_7_code 16 = .ok (.dconst 1, 1) := by decide +kernel
theorem d_rowUnit_17 : decode prog_27_method_7_code 17 = .ok (.dreturn, 1) := by decide +kernel
theorem d_rowUnit_7 : decode prog_27_method_7_code 7 = .ok (.aload_n 0, 1) := by decide +kernel
theorem d_rowUnit_8 : decode prog_27_method_7_code 8 = .ok (.getfield 7, 3) := by decide +kernel
theorem d_rowUnit_11 : decode prog_27_method_7_code 11 = .ok (.iload_n 1, 1) := by decide +kernel
theorem d_rowUnit_12 : decode prog_27_method_7_code 12 = .ok (.daload, 1) := by decide +kernel
theorem d_rowUnit_13 : decode prog_27_method_7_code 13 = .ok (.goto 4, 3) := by decide +kernel
set_option maxRecDepth 65536 in
set_option maxHeartbeats 4000000 in
theorem m_rowUnit (l : Launch) (Z : State) (a0 : Array Value) (hw : ∀ d ∈ tables_1, d.before a0 Z = true) (a : Addr) (j : Int32) (r : Int32) (u : Addr) (N i : Nat) (f : Nat → UInt64) (h0 : Heap) (F1 : Fld Z h0 a "com/example/marginfold/marginfold/perimeter/Measure" "rowsInMw" "Z" (.int r)) (F2 : Fld Z h0 a "com/example/marginfold/marginfold/perimeter/Measure" "units" "[D" (.ref u)) (A : Ar Z h0 u .double N (fun i => .double (f i))) (hj : j.toInt = (i : Int)) (hi : i < N) :
    OMet l (⟨"com/example/marginfold/marginfold/perimeter/Measure", "rowUnit", "(I)D"⟩ : MethodName) prog_27_method_7_code 2 (Option.some FieldType.double) [] ({ frames := 0, cells := 0, slots := 0, locals := 0 } : Room) Z h0 [] #[(.ref a), (.int j)] (fun v h' => v = some (.double (if r = (0 : Int32) then FP.dconst1 else f i)) ∧ h0 = h') := by
  refine OMet.of (own := "com/example/marginfold/marginfold/perimeter/Measure") (nm := "rowUnit") (plainFor_of_name pn_2) rfl rfl ?_
  intro p e s m below meth c T0 P0 hby hml hret hnm
  refine Done.step (T' := T0) (g' := (mkF m 0 #[.val (.ref a), .val (.int j)] [])) (fun t kk => castTop (ef_rowUnit m a j) kk) ?_
  refine Done.step (T' := T0) (g' := (mkF m 1 #[.val (.ref a), .val (.int j)] [(.ref a)])) (fun t kk => ?_) ?_
  · show Steps p.tables e below (T0.setTop (mkF m 0 #[.val (.ref a), .val (.int j)] [])) t
    refine XS.aloadN P0.here P0.x rfl (hb hby d_rowUnit_0) rfl rfl ?_
    exact kk
  show Done _ _ _ _ _ _ _ _ _ _ _ _ _ _ _ T0 (mkF m 1 #[.val (.ref a), .val (.int j)] [(.ref a)])
  refine wGet P0 (host := "") (Or.inl (tw27 hw)) Via.refl F1 (hb hby d_rowUnit_1) rfl (fun T1 P2 => ?_)
  show Done _ _ _ _ _ _ _ _ _ _ _ _ _ _ _ T1 (mkF m 4 #[.val (.ref a), .val (.int j)] [(.int r)])
  by_cases hc : r = (0 : Int32)
  · refine Done.step (T' := T1) (g' := (mkF m 17 #[.val (.ref a), .val (.int j)] [(.double FP.dconst1)])) (fun t kk => ?_) ?_
    · show Steps p.tables e below (T1.setTop (mkF m 4 #[.val (.ref a), .val (.int j)] [(.int r)])) t
      refine XS.ifYes P2.here P2.x rfl (pc0 := 4) (pc' := 16) rfl (hb hby d_rowUnit_4) rfl (i0W_eq_t hc) (by decide) (by decide) ?_
      show Steps p.tables e below (T1.setTop (mkF m 16 #[.val (.ref a), .val (.int j)] [])) t
      refine XS.dconst1 P2.here P2.x rfl (hb hby d_rowUnit_16) rfl ?_
      exact kk
    show Done _ _ _ _ _ _ _ _ _ _ _ _ _ _ _ T1 (mkF m 17 #[.val (.ref a), .val (.int j)] [(.double FP.dconst1)])
    exact wRetD P2 hret (hb hby d_rowUnit_17) ⟨by rw [if_pos hc], rfl⟩
  · refine Done.step (T' := T1) (g' := (mkF m 8 #[.val (.ref a), .val (.int j)] [(.ref a)])) (fun t kk => ?_) ?_
    · show Steps p.tables e below (T1.setTop (mkF m 4 #[.val (.ref a), .val (.int j)] [(.int r)])) t
      refine XS.ifNo P2.here P2.x rfl (hb hby d_rowUnit_4) rfl (i0W_eq_f (show ¬ (r = (0 : Int32)) from hc)) ?_
      show Steps p.tables e below (T1.setTop (mkF m 7 #[.val (.ref a), .val (.int j)] [])) t
      refine XS.aloadN P2.here P2.x rfl (hb hby d_rowUnit_7) rfl rfl ?_
      exact kk
    show Done _ _ _ _ _ _ _ _ _ _ _ _ _ _ _ T1 (mkF m 8 #[.val (.ref a), .val (.int j)] [(.ref a)])
    refine wGet P2 (host := "") (Or.inl (tw21 hw)) Via.refl F2 (hb hby d_rowUnit_8) rfl (fun T3 P4 => ?_)
    show Done _ _ _ _ _ _ _ _ _ _ _ _ _ _ _ T3 (mkF m 11 #[.val (.ref a), .val (.int j)] [(.ref u)])
    refine Done.step (T' := T3) (g' := (mkF m 12 #[.val (.ref a), .val (.int j)] [(.int j), (.ref u)])) (fun t kk => ?_) ?_
    · show Steps p.tables e below (T3.setTop (mkF m 11 #[.val (.ref a), .val (.int j)] [(.ref u)])) t
      refine XS.iloadN P4.here P4.x rfl (hb hby d_rowUnit_11) rfl ?_
      exact kk
    show Done _ _ _ _ _ _ _ _ _ _ _ _ _ _ _ T3 (mkF m 12 #[.val (.ref a), .val (.int j)] [(.int j), (.ref u)])
    refine wDaload P4 A (j := j) (i := i) hj hi (v := (.double (f i))) rfl (hb hby d_rowUnit_12) rfl ?_
    show Done _ _ _ _ _ _ _ _ _ _ _ _ _ _ _ T3 (mkF m 13 #[.val (.ref a), .val (.int j)] [(.double (f i))])
    refine Done.step (T' := T3) (g' := (mkF m 17 #[.val (.ref a), .val (.int j)] [(.double (f i))])) (fun t kk => ?_) ?_
    · show Steps p.tables e below (T3.setTop (mkF m 13 #[.val (.ref a), .val (.int j)] [(.double (f i))])) t
      refine XS.goto P4.here P4.x rfl (pc0 := 13) (pc' := 17) rfl (hb hby d_rowUnit_13) (by decide) (by decide) ?_
      exact kk
    show Done _ _ _ _ _ _ _ _ _ _ _ _ _ _ _ T3 (mkF m 17 #[.val (.ref a), .val (.int j)] [(.double (f i))])
    exact wRetD P4 hret (hb hby d_rowUnit_17) ⟨by rw [if_neg hc], rfl⟩
theorem ef_withRows (m : MethodId) (x0 : Addr) : entryFrame m #[(.ref x0)] 1 = mkF m 0 #[.val (.ref x0)] [] := by first | (simp [entryFrame, mkF, argsToLocals, Value.category]; done) | rfl
theorem d_withRows_0 : decode prog_27_method_4_code 0 = .ok (.new 8, 3) := by decide +kernel
theorem d_withRows_3 : decode prog_27_method_4_code 3 = .ok (.dup, 1) := by decide +kernel
theorem d_withRows_4 : decode prog_27_method_4_code 4 = .ok (.aload_n 0, 1) := by decide +kernel
theorem d_withRows_5 : decode prog_27_method_4_code 5 = .ok (.getfield 7, 3) := by decide +kernel
theorem d_withRows_8 : decode prog_27_method_4_code 8 = .ok (.aload_n 0, 1) := by decide +kernel
theorem d_withRows_9 : decode prog_27_method_4_code 9 = .ok (.getfield 13, 3) := by decide +kernel
theorem d_withRows_12 : decode prog_27_method_4_code 12 = .ok (.aload_n 0, 1) := by decide +kernel
theorem d_withRows_13 : decode prog_27_method_4_code 13 = .ok (.getfield 17, 3) := by decide +kernel
theorem d_withRows_16 : decode prog_27_method_4_code 16 = .ok (.iconst 1, 1) := by decide +kernel
theorem d_withRows_17 : decode prog_27_method_4_code 17 = .ok (.invokespecial 42, 3) := by decide +kernel
theorem d_withRows_20 : decode prog_27_method_4_code 20 = .ok (.areturn, 1) := by decide +kernel
set_option maxRecDepth 65536 in
set_option maxHeartbeats 4000000 in
theorem m_withRows (l : Launch) (Z : State) (a0 : Array Value) (hw : ∀ d ∈ tables_1, d.before a0 Z = true) (a : Addr) (u : Addr) (w : UInt64) (r : Int32) (h0 : Heap) (F1 : Fld Z h0 a "com/example/marginfold/marginfold/perimeter/Measure" "units" "[D" (.ref u)) (F2 : Fld Z h0 a "com/example/marginfold/marginfold/perimeter/Measure" "weight" "D" (.double w)) (F3 : Fld Z h0 a "com/example/marginfold/marginfold/perimeter/Measure" "nonNegative" "Z" (.int r)) (b3 : r = 0 ∨ r = 1) :
    OMet l (⟨"com/example/marginfold/marginfold/perimeter/Measure", "withRowsInMw", "()Lcom/example/marginfold/marginfold/perimeter/Measure;"⟩ : MethodName) prog_27_method_4_code 1 (Option.some (FieldType.object "com/example/marginfold/marginfold/perimeter/Measure")) [] ({ frames := 3, cells := 1, slots := 4, locals := 42 } : Room) Z h0 [] #[(.ref a)] (fun v h' => ∃ b, v = some (.ref b) ∧ h0.size ≤ b ∧ b < h'.size ∧ Exa Z h' b "com/example/marginfold/marginfold/perimeter/Measure" ∧ Fld Z h' b "com/example/marginfold/marginfold/perimeter/Measure" "units" "[D" (.ref u) ∧ Fld Z h' b "com/example/marginfold/marginfold/perimeter/Measure" "weight" "D" (.double w) ∧ Fld Z h' b "com/example/marginfold/marginfold/perimeter/Measure" "nonNegative" "Z" (.int r) ∧ Fld Z h' b "com/example/marginfold/marginfold/perimeter/Measure" "rowsInMw" "Z" (.int 1)) := by
  refine OMet.of (own := "com/example/marginfold/marginfold/perimeter/Measure") (nm := "withRowsInMw") (plainFor_of_name pn_2) rfl rfl ?_
  intro p e s m below meth c T0 P0 hby hml hret hnm
  refine Done.step (T' := T0) (g' := (mkF m 0 #[.val (.ref a)] [])) (fun t kk => castTop (ef_withRows m a) kk) ?_
  show Done _ _ _ _ _ _ _ _ _ _ _ _ _ _ _ T0 (mkF m 0 #[.val (.ref a)] [])
  refine wNew P0 (tw39 hw) (tw8 hw) (tw9 hw) (hb hby d_withRows_0) rfl (by decide) (by decide) (k' := 1) (n' := 4) rfl rfl (fun T1 h3 b4 g5 lt6 P2 E7 X8 D9 => ?_)
  have ge_b4 : h0.size ≤ b4 := by have := P0.ge; omega
  have F10 : Fld Z h3 b4 "com/example/marginfold/marginfold/perimeter/Measure" "units" "[D" .null := D9 (Or.inr (tw22 hw)) (ty := (.array .double)) (by decide)
  have F11 : Fld Z h3 b4 "com/example/marginfold/marginfold/perimeter/Measure" "weight" "D" (.double (0 : UInt64)) := D9 (Or.inr (tw24 hw)) (ty := .double) (by decide)
  have F12 : Fld Z h3 b4 "com/example/marginfold/marginfold/perimeter/Measure" "nonNegative" "Z" (.int (0 : Int32)) := D9 (Or.inr (tw26 hw)) (ty := .boolean) (by decide)
  have F13 : Fld Z h3 b4 "com/example/marginfold/marginfold/perimeter/Measure" "rowsInMw" "Z" (.int (0 : Int32)) := D9 (Or.inr (tw28 hw)) (ty := .boolean) (by decide)
  show Done _ _ _ _ _ _ _ _ _ _ _ _ _ _ _ T1 (mkF m 3 #[.val (.ref a)] [(.ref b4)])
  refine Done.step (T' := T1) (g' := (mkF m 5 #[.val (.ref a)] [(.ref a), (.ref b4), (.ref b4)])) (fun t kk => ?_) ?_
  · show Steps p.tables e below (T1.setTop (mkF m 3 #[.val (.ref a)] [(.ref b4)])) t
    refine XS.dup P2.here P2.x rfl (hb hby d_withRows_3) rfl rfl ?_
    show Steps p.tables e below (T1.setTop (mkF m 4 #[.val (.ref a)] [(.ref b4), (.ref b4)])) t
    refine XS.aloadN P2.here P2.x rfl (hb hby d_withRows_4) rfl rfl ?_
    exact kk
  have f14 := (F1.ext E7)
  show Done _ _ _ _ _ _ _ _ _ _ _ _ _ _ _ T1 (mkF m 5 #[.val (.ref a)] [(.ref a), (.ref b4), (.ref b4)])
  refine wGet P2 (host := "") (Or.inl (tw21 hw)) Via.refl f14 (hb hby d_withRows_5) rfl (fun T15 P16 => ?_)
  show Done _ _ _ _ _ _ _ _ _ _ _ _ _ _ _ T15 (mkF m 8 #[.val (.ref a)] [(.ref u), (.ref b4), (.ref b4)])
  refine Done.step (T' := T15) (g' := (mkF m 9 #[.val (.ref a)] [(.ref a), (.ref u), (.ref b4), (.ref b4)])) (fun t kk => ?_) ?_
  · show Steps p.tables e below (T15.setTop (mkF m 8 #[.val (.ref a)] [(.ref u), (.ref b4), (.ref b4)])) t
    refine XS.aloadN P16.here P16.x rfl (hb hby d_withRows_8) rfl rfl ?_
    exact kk
  have f17 := (F2.ext E7)
  show Done _ _ _ _ _ _ _ _ _ _ _ _ _ _ _ T15 (mkF m 9 #[.val (.ref a)] [(.ref a), (.ref u), (.ref b4), (.ref b4)])
  refine wGet P16 (host := "") (Or.inl (tw23 hw)) Via.refl f17 (hb hby d_withRows_9) rfl (fun T18 P19 => ?_)
  show Done _ _ _ _ _ _ _ _ _ _ _ _ _ _ _ T18 (mkF m 12 #[.val (.ref a)] [(.double w), (.ref u), (.ref b4), (.ref b4)])
  refine Done.step (T' := T18) (g' := (mkF m 13 #[.val (.ref a)] [(.ref a), (.double w), (.ref u), (.ref b4), (.ref b4)])) (fun t kk => ?_) ?_
  · show Steps p.tables e below (T18.setTop (mkF m 12 #[.val (.ref a)] [(.double w), (.ref u), (.ref b4), (.ref b4)])) t
    refine XS.aloadN P19.here P19.x rfl (hb hby d_withRows_12) rfl rfl ?_
    exact kk
  have f20 := (F3.ext E7)
  show Done _ _ _ _ _ _ _ _ _ _ _ _ _ _ _ T18 (mkF m 13 #[.val (.ref a)] [(.ref a), (.double w), (.ref u), (.ref b4), (.ref b4)])
  refine wGet P19 (host := "") (Or.inl (tw25 hw)) Via.refl f20 (hb hby d_withRows_13) rfl (fun T21 P22 => ?_)
  show Done _ _ _ _ _ _ _ _ _ _ _ _ _ _ _ T21 (mkF m 16 #[.val (.ref a)] [(.int r), (.double w), (.ref u), (.ref b4), (.ref b4)])
  refine Done.step (T' := T21) (g' := (mkF m 17 #[.val (.ref a)] [(.int (1 : Int32)), (.int r), (.double w), (.ref u), (.ref b4), (.ref b4)])) (fun t kk => ?_) ?_
  · show Steps p.tables e below (T21.setTop (mkF m 16 #[.val (.ref a)] [(.int r), (.double w), (.ref u), (.ref b4), (.ref b4)])) t
    refine XS.iconst P22.here P22.x rfl (hb hby d_withRows_16) ?_
    exact kk
  show Done _ _ _ _ _ _ _ _ _ _ _ _ _ _ _ T21 (mkF m 17 #[.val (.ref a)] [(.int (1 : Int32)), (.int r), (.double w), (.ref u), (.ref b4), (.ref b4)])
  refine wCallI P22 (m_init l Z a0 hw b4 u w r (1 : Int32) h3 X8 b3 (Or.inr rfl) F10 F11 F12 F13) rfl (tw40 hw) (tw11 hw) (tw9 hw) (tw12 hw) (by decide) (a := b4) (by rw [hml]; rfl) (lenOf pd_1 rfl) (argsL := [(.ref u), (.double w), (.int r), (.int (1 : Int32))]) (rest := [(.ref b4)]) rfl rfl (W := 1) (Nat.le_of_eq rfl) (by decide) (by decide) (by decide) (by decide) (allS (Or.inr ge_b4) all0) (hb hby d_withRows_17) rfl (k' := 1) (n' := 4) rfl rfl ?_
  rintro T23 h29 _ P24 K30 ⟨rfl, F25, F26, F27, F28⟩
  have szh29 : h3.size ≤ h29.size := K30.1
  show Done _ _ _ _ _ _ _ _ _ _ _ _ _ _ _ T23 (mkF m 20 #[.val (.ref a)] [(.ref b4)])
  show Done _ _ _ _ _ _ _ _ _ _ _ _ _ _ _ T23 (mkF m 20 #[.val (.ref a)] [(.ref b4)])
  have f31 := (X8.keep K30)
  exact wRetA P24 hret rfl rfl (hb hby d_withRows_20) ⟨b4, rfl, ge_b4, f31.lt, f31, F25, F26, F27, F28⟩
theorem ef_law (m : MethodId) (x0 : Int32) (x1 : Int32) (x2 : Int32) (x3 : Int32) (x4 : Int32) (x5 : Int32) : entryFrame m #[(.int x0), (.int x1), (.int x2), (.int x3), (.int x4), (.int x5)] maxLocals = mkF m 0 #[.val (.int x0), .val (.int x1), .val (.int x2), .val (.int x3), .val (.int x4), .val (.int x5), .unset, .unset, .unset, .unset, .unset, .unset, .unset, .unset, .unset, .unset, .unset, .unset, .unset, .unset, .unset, .unset, .unset, .unset, .unset, .unset] [] := by first | (simp [entryFrame, mkF, argsToLocals, Value.category, maxLocals]; done) | rfl
set_option maxRecDepth 65536 in
set_option maxHeartbeats 4000000 in
theorem m_law (l : Launch) (Z : State) (a0 : Array Value) (hw : ∀ d ∈ tables_1, d.before a0 Z = true) (p0 p1 p2 p3 p4 p5 : Int32) (h0 : Heap)  :
    OMet l x code maxLocals ret tables_1 room_1 Z h0 [] #[(.int p0), (.int p1), (.int p2), (.int p3), (.int p4), (.int p5)] (fun v h' => v = some (.int 1)) := by
  refine OMet.of (own := "com/example/marginfold/marginfold/perimeter/MeasureRowUnitPinLaw") (nm := "law") (plainFor_of_name pn_1) rfl rfl ?_
  intro p e s m below meth c T0 P0 hby hml hret hnm
  refine Done.step (T' := T0) (g' := (mkF m 0 #[.val (.int p0), .val (.int p1), .val (.int p2), .val (.int p3), .val (.int p4), .val (.int p5), .unset, .unset, .unset, .unset, .unset, .unset, .unset, .unset, .unset, .unset, .unset, .unset, .unset, .unset, .unset, .unset, .unset, .unset, .unset, .unset] [])) (fun t kk => castTop (ef_law m p0 p1 p2 p3 p4 p5) kk) ?_
  refine Done.step (T' := T0) (g' := (mkF m 1 #[.val (.int p0), .val (.int p1), .val (.int p2), .val (.int p3), .val (.int p4), .val (.int p5), .unset, .unset, .unset, .unset, .unset, .unset, .unset, .unset, .unset, .unset, .unset, .unset, .unset, .unset, .unset, .unset, .unset, .unset, .unset, .unset] [(.int p0)])) (fun t kk => ?_) ?_
  · show Steps p.tables e below (T0.setTop (mkF m 0 #[.val (.int p0), .val (.int p1), .val (.int p2), .val (.int p3), .val (.int p4), .val (.int p5), .unset, .unset, .unset, .unset, .unset, .unset, .unset, .unset, .unset, .unset, .unset, .unset, .unset, .unset, .unset, .unset, .unset, .unset, .unset, .unset] [])) t
    refine XS.iloadN P0.here P0.x rfl (hb hby at_0) rfl ?_
    exact kk
  show Done _ _ _ _ _ _ _ _ _ _ _ _ _ _ _ T0 (mkF m 1 #[.val (.int p0), .val (.int p1), .val (.int p2), .val (.int p3), .val (.int p4), .val (.int p5), .unset, .unset, .unset, .unset, .unset, .unset, .unset, .unset, .unset, .unset, .unset, .unset, .unset, .unset, .unset, .unset, .unset, .unset, .unset, .unset] [(.int p0)])
  refine wCallS P0 (m_unitOf l Z a0 hw p0 h0) (tw0 hw) (tw1 hw) (tw2 hw) (tw3 hw) (by decide) (by rw [hml]; rfl) (lenOf pd_2 rfl) (argsL := [(.int p0)]) (rest := []) rfl rfl (W := 0) (Nat.le_of_eq rfl) (by decide) (by decide) (by decide) (by decide) (by simp) (hb hby at_1) rfl (k' := 0) (n' := 0) rfl rfl ?_
  rintro T1 _ _ P2 - ⟨rfl, rfl⟩
  show Done _ _ _ _ _ _ _ _ _ _ _ _ _ _ _ T1 (mkF m 4 #[.val (.int p0), .val (.int p1), .val (.int p2), .val (.int p3), .val (.int p4), .val (.int p5), .unset, .unset, .unset, .unset, .unset, .unset, .unset, .unset, .unset, .unset, .unset, .unset, .unset, .unset, .unset, .unset, .unset, .unset, .unset, .unset] [(.double (FP.l2d ((p0.toInt64 &&& (2147483647 : Int64)) + (1 : Int64))))])
  refine Done.step (T' := T1) (g' := (mkF m 6 #[.val (.int p0), .val (.int p1), .val (.int p2), .val (.int p3), .val (.int p4), .val (.int p5), .val (.double (FP.l2d ((p0.toInt64 &&& (2147483647 : Int64)) + (1 : Int64)))), .second, .unset, .unset, .unset, .unset, .unset, .unset, .unset, .unset, .unset, .unset, .unset, .unset, .unset, .unset, .unset, .unset, .unset, .unset] [])) (fun t kk => ?_) ?_
  · show Steps p.tables e below (T1.setTop (mkF m 4 #[.val (.int p0), .val (.int p1), .val (.int p2), .val (.int p3), .val (.int p4), .val (.int p5), .unset, .unset, .unset, .unset, .unset, .unset, .unset, .unset, .unset, .unset, .unset, .unset, .unset, .unset, .unset, .unset, .unset, .unset, .unset, .unset] [(.double (FP.l2d ((p0.toInt64 &&& (2147483647 : Int64)) + (1 : Int64))))])) t
    refine XS.dstore P2.here P2.x rfl (hb hby at_4) rfl (l' := #[.val (.int p0), .val (.int p1), .val (.int p2), .val (.int p3), .val (.int p4), .val (.int p5), .val (.double (FP.l2d ((p0.toInt64 &&& (2147483647 : Int64)) + (1 : Int64)))), .second, .unset, .unset, .unset, .unset, .unset, .unset, .unset, .unset, .unset, .unset, .unset, .unset, .unset, .unset, .unset, .unset, .unset, .unset]) rfl ?_
    exact kk
  show Done _ _ _ _ _ _ _ _ _ _ _ _ _ _ _ T1 (mkF m 6 #[.val (.int p0), .val (.int p1), .val (.int p2), .val (.int p3), .val (.int p4), .val (.int p5), .val (.double (FP.l2d ((p0.toInt64 &&& (2147483647 : Int64)) + (1 : Int64)))), .second, .unset, .unset, .unset, .unset, .unset, .unset, .unset, .unset, .unset, .unset, .unset, .unset, .unset, .unset, .unset, .unset, .unset, .unset] [])
  generalize g_u0 : (FP.l2d ((p0.toInt64 &&& (2147483647 : Int64)) + (1 : Int64))) = u0
  have n_u0 : Jvm.Free.Fl.NoNaN64 u0 := by rw [← g_u0]; exact (Jvm.Free.Fl.l2d_fin _).noNaN
  show Done _ _ _ _ _ _ _ _ _ _ _ _ _ _ _ T1 (mkF m 6 #[.val (.int p0), .val (.int p1), .val (.int p2), .val (.int p3), .val (.int p4), .val (.int p5), .val (.double u0), .second, .unset, .unset, .unset, .unset, .unset, .unset, .unset, .unset, .unset, .unset, .unset, .unset, .unset, .unset, .unset, .unset, .unset, .unset] [])
  refine Done.step (T' := T1) (g' := (mkF m 7 #[.val (.int p0), .val (.int p1), .val (.int p2), .val (.int p3), .val (.int p4), .val (.int p5), .val (.double u0), .second, .unset, .unset, .unset, .unset, .unset, .unset, .unset, .unset, .unset, .unset, .unset, .unset, .unset, .unset, .unset, .unset, .unset, .unset] [(.int p1)])) (fun t kk => ?_) ?_
  · show Steps p.tables e below (T1.setTop (mkF m 6 #[.val (.int p0), .val (.int p1), .val (.int p2), .val (.int p3), .val (.int p4), .val (.int p5), .val (.double u0), .second, .unset, .unset, .unset, .unset, .unset, .unset, .unset, .unset, .unset, .unset, .unset, .unset, .unset, .unset, .unset, .unset, .unset, .unset] [])) t
    refine XS.iloadN P2.here P2.x rfl (hb hby at_6) rfl ?_
    exact kk
  show Done _ _ _ _ _ _ _ _ _ _ _ _ _ _ _ T1 (mkF m 7 #[.val (.int p0), .val (.int p1), .val (.int p2), .val (.int p3), .val (.int p4), .val (.int p5), .val (.double u0), .second, .unset, .unset, .unset, .unset, .unset, .unset, .unset, .unset, .unset, .unset, .unset, .unset, .unset, .unset, .unset, .unset, .unset, .unset] [(.int p1)])
  refine wCallS P2 (m_unitOf l Z a0 hw p1 h0) (tw0 hw) (tw1 hw) (tw2 hw) (tw3 hw) (by decide) (by rw [hml]; rfl) (lenOf pd_2 rfl) (argsL := [(.int p1)]) (rest := []) rfl rfl (W := 0) (Nat.le_of_eq rfl) (by decide) (by decide) (by decide) (by decide) (by simp) (hb hby at_7) rfl (k' := 0) (n' := 0) rfl rfl ?_
  rintro T3 _ _ P4 - ⟨rfl, rfl⟩
  show Done _ _ _ _ _ _ _ _ _ _ _ _ _ _ _ T3 (mkF m 10 #[.val (.int p0), .val (.int p1), .val (.int p2), .val (.int p3), .val (.int p4), .val (.int p5), .val (.double u0), .second, .unset, .unset, .unset, .unset, .unset, .unset, .unset, .unset, .unset, .unset, .unset, .unset, .unset, .unset, .unset, .unset, .unset, .unset] [(.double (FP.l2d ((p1.toInt64 &&& (2147483647 : Int64)) + (1 : Int64))))])
  refine Done.step (T' := T3) (g' := (mkF m 12 #[.val (.int p0), .val (.int p1), .val (.int p2), .val (.int p3), .val (.int p4), .val (.int p5), .val (.double u0), .second, .val (.double (FP.l2d ((p1.toInt64 &&& (2147483647 : Int64)) + (1 : Int64)))), .second, .unset, .unset, .unset, .unset, .unset, .unset, .unset, .unset, .unset, .unset, .unset, .unset, .unset, .unset, .unset, .unset] [])) (fun t kk => ?_) ?_
  · show Steps p.tables e below (T3.setTop (mkF m 10 #[.val (.int p0), .val (.int p1), .val (.int p2), .val (.int p3), .val (.int p4), .val (.int p5), .val (.double u0), .second, .unset, .unset, .unset, .unset, .unset, .unset, .unset, .unset, .unset, .unset, .unset, .unset, .unset, .unset, .unset, .unset, .unset, .unset] [(.double (FP.l2d ((p1.toInt64 &&& (2147483647 : Int64)) + (1 : Int64))))])) t
    refine XS.dstore P4.here P4.x rfl (hb hby at_10) rfl (l' := #[.val (.int p0), .val (.int p1), .val (.int p2), .val (.int p3), .val (.int p4), .val (.int p5), .val (.double u0), .second, .val (.double (FP.l2d ((p1.toInt64 &&& (2147483647 : Int64)) + (1 : Int64)))), .second, .unset, .unset, .unset, .unset, .unset, .unset, .unset, .unset, .unset, .unset, .unset, .unset, .unset, .unset, .unset, .unset]) rfl ?_
    exact kk
  show Done _ _ _ _ _ _ _ _ _ _ _ _ _ _ _ T3 (mkF m 12 #[.val (.int p0), .val (.int p1), .val (.int p2), .val (.int p3), .val (.int p4), .val (.int p5), .val (.double u0), .second, .val (.double (FP.l2d ((p1.toInt64 &&& (2147483647 : Int64)) + (1 : Int64)))), .second, .unset, .unset, .unset, .unset, .unset, .unset, .unset, .unset, .unset, .unset, .unset, .unset, .unset, .unset, .unset, .unset] [])
  generalize g_u1 : (FP.l2d ((p1.toInt64 &&& (2147483647 : Int64)) + (1 : Int64))) = u1
  have n_u1 : Jvm.Free.Fl.NoNaN64 u1 := by rw [← g_u1]; exact (Jvm.Free.Fl.l2d_fin _).noNaN
  show Done _ _ _ _ _ _ _ _ _ _ _ _ _ _ _ T3 (mkF m 12 #[.val (.int p0), .val (.int p1), .val (.int p2), .val (.int p3), .val (.int p4), .val (.int p5), .val (.double u0), .second, .val (.double u1), .second, .unset, .unset, .unset, .unset, .unset, .unset, .unset, .unset, .unset, .unset, .unset, .unset, .unset, .unset, .unset, .unset] [])
  refine Done.step (T' := T3) (g' := (mkF m 13 #[.val (.int p0), .val (.int p1), .val (.int p2), .val (.int p3), .val (.int p4), .val (.int p5), .val (.double u0), .second, .val (.double u1), .second, .unset, .unset, .unset, .unset, .unset, .unset, .unset, .unset, .unset, .unset, .unset, .unset, .unset, .unset, .unset, .unset] [(.int p2)])) (fun t kk => ?_) ?_
  · show Steps p.tables e below (T3.setTop (mkF m 12 #[.val (.int p0), .val (.int p1), .val (.int p2), .val (.int p3), .val (.int p4), .val (.int p5), .val (.double u0), .second, .val (.double u1), .second, .unset, .unset, .unset, .unset, .unset, .unset, .unset, .unset, .unset, .unset, .unset, .unset, .unset, .unset, .unset, .unset] [])) t
    refine XS.iloadN P4.here P4.x rfl (hb hby at_12) rfl ?_
    exact kk
  show Done _ _ _ _ _ _ _ _ _ _ _ _ _ _ _ T3 (mkF m 13 #[.val (.int p0), .val (.int p1), .val (.int p2), .val (.int p3), .val (.int p4), .val (.int p5), .val (.double u0), .second, .val (.double u1), .second, .unset, .unset, .unset, .unset, .unset, .unset, .unset, .unset, .unset, .unset, .unset, .unset, .unset, .unset, .unset, .unset] [(.int p2)])
  refine wCallS P4 (m_unitOf l Z a0 hw p2 h0) (tw0 hw) (tw1 hw) (tw2 hw) (tw3 hw) (by decide) (by rw [hml]; rfl) (lenOf pd_2 rfl) (argsL := [(.int p2)]) (rest := []) rfl rfl (W := 0) (Nat.le_of_eq rfl) (by decide) (by decide) (by decide) (by decide) (by simp) (hb hby at_13) rfl (k' := 0) (n' := 0) rfl rfl ?_
  rintro T5 _ _ P6 - ⟨rfl, rfl⟩
  show Done _ _ _ _ _ _ _ _ _ _ _ _ _ _ _ T5 (mkF m 16 #[.val (.int p0), .val (.int p1), .val (.int p2), .val (.int p3), .val (.int p4), .val (.int p5), .val (.double u0), .second, .val (.double u1), .second, .unset, .unset, .unset, .unset, .unset, .unset, .unset, .unset, .unset, .unset, .unset, .unset, .unset, .unset, .unset, .unset] [(.double (FP.l2d ((p2.toInt64 &&& (2147483647 : Int64)) + (1 : Int64))))])
  refine Done.step (T' := T5) (g' := (mkF m 18 #[.val (.int p0), .val (.int p1), .val (.int p2), .val (.int p3), .val (.int p4), .val (.int p5), .val (.double u0), .second, .val (.double u1), .second, .val (.double (FP.l2d ((p2.toInt64 &&& (2147483647 : Int64)) + (1 : Int64)))), .second, .unset, .unset, .unset, .unset, .unset, .unset, .unset, .unset, .unset, .unset, .unset, .unset, .unset, .unset] [])) (fun t kk => ?_) ?_
  · show Steps p.tables e below (T5.setTop (mkF m 16 #[.val (.int p0), .val (.int p1), .val (.int p2), .val (.int p3), .val (.int p4), .val (.int p5), .val (.double u0), .second, .val (.double u1), .second, .unset, .unset, .unset, .unset, .unset, .unset, .unset, .unset, .unset, .unset, .unset, .unset, .unset, .unset, .unset, .unset] [(.double (FP.l2d ((p2.toInt64 &&& (2147483647 : Int64)) + (1 : Int64))))])) t
    refine XS.dstore P6.here P6.x rfl (hb hby at_16) rfl (l' := #[.val (.int p0), .val (.int p1), .val (.int p2), .val (.int p3), .val (.int p4), .val (.int p5), .val (.double u0), .second, .val (.double u1), .second, .val (.double (FP.l2d ((p2.toInt64 &&& (2147483647 : Int64)) + (1 : Int64)))), .second, .unset, .unset, .unset, .unset, .unset, .unset, .unset, .unset, .unset, .unset, .unset, .unset, .unset, .unset]) rfl ?_
    exact kk
  show Done _ _ _ _ _ _ _ _ _ _ _ _ _ _ _ T5 (mkF m 18 #[.val (.int p0), .val (.int p1), .val (.int p2), .val (.int p3), .val (.int p4), .val (.int p5), .val (.double u0), .second, .val (.double u1), .second, .val (.double (FP.l2d ((p2.toInt64 &&& (2147483647 : Int64)) + (1 : Int64)))), .second, .unset, .unset, .unset, .unset, .unset, .unset, .unset, .unset, .unset, .unset, .unset, .unset, .unset, .unset] [])
  generalize g_u2 : (FP.l2d ((p2.toInt64 &&& (2147483647 : Int64)) + (1 : Int64))) = u2
  have n_u2 : Jvm.Free.Fl.NoNaN64 u2 := by rw [← g_u2]; exact (Jvm.Free.Fl.l2d_fin _).noNaN
  show Done _ _ _ _ _ _ _ _ _ _ _ _ _ _ _ T5 (mkF m 18 #[.val (.int p0), .val (.int p1), .val (.int p2), .val (.int p3), .val (.int p4), .val (.int p5), .val (.double u0), .second, .val (.double u1), .second, .val (.double u2), .second, .unset, .unset, .unset, .unset, .unset, .unset, .unset, .unset, .unset, .unset, .unset, .unset, .unset, .unset] [])
  refine Done.step (T' := T5) (g' := (mkF m 19 #[.val (.int p0), .val (.int p1), .val (.int p2), .val (.int p3), .val (.int p4), .val (.int p5), .val (.double u0), .second, .val (.double u1), .second, .val (.double u2), .second, .unset, .unset, .unset, .unset, .unset, .unset, .unset, .unset, .unset, .unset, .unset, .unset, .unset, .unset] [(.int (3 : Int32))])) (fun t kk => ?_) ?_
  · show Steps p.tables e below (T5.setTop (mkF m 18 #[.val (.int p0), .val (.int p1), .val (.int p2), .val (.int p3), .val (.int p4), .val (.int p5), .val (.double u0), .second, .val (.double u1), .second, .val (.double u2), .second, .unset, .unset, .unset, .unset, .unset, .unset, .unset, .unset, .unset, .unset, .unset, .unset, .unset, .unset] [])) t
    refine XS.iconst P6.here P6.x rfl (hb hby at_18) ?_
    exact kk
  show Done _ _ _ _ _ _ _ _ _ _ _ _ _ _ _ T5 (mkF m 19 #[.val (.int p0), .val (.int p1), .val (.int p2), .val (.int p3), .val (.int p4), .val (.int p5), .val (.double u0), .second, .val (.double u1), .second, .val (.double u2), .second, .unset, .unset, .unset, .unset, .unset, .unset, .unset, .unset, .unset, .unset, .unset, .unset, .unset, .unset] [(.int (3 : Int32))])
  refine wNewA (aty := .double) P6 (tw5 hw) (hb hby at_19) rfl (N := 3) rfl (cap := 3) (Nat.le_refl _) (by decide) (by decide) (by decide) (ad := "[D") (by decide) (ty := .double) (dv := (.double (0 : UInt64))) rfl rfl (k' := 1) (n' := 3) rfl rfl (fun T7 h9 b10 g11 lt12 P8 E13 A14 X15 => ?_)
  have ge_b10 : h0.size ≤ b10 := by have := P6.ge; omega
  show Done _ _ _ _ _ _ _ _ _ _ _ _ _ _ _ T7 (mkF m 21 #[.val (.int p0), .val (.int p1), .val (.int p2), .val (.int p3), .val (.int p4), .val (.int p5), .val (.double u0), .second, .val (.double u1), .second, .val (.double u2), .second, .unset, .unset, .unset, .unset, .unset, .unset, .unset, .unset, .unset, .unset, .unset, .unset, .unset, .unset] [(.ref b10)])
  refine Done.step (T' := T7) (g' := (mkF m 28 #[.val (.int p0), .val (.int p1), .val (.int p2), .val (.int p3), .val (.int p4), .val (.int p5), .val (.double u0), .second, .val (.double u1), .second, .val (.double u2), .second, .val (.ref b10), .unset, .unset, .unset, .unset, .unset, .unset, .unset, .unset, .unset, .unset, .unset, .unset, .unset] [(.double u0), (.int (0 : Int32)), (.ref b10)])) (fun t kk => ?_) ?_
  · show Steps p.tables e below (T7.setTop (mkF m 21 #[.val (.int p0), .val (.int p1), .val (.int p2), .val (.int p3), .val (.int p4), .val (.int p5), .val (.double u0), .second, .val (.double u1), .second, .val (.double u2), .second, .unset, .unset, .unset, .unset, .unset, .unset, .unset, .unset, .unset, .unset, .unset, .unset, .unset, .unset] [(.ref b10)])) t
    refine XS.astore P8.here P8.x rfl (hb hby at_21) rfl rfl (l' := #[.val (.int p0), .val (.int p1), .val (.int p2), .val (.int p3), .val (.int p4), .val (.int p5), .val (.double u0), .second, .val (.double u1), .second, .val (.double u2), .second, .val (.ref b10), .unset, .unset, .unset, .unset, .unset, .unset, .unset, .unset, .unset, .unset, .unset, .unset, .unset]) rfl ?_
    show Steps p.tables e below (T7.setTop (mkF m 23 #[.val (.int p0), .val (.int p1), .val (.int p2), .val (.int p3), .val (.int p4), .val (.int p5), .val (.double u0), .second, .val (.double u1), .second, .val (.double u2), .second, .val (.ref b10), .unset, .unset, .unset, .unset, .unset, .unset, .unset, .unset, .unset, .unset, .unset, .unset, .unset] [])) t
    refine XS.aload P8.here P8.x rfl (hb hby at_23) rfl rfl ?_
    show Steps p.tables e below (T7.setTop (mkF m 25 #[.val (.int p0), .val (.int p1), .val (.int p2), .val (.int p3), .val (.int p4), .val (.int p5), .val (.double u0), .second, .val (.double u1), .second, .val (.double u2), .second, .val (.ref b10), .unset, .unset, .unset, .unset, .unset, .unset, .unset, .unset, .unset, .unset, .unset, .unset, .unset] [(.ref b10)])) t
    refine XS.iconst P8.here P8.x rfl (hb hby at_25) ?_
    show Steps p.tables e below (T7.setTop (mkF m 26 #[.val (.int p0), .val (.int p1), .val (.int p2), .val (.int p3), .val (.int p4), .val (.int p5), .val (.double u0), .second, .val (.double u1), .second, .val (.double u2), .second, .val (.ref b10), .unset, .unset, .unset, .unset, .unset, .unset, .unset, .unset, .unset, .unset, .unset, .unset, .unset] [(.int (0 : Int32)), (.ref b10)])) t
    refine XS.dload P8.here P8.x rfl (hb hby at_26) rfl ?_
    exact kk
  show Done _ _ _ _ _ _ _ _ _ _ _ _ _ _ _ T7 (mkF m 28 #[.val (.int p0), .val (.int p1), .val (.int p2), .val (.int p3), .val (.int p4), .val (.int p5), .val (.double u0), .second, .val (.double u1), .second, .val (.double u2), .second, .val (.ref b10), .unset, .unset, .unset, .unset, .unset, .unset, .unset, .unset, .unset, .unset, .unset, .unset, .unset] [(.double u0), (.int (0 : Int32)), (.ref b10)])
  refine wDastore P8 (f := (fun _ => (0 : UInt64))) A14 (j := (0 : Int32)) (i := 0) rfl (by decide) (Or.inr ge_b10) (hb hby at_28) rfl (fun T16 h18 P17 W19 A20 => ?_)
  have szh18 : h18.size = h9.size := W19.size
  show Done _ _ _ _ _ _ _ _ _ _ _ _ _ _ _ T16 (mkF m 29 #[.val (.int p0), .val (.int p1), .val (.int p2), .val (.int p3), .val (.int p4), .val (.int p5), .val (.double u0), .second, .val (.double u1), .second, .val (.double u2), .second, .val (.ref b10), .unset, .unset, .unset, .unset, .unset, .unset, .unset, .unset, .unset, .unset, .unset, .unset, .unset] [])
  refine Done.step (T' := T16) (g' := (mkF m 34 #[.val (.int p0), .val (.int p1), .val (.int p2), .val (.int p3), .val (.int p4), .val (.int p5), .val (.double u0), .second, .val (.double u1), .second, .val (.double u2), .second, .val (.ref b10), .unset, .unset, .unset, .unset, .unset, .unset, .unset, .unset, .unset, .unset, .unset, .unset, .unset] [(.double u1), (.int (1 : Int32)), (.ref b10)])) (fun t kk => ?_) ?_
  · show Steps p.tables e below (T16.setTop (mkF m 29 #[.val (.int p0), .val (.int p1), .val (.int p2), .val (.int p3), .val (.int p4), .val (.int p5), .val (.double u0), .second, .val (.double u1), .second, .val (.double u2), .second, .val (.ref b10), .unset, .unset, .unset, .unset, .unset, .unset, .unset, .unset, .unset, .unset, .unset, .unset, .unset] [])) t
    refine XS.aload P17.here P17.x rfl (hb hby at_29) rfl rfl ?_
    show Steps p.tables e below (T16.setTop (mkF m 31 #[.val (.int p0), .val (.int p1), .val (.int p2), .val (.int p3), .val (.int p4), .val (.int p5), .val (.double u0), .second, .val (.double u1), .second, .val (.double u2), .second, .val (.ref b10), .unset, .unset, .unset, .unset, .unset, .unset, .unset, .unset, .unset, .unset, .unset, .unset, .unset] [(.ref b10)])) t
    refine XS.iconst P17.here P17.x rfl (hb hby at_31) ?_
    show Steps p.tables e below (T16.setTop (mkF m 32 #[.val (.int p0), .val (.int p1), .val (.int p2), .val (.int p3), .val (.int p4), .val (.int p5), .val (.double u0), .second, .val (.double u1), .second, .val (.double u2), .second, .val (.ref b10), .unset, .unset, .unset, .unset, .unset, .unset, .unset, .unset, .unset, .unset, .unset, .unset, .unset] [(.int (1 : Int32)), (.ref b10)])) t
    refine XS.dload P17.here P17.x rfl (hb hby at_32) rfl ?_
    exact kk
  show Done _ _ _ _ _ _ _ _ _ _ _ _ _ _ _ T16 (mkF m 34 #[.val (.int p0), .val (.int p1), .val (.int p2), .val (.int p3), .val (.int p4), .val (.int p5), .val (.double u0), .second, .val (.double u1), .second, .val (.double u2), .second, .val (.ref b10), .unset, .unset, .unset, .unset, .unset, .unset, .unset, .unset, .unset, .unset, .unset, .unset, .unset] [(.double u1), (.int (1 : Int32)), (.ref b10)])
  refine wDastore P17 (f := (oupd (fun _ => (0 : UInt64)) 0 u0)) A20 (j := (1 : Int32)) (i := 1) rfl (by decide) (Or.inr ge_b10) (hb hby at_34) rfl (fun T21 h23 P22 W24 A25 => ?_)
  have szh23 : h23.size = h18.size := W24.size
  show Done _ _ _ _ _ _ _ _ _ _ _ _ _ _ _ T21 (mkF m 35 #[.val (.int p0), .val (.int p1), .val (.int p2), .val (.int p3), .val (.int p4), .val (.int p5), .val (.double u0), .second, .val (.double u1), .second, .val (.double u2), .second, .val (.ref b10), .unset, .unset, .unset, .unset, .unset, .unset, .unset, .unset, .unset, .unset, .unset, .unset, .unset] [])
  refine Done.step (T' := T21) (g' := (mkF m 40 #[.val (.int p0), .val (.int p1), .val (.int p2), .val (.int p3), .val (.int p4), .val (.int p5), .val (.double u0), .second, .val (.double u1), .second, .val (.double u2), .second, .val (.ref b10), .unset, .unset, .unset, .unset, .unset, .unset, .unset, .unset, .unset, .unset, .unset, .unset, .unset] [(.double u2), (.int (2 : Int32)), (.ref b10)])) (fun t kk => ?_) ?_
  · show Steps p.tables e below (T21.setTop (mkF m 35 #[.val (.int p0), .val (.int p1), .val (.int p2), .val (.int p3), .val (.int p4), .val (.int p5), .val (.double u0), .second, .val (.double u1), .second, .val (.double u2), .second, .val (.ref b10), .unset, .unset, .unset, .unset, .unset, .unset, .unset, .unset, .unset, .unset, .unset, .unset, .unset] [])) t
    refine XS.aload P22.here P22.x rfl (hb hby at_35) rfl rfl ?_
    show Steps p.tables e below (T21.setTop (mkF m 37 #[.val (.int p0), .val (.int p1), .val (.int p2), .val (.int p3), .val (.int p4), .val (.int p5), .val (.double u0), .second, .val (.double u1), .second, .val (.double u2), .second, .val (.ref b10), .unset, .unset, .unset, .unset, .unset, .unset, .unset, .unset, .unset, .unset, .unset, .unset, .unset] [(.ref b10)])) t
    refine XS.iconst P22.here P22.x rfl (hb hby at_37) ?_
    show Steps p.tables e below (T21.setTop (mkF m 38 #[.val (.int p0), .val (.int p1), .val (.int p2), .val (.int p3), .val (.int p4), .val (.int p5), .val (.double u0), .second, .val (.double u1), .second, .val (.double u2), .second, .val (.ref b10), .unset, .unset, .unset, .unset, .unset, .unset, .unset, .unset, .unset, .unset, .unset, .unset, .unset] [(.int (2 : Int32)), (.ref b10)])) t
    refine XS.dload P22.here P22.x rfl (hb hby at_38) rfl ?_
    exact kk
  show Done _ _ _ _ _ _ _ _ _ _ _ _ _ _ _ T21 (mkF m 40 #[.val (.int p0), .val (.int p1), .val (.int p2), .val (.int p3), .val (.int p4), .val (.int p5), .val (.double u0), .second, .val (.double u1), .second, .val (.double u2), .second, .val (.ref b10), .unset, .unset, .unset, .unset, .unset, .unset, .unset, .unset, .unset, .unset, .unset, .unset, .unset] [(.double u2), (.int (2 : Int32)), (.ref b10)])
  refine wDastore P22 (f := (oupd (oupd (fun _ => (0 : UInt64)) 0 u0) 1 u1)) A25 (j := (2 : Int32)) (i := 2) rfl (by decide) (Or.inr ge_b10) (hb hby at_40) rfl (fun T26 h28 P27 W29 A30 => ?_)
  have szh28 : h28.size = h23.size := W29.size
  show Done _ _ _ _ _ _ _ _ _ _ _ _ _ _ _ T26 (mkF m 41 #[.val (.int p0), .val (.int p1), .val (.int p2), .val (.int p3), .val (.int p4), .val (.int p5), .val (.double u0), .second, .val (.double u1), .second, .val (.double u2), .second, .val (.ref b10), .unset, .unset, .unset, .unset, .unset, .unset, .unset, .unset, .unset, .unset, .unset, .unset, .unset] [])
  refine Done.step (T' := T26) (g' := (mkF m 49 #[.val (.int p0), .val (.int p1), .val (.int p2), .val (.int p3), .val (.int p4), .val (.int p5), .val (.double u0), .second, .val (.double u1), .second, .val (.double u2), .second, .val (.ref b10), .val (.int ((p3 &&& (2147483647 : Int32)) - ((p3 &&& (2147483647 : Int32)) / (3 : Int32)) * (3 : Int32))), .unset, .unset, .unset, .unset, .unset, .unset, .unset, .unset, .unset, .unset, .unset, .unset] [])) (fun t kk => ?_) ?_
  · show Steps p.tables e below (T26.setTop (mkF m 41 #[.val (.int p0), .val (.int p1), .val (.int p2), .val (.int p3), .val (.int p4), .val (.int p5), .val (.double u0), .second, .val (.double u1), .second, .val (.double u2), .second, .val (.ref b10), .unset, .unset, .unset, .unset, .unset, .unset, .unset, .unset, .unset, .unset, .unset, .unset, .unset] [])) t
    refine XS.iloadN P27.here P27.x rfl (hb hby at_41) rfl ?_
    show Steps p.tables e below (T26.setTop (mkF m 42 #[.val (.int p0), .val (.int p1), .val (.int p2), .val (.int p3), .val (.int p4), .val (.int p5), .val (.double u0), .second, .val (.double u1), .second, .val (.double u2), .second, .val (.ref b10), .unset, .unset, .unset, .unset, .unset, .unset, .unset, .unset, .unset, .unset, .unset, .unset, .unset] [(.int p3)])) t
    refine pLdcI P27 (tw6 hw) (hb hby at_42) rfl ?_
    show Steps p.tables e below (T26.setTop (mkF m 44 #[.val (.int p0), .val (.int p1), .val (.int p2), .val (.int p3), .val (.int p4), .val (.int p5), .val (.double u0), .second, .val (.double u1), .second, .val (.double u2), .second, .val (.ref b10), .unset, .unset, .unset, .unset, .unset, .unset, .unset, .unset, .unset, .unset, .unset, .unset, .unset] [(.int (2147483647 : Int32)), (.int p3)])) t
    refine XS.iand P27.here P27.x rfl (hb hby at_44) rfl ?_
    show Steps p.tables e below (T26.setTop (mkF m 45 #[.val (.int p0), .val (.int p1), .val (.int p2), .val (.int p3), .val (.int p4), .val (.int p5), .val (.double u0), .second, .val (.double u1), .second, .val (.double u2), .second, .val (.ref b10), .unset, .unset, .unset, .unset, .unset, .unset, .unset, .unset, .unset, .unset, .unset, .unset, .unset] [(.int (p3 &&& (2147483647 : Int32)))])) t
    refine XS.iconst P27.here P27.x rfl (hb hby at_45) ?_
    show Steps p.tables e below (T26.setTop (mkF m 46 #[.val (.int p0), .val (.int p1), .val (.int p2), .val (.int p3), .val (.int p4), .val (.int p5), .val (.double u0), .second, .val (.double u1), .second, .val (.double u2), .second, .val (.ref b10), .unset, .unset, .unset, .unset, .unset, .unset, .unset, .unset, .unset, .unset, .unset, .unset, .unset] [(.int (3 : Int32)), (.int (p3 &&& (2147483647 : Int32)))])) t
    refine XS.irem P27.here P27.x rfl (hb hby at_46) rfl (by decide) ?_
    show Steps p.tables e below (T26.setTop (mkF m 47 #[.val (.int p0), .val (.int p1), .val (.int p2), .val (.int p3), .val (.int p4), .val (.int p5), .val (.double u0), .second, .val (.double u1), .second, .val (.double u2), .second, .val (.ref b10), .unset, .unset, .unset, .unset, .unset, .unset, .unset, .unset, .unset, .unset, .unset, .unset, .unset] [(.int ((p3 &&& (2147483647 : Int32)) - ((p3 &&& (2147483647 : Int32)) / (3 : Int32)) * (3 : Int32)))])) t
    refine XS.istore P27.here P27.x rfl (hb hby at_47) rfl (l' := #[.val (.int p0), .val (.int p1), .val (.int p2), .val (.int p3), .val (.int p4), .val (.int p5), .val (.double u0), .second, .val (.double u1), .second, .val (.double u2), .second, .val (.ref b10), .val (.int ((p3 &&& (2147483647 : Int32)) - ((p3 &&& (2147483647 : Int32)) / (3 : Int32)) * (3 : Int32))), .unset, .unset, .unset, .unset, .unset, .unset, .unset, .unset, .unset, .unset, .unset, .unset]) rfl ?_
    exact kk
  show Done _ _ _ _ _ _ _ _ _ _ _ _ _ _ _ T26 (mkF m 49 #[.val (.int p0), .val (.int p1), .val (.int p2), .val (.int p3), .val (.int p4), .val (.int p5), .val (.double u0), .second, .val (.double u1), .second, .val (.double u2), .second, .val (.ref b10), .val (.int ((p3 &&& (2147483647 : Int32)) - ((p3 &&& (2147483647 : Int32)) / (3 : Int32)) * (3 : Int32))), .unset, .unset, .unset, .unset, .unset, .unset, .unset, .unset, .unset, .unset, .unset, .unset] [])
  generalize g_j : ((p3 &&& (2147483647 : Int32)) - ((p3 &&& (2147483647 : Int32)) / (3 : Int32)) * (3 : Int32)) = j
  obtain ⟨i, hj, hi⟩ : ∃ i : Nat, j.toInt = (i : Int) ∧ i < 3 := by rw [← g_j]; exact own_j p3
  show Done _ _ _ _ _ _ _ _ _ _ _ _ _ _ _ T26 (mkF m 49 #[.val (.int p0), .val (.int p1), .val (.int p2), .val (.int p3), .val (.int p4), .val (.int p5), .val (.double u0), .second, .val (.double u1), .second, .val (.double u2), .second, .val (.ref b10), .val (.int j), .unset, .unset, .unset, .unset, .unset, .unset, .unset, .unset, .unset, .unset, .unset, .unset] [])
  refine Done.step (T' := T26) (g' := (mkF m 102 #[.val (.int p0), .val (.int p1), .val (.int p2), .val (.int p3), .val (.int p4), .val (.int p5), .val (.double u0), .second, .val (.double u1), .second, .val (.double u2), .second, .val (.ref b10), .val (.int j), .val (.int (if ¬ ((p5 &&& (1 : Int32)) = (0 : Int32)) then (1 : Int32) else (0 : Int32))), .val (.int (if ¬ ((p5 &&& (2 : Int32)) = (0 : Int32)) then (1 : Int32) else (0 : Int32))), .val (.double (if j = (0 : Int32) then u0 else (if j = (1 : Int32) then u1 else u2))), .second, .unset, .unset, .unset, .unset, .unset, .unset, .unset, .unset] [])) (fun t kk => ?_) ?_
  · show Steps p.tables e below (T26.setTop (mkF m 49 #[.val (.int p0), .val (.int p1), .val (.int p2), .val (.int p3), .val (.int p4), .val (.int p5), .val (.double u0), .second, .val (.double u1), .second, .val (.double u2), .second, .val (.ref b10), .val (.int j), .unset, .unset, .unset, .unset, .unset, .unset, .unset, .unset, .unset, .unset, .unset, .unset] [])) t
    refine XS.iload P27.here P27.x rfl (hb hby at_49) rfl ?_
    show Steps p.tables e below (T26.setTop (mkF m 51 #[.val (.int p0), .val (.int p1), .val (.int p2), .val (.int p3), .val (.int p4), .val (.int p5), .val (.double u0), .second, .val (.double u1), .second, .val (.double u2), .second, .val (.ref b10), .val (.int j), .unset, .unset, .unset, .unset, .unset, .unset, .unset, .unset, .unset, .unset, .unset, .unset] [(.int p5)])) t
    refine XS.iconst P27.here P27.x rfl (hb hby at_51) ?_
    show Steps p.tables e below (T26.setTop (mkF m 52 #[.val (.int p0), .val (.int p1), .val (.int p2), .val (.int p3), .val (.int p4), .val (.int p5), .val (.double u0), .second, .val (.double u1), .second, .val (.double u2), .second, .val (.ref b10), .val (.int j), .unset, .unset, .unset, .unset, .unset, .unset, .unset, .unset, .unset, .unset, .unset, .unset] [(.int (1 : Int32)), (.int p5)])) t
    refine XS.iand P27.here P27.x rfl (hb hby at_52) rfl ?_
    show Steps p.tables e below (T26.setTop (mkF m 53 #[.val (.int p0), .val (.int p1), .val (.int p2), .val (.int p3), .val (.int p4), .val (.int p5), .val (.double u0), .second, .val (.double u1), .second, .val (.double u2), .second, .val (.ref b10), .val (.int j), .unset, .unset, .unset, .unset, .unset, .unset, .unset, .unset, .unset, .unset, .unset, .unset] [(.int (p5 &&& (1 : Int32)))])) t
    suffices kk32 : Steps p.tables e below (T26.setTop (mkF m 61 #[.val (.int p0), .val (.int p1), .val (.int p2), .val (.int p3), .val (.int p4), .val (.int p5), .val (.double u0), .second, .val (.double u1), .second, .val (.double u2), .second, .val (.ref b10), .val (.int j), .unset, .unset, .unset, .unset, .unset, .unset, .unset, .unset, .unset, .unset, .unset, .unset] [(.int (if ¬ ((p5 &&& (1 : Int32)) = (0 : Int32)) then (1 : Int32) else (0 : Int32)))])) t by
      by_cases hc31 : (p5 &&& (1 : Int32)) = (0 : Int32)
      · rw [show (if ¬ ((p5 &&& (1 : Int32)) = (0 : Int32)) then (1 : Int32) else (0 : Int32)) = (0 : Int32) from if_neg (not_not_intro hc31)] at kk32
        show Steps p.tables e below (T26.setTop (mkF m 53 #[.val (.int p0), .val (.int p1), .val (.int p2), .val (.int p3), .val (.int p4), .val (.int p5), .val (.double u0), .second, .val (.double u1), .second, .val (.double u2), .second, .val (.ref b10), .val (.int j), .unset, .unset, .unset, .unset, .unset, .unset, .unset, .unset, .unset, .unset, .unset, .unset] [(.int (p5 &&& (1 : Int32)))])) t
        refine XS.ifYes P27.here P27.x rfl (pc0 := 53) (pc' := 60) rfl (hb hby at_53) rfl (i0W_eq_t hc31) (by decide) (by decide) ?_
        show Steps p.tables e below (T26.setTop (mkF m 60 #[.val (.int p0), .val (.int p1), .val (.int p2), .val (.int p3), .val (.int p4), .val (.int p5), .val (.double u0), .second, .val (.double u1), .second, .val (.double u2), .second, .val (.ref b10), .val (.int j), .unset, .unset, .unset, .unset, .unset, .unset, .unset, .unset, .unset, .unset, .unset, .unset] [])) t
        refine XS.iconst P27.here P27.x rfl (hb hby at_60) ?_
        exact kk32
      · rw [show (if ¬ ((p5 &&& (1 : Int32)) = (0 : Int32)) then (1 : Int32) else (0 : Int32)) = (1 : Int32) from if_pos hc31] at kk32
        show Steps p.tables e below (T26.setTop (mkF m 53 #[.val (.int p0), .val (.int p1), .val (.int p2), .val (.int p3), .val (.int p4), .val (.int p5), .val (.double u0), .second, .val (.double u1), .second, .val (.double u2), .second, .val (.ref b10), .val (.int j), .unset, .unset, .unset, .unset, .unset, .unset, .unset, .unset, .unset, .unset, .unset, .unset] [(.int (p5 &&& (1 : Int32)))])) t
        refine XS.ifNo P27.here P27.x rfl (hb hby at_53) rfl (i0W_eq_f hc31) ?_
        show Steps p.tables e below (T26.setTop (mkF m 56 #[.val (.int p0), .val (.int p1), .val (.int p2), .val (.int p3), .val (.int p4), .val (.int p5), .val (.double u0), .second, .val (.double u1), .second, .val (.double u2), .second, .val (.ref b10), .val (.int j), .unset, .unset, .unset, .unset, .unset, .unset, .unset, .unset, .unset, .unset, .unset, .unset] [])) t
        refine XS.iconst P27.here P27.x rfl (hb hby at_56) ?_
        show Steps p.tables e below (T26.setTop (mkF m 57 #[.val (.int p0), .val (.int p1), .val (.int p2), .val (.int p3), .val (.int p4), .val (.int p5), .val (.double u0), .second, .val (.double u1), .second, .val (.double u2), .second, .val (.ref b10), .val (.int j), .unset, .unset, .unset, .unset, .unset, .unset, .unset, .unset, .unset, .unset, .unset, .unset] [(.int (1 : Int32))])) t
        refine XS.goto P27.here P27.x rfl (pc0 := 57) (pc' := 61) rfl (hb hby at_57) (by decide) (by decide) ?_
        exact kk32
    show Steps p.tables e below (T26.setTop (mkF m 61 #[.val (.int p0), .val (.int p1), .val (.int p2), .val (.int p3), .val (.int p4), .val (.int p5), .val (.double u0), .second, .val (.double u1), .second, .val (.double u2), .second, .val (.ref b10), .val (.int j), .unset, .unset, .unset, .unset, .unset, .unset, .unset, .unset, .unset, .unset, .unset, .unset] [(.int (if ¬ ((p5 &&& (1 : Int32)) = (0 : Int32)) then (1 : Int32) else (0 : Int32)))])) t
    refine XS.istore P27.here P27.x rfl (hb hby at_61) rfl (l' := #[.val (.int p0), .val (.int p1), .val (.int p2), .val (.int p3), .val (.int p4), .val (.int p5), .val (.double u0), .second, .val (.double u1), .second, .val (.double u2), .second, .val (.ref b10), .val (.int j), .val (.int (if ¬ ((p5 &&& (1 : Int32)) = (0 : Int32)) then (1 : Int32) else (0 : Int32))), .unset, .unset, .unset, .unset, .unset, .unset, .unset, .unset, .unset, .unset, .unset]) rfl ?_
    show Steps p.tables e below (T26.setTop (mkF m 63 #[.val (.int p0), .val (.int p1), .val (.int p2), .val (.int p3), .val (.int p4), .val (.int p5), .val (.double u0), .second, .val (.double u1), .second, .val (.double u2), .second, .val (.ref b10), .val (.int j), .val (.int (if ¬ ((p5 &&& (1 : Int32)) = (0 : Int32)) then (1 : Int32) else (0 : Int32))), .unset, .unset, .unset, .unset, .unset, .unset, .unset, .unset, .unset, .unset, .unset] [])) t
    refine XS.iload P27.here P27.x rfl (hb hby at_63) rfl ?_
    show Steps p.tables e below (T26.setTop (mkF m 65 #[.val (.int p0), .val (.int p1), .val (.int p2), .val (.int p3), .val (.int p4), .val (.int p5), .val (.double u0), .second, .val (.double u1), .second, .val (.double u2), .second, .val (.ref b10), .val (.int j), .val (.int (if ¬ ((p5 &&& (1 : Int32)) = (0 : Int32)) then (1 : Int32) else (0 : Int32))), .unset, .unset, .unset, .unset, .unset, .unset, .unset, .unset, .unset, .unset, .unset] [(.int p5)])) t
    refine XS.iconst P27.here P27.x rfl (hb hby at_65) ?_
    show Steps p.tables e below (T26.setTop (mkF m 66 #[.val (.int p0), .val (.int p1), .val (.int p2), .val (.int p3), .val (.int p4), .val (.int p5), .val (.double u0), .second, .val (.double u1), .second, .val (.double u2), .second, .val (.ref b10), .val (.int j), .val (.int (if ¬ ((p5 &&& (1 : Int32)) = (0 : Int32)) then (1 : Int32) else (0 : Int32))), .unset, .unset, .unset, .unset, .unset, .unset, .unset, .unset, .unset, .unset, .unset] [(.int (2 : Int32)), (.int p5)])) t
    refine XS.iand P27.here P27.x rfl (hb hby at_66) rfl ?_
    show Steps p.tables e below (T26.setTop (mkF m 67 #[.val (.int p0), .val (.int p1), .val (.int p2), .val (.int p3), .val (.int p4), .val (.int p5), .val (.double u0), .second, .val (.double u1), .second, .val (.double u2), .second, .val (.ref b10), .val (.int j), .val (.int (if ¬ ((p5 &&& (1 : Int32)) = (0 : Int32)) then (1 : Int32) else (0 : Int32))), .unset, .unset, .unset, .unset, .unset, .unset, .unset, .unset, .unset, .unset, .unset] [(.int (p5 &&& (2 : Int32)))])) t
    suffices kk34 : Steps p.tables e below (T26.setTop (mkF m 75 #[.val (.int p0), .val (.int p1), .val (.int p2), .val (.int p3), .val (.int p4), .val (.int p5), .val (.double u0), .second, .val (.double u1), .second, .val (.double u2), .second, .val (.ref b10), .val (.int j), .val (.int (if ¬ ((p5 &&& (1 : Int32)) = (0 : Int32)) then (1 : Int32) else (0 : Int32))), .unset, .unset, .unset, .unset, .unset, .unset, .unset, .unset, .unset, .unset, .unset] [(.int (if ¬ ((p5 &&& (2 : Int32)) = (0 : Int32)) then (1 : Int32) else (0 : Int32)))])) t by
      by_cases hc33 : (p5 &&& (2 : Int32)) = (0 : Int32)
      · rw [show (if ¬ ((p5 &&& (2 : Int32)) = (0 : Int32)) then (1 : Int32) else (0 : Int32)) = (0 : Int32) from if_neg (not_not_intro hc33)] at kk34
        show Steps p.tables e below (T26.setTop (mkF m 67 #[.val (.int p0), .val (.int p1), .val (.int p2), .val (.int p3), .val (.int p4), .val (.int p5), .val (.double u0), .second, .val (.double u1), .second, .val (.double u2), .second, .val (.ref b10), .val (.int j), .val (.int (if ¬ ((p5 &&& (1 : Int32)) = (0 : Int32)) then (1 : Int32) else (0 : Int32))), .unset, .unset, .unset, .unset, .unset, .unset, .unset, .unset, .unset, .unset, .unset] [(.int (p5 &&& (2 : Int32)))])) t
        refine XS.ifYes P27.here P27.x rfl (pc0 := 67) (pc' := 74) rfl (hb hby at_67) rfl (i0W_eq_t hc33) (by decide) (by decide) ?_
        show Steps p.tables e below (T26.setTop (mkF m 74 #[.val (.int p0), .val (.int p1), .val (.int p2), .val (.int p3), .val (.int p4), .val (.int p5), .val (.double u0), .second, .val (.double u1), .second, .val (.double u2), .second, .val (.ref b10), .val (.int j), .val (.int (if ¬ ((p5 &&& (1 : Int32)) = (0 : Int32)) then (1 : Int32) else (0 : Int32))), .unset, .unset, .unset, .unset, .unset, .unset, .unset, .unset, .unset, .unset, .unset] [])) t
        refine XS.iconst P27.here P27.x rfl (hb hby at_74) ?_
        exact kk34
      · rw [show (if ¬ ((p5 &&& (2 : Int32)) = (0 : Int32)) then (1 : Int32) else (0 : Int32)) = (1 : Int32) from if_pos hc33] at kk34
        show Steps p.tables e below (T26.setTop (mkF m 67 #[.val (.int p0), .val (.int p1), .val (.int p2), .val (.int p3), .val (.int p4), .val (.int p5), .val (.double u0), .second, .val (.double u1), .second, .val (.double u2), .second, .val (.ref b10), .val (.int j), .val (.int (if ¬ ((p5 &&& (1 : Int32)) = (0 : Int32)) then (1 : Int32) else (0 : Int32))), .unset, .unset, .unset, .unset, .unset, .unset, .unset, .unset, .unset, .unset, .unset] [(.int (p5 &&& (2 : Int32)))])) t
        refine XS.ifNo P27.here P27.x rfl (hb hby at_67) rfl (i0W_eq_f hc33) ?_
        show Steps p.tables e below (T26.setTop (mkF m 70 #[.val (.int p0), .val (.int p1), .val (.int p2), .val (.int p3), .val (.int p4), .val (.int p5), .val (.double u0), .second, .val (.double u1), .second, .val (.double u2), .second, .val (.ref b10), .val (.int j), .val (.int (if ¬ ((p5 &&& (1 : Int32)) = (0 : Int32)) then (1 : Int32) else (0 : Int32))), .unset, .unset, .unset, .unset, .unset, .unset, .unset, .unset, .unset, .unset, .unset] [])) t
        refine XS.iconst P27.here P27.x rfl (hb hby at_70) ?_
        show Steps p.tables e below (T26.setTop (mkF m 71 #[.val (.int p0), .val (.int p1), .val (.int p2), .val (.int p3), .val (.int p4), .val (.int p5), .val (.double u0), .second, .val (.double u1), .second, .val (.double u2), .second, .val (.ref b10), .val (.int j), .val (.int (if ¬ ((p5 &&& (1 : Int32)) = (0 : Int32)) then (1 : Int32) else (0 : Int32))), .unset, .unset, .unset, .unset, .unset, .unset, .unset, .unset, .unset, .unset, .unset] [(.int (1 : Int32))])) t
        refine XS.goto P27.here P27.x rfl (pc0 := 71) (pc' := 75) rfl (hb hby at_71) (by decide) (by decide) ?_
        exact kk34
    show Steps p.tables e below (T26.setTop (mkF m 75 #[.val (.int p0), .val (.int p1), .val (.int p2), .val (.int p3), .val (.int p4), .val (.int p5), .val (.double u0), .second, .val (.double u1), .second, .val (.double u2), .second, .val (.ref b10), .val (.int j), .val (.int (if ¬ ((p5 &&& (1 : Int32)) = (0 : Int32)) then (1 : Int32) else (0 : Int32))), .unset, .unset, .unset, .unset, .unset, .unset, .unset, .unset, .unset, .unset, .unset] [(.int (if ¬ ((p5 &&& (2 : Int32)) = (0 : Int32)) then (1 : Int32) else (0 : Int32)))])) t
    refine XS.istore P27.here P27.x rfl (hb hby at_75) rfl (l' := #[.val (.int p0), .val (.int p1), .val (.int p2), .val (.int p3), .val (.int p4), .val (.int p5), .val (.double u0), .second, .val (.double u1), .second, .val (.double u2), .second, .val (.ref b10), .val (.int j), .val (.int (if ¬ ((p5 &&& (1 : Int32)) = (0 : Int32)) then (1 : Int32) else (0 : Int32))), .val (.int (if ¬ ((p5 &&& (2 : Int32)) = (0 : Int32)) then (1 : Int32) else (0 : Int32))), .unset, .unset, .unset, .unset, .unset, .unset, .unset, .unset, .unset, .unset]) rfl ?_
    show Steps p.tables e below (T26.setTop (mkF m 77 #[.val (.int p0), .val (.int p1), .val (.int p2), .val (.int p3), .val (.int p4), .val (.int p5), .val (.double u0), .second, .val (.double u1), .second, .val (.double u2), .second, .val (.ref b10), .val (.int j), .val (.int (if ¬ ((p5 &&& (1 : Int32)) = (0 : Int32)) then (1 : Int32) else (0 : Int32))), .val (.int (if ¬ ((p5 &&& (2 : Int32)) = (0 : Int32)) then (1 : Int32) else (0 : Int32))), .unset, .unset, .unset, .unset, .unset, .unset, .unset, .unset, .unset, .unset] [])) t
    refine XS.iload P27.here P27.x rfl (hb hby at_77) rfl ?_
    show Steps p.tables e below (T26.setTop (mkF m 79 #[.val (.int p0), .val (.int p1), .val (.int p2), .val (.int p3), .val (.int p4), .val (.int p5), .val (.double u0), .second, .val (.double u1), .second, .val (.double u2), .second, .val (.ref b10), .val (.int j), .val (.int (if ¬ ((p5 &&& (1 : Int32)) = (0 : Int32)) then (1 : Int32) else (0 : Int32))), .val (.int (if ¬ ((p5 &&& (2 : Int32)) = (0 : Int32)) then (1 : Int32) else (0 : Int32))), .unset, .unset, .unset, .unset, .unset, .unset, .unset, .unset, .unset, .unset] [(.int j)])) t
    suffices kk38 : Steps p.tables e below (T26.setTop (mkF m 100 #[.val (.int p0), .val (.int p1), .val (.int p2), .val (.int p3), .val (.int p4), .val (.int p5), .val (.double u0), .second, .val (.double u1), .second, .val (.double u2), .second, .val (.ref b10), .val (.int j), .val (.int (if ¬ ((p5 &&& (1 : Int32)) = (0 : Int32)) then (1 : Int32) else (0 : Int32))), .val (.int (if ¬ ((p5 &&& (2 : Int32)) = (0 : Int32)) then (1 : Int32) else (0 : Int32))), .unset, .unset, .unset, .unset, .unset, .unset, .unset, .unset, .unset, .unset] [(.double (if j = (0 : Int32) then u0 else (if j = (1 : Int32) then u1 else u2)))])) t by
      by_cases hc35 : j = (0 : Int32)
      · rw [show (if j = (0 : Int32) then u0 else (if j = (1 : Int32) then u1 else u2)) = u0 from if_pos hc35] at kk38
        show Steps p.tables e below (T26.setTop (mkF m 79 #[.val (.int p0), .val (.int p1), .val (.int p2), .val (.int p3), .val (.int p4), .val (.int p5), .val (.double u0), .second, .val (.double u1), .second, .val (.double u2), .second, .val (.ref b10), .val (.int j), .val (.int (if ¬ ((p5 &&& (1 : Int32)) = (0 : Int32)) then (1 : Int32) else (0 : Int32))), .val (.int (if ¬ ((p5 &&& (2 : Int32)) = (0 : Int32)) then (1 : Int32) else (0 : Int32))), .unset, .unset, .unset, .unset, .unset, .unset, .unset, .unset, .unset, .unset] [(.int j)])) t
        refine XS.ifNo P27.here P27.x rfl (hb hby at_79) rfl (i0W_ne_f (not_not_intro hc35)) ?_
        show Steps p.tables e below (T26.setTop (mkF m 82 #[.val (.int p0), .val (.int p1), .val (.int p2), .val (.int p3), .val (.int p4), .val (.int p5), .val (.double u0), .second, .val (.double u1), .second, .val (.double u2), .second, .val (.ref b10), .val (.int j), .val (.int (if ¬ ((p5 &&& (1 : Int32)) = (0 : Int32)) then (1 : Int32) else (0 : Int32))), .val (.int (if ¬ ((p5 &&& (2 : Int32)) = (0 : Int32)) then (1 : Int32) else (0 : Int32))), .unset, .unset, .unset, .unset, .unset, .unset, .unset, .unset, .unset, .unset] [])) t
        refine XS.dload P27.here P27.x rfl (hb hby at_82) rfl ?_
        show Steps p.tables e below (T26.setTop (mkF m 84 #[.val (.int p0), .val (.int p1), .val (.int p2), .val (.int p3), .val (.int p4), .val (.int p5), .val (.double u0), .second, .val (.double u1), .second, .val (.double u2), .second, .val (.ref b10), .val (.int j), .val (.int (if ¬ ((p5 &&& (1 : Int32)) = (0 : Int32)) then (1 : Int32) else (0 : Int32))), .val (.int (if ¬ ((p5 &&& (2 : Int32)) = (0 : Int32)) then (1 : Int32) else (0 : Int32))), .unset, .unset, .unset, .unset, .unset, .unset, .unset, .unset, .unset, .unset] [(.double u0)])) t
        refine XS.goto P27.here P27.x rfl (pc0 := 84) (pc' := 100) rfl (hb hby at_84) (by decide) (by decide) ?_
        exact kk38
      · rw [show (if j = (0 : Int32) then u0 else (if j = (1 : Int32) then u1 else u2)) = (if j = (1 : Int32) then u1 else u2) from if_neg hc35] at kk38
        show Steps p.tables e below (T26.setTop (mkF m 79 #[.val (.int p0), .val (.int p1), .val (.int p2), .val (.int p3), .val (.int p4), .val (.int p5), .val (.double u0), .second, .val (.double u1), .second, .val (.double u2), .second, .val (.ref b10), .val (.int j), .val (.int (if ¬ ((p5 &&& (1 : Int32)) = (0 : Int32)) then (1 : Int32) else (0 : Int32))), .val (.int (if ¬ ((p5 &&& (2 : Int32)) = (0 : Int32)) then (1 : Int32) else (0 : Int32))), .unset, .unset, .unset, .unset, .unset, .unset, .unset, .unset, .unset, .unset] [(.int j)])) t
        refine XS.ifYes P27.here P27.x rfl (pc0 := 79) (pc' := 87) rfl (hb hby at_79) rfl (i0W_ne_t hc35) (by decide) (by decide) ?_
        show Steps p.tables e below (T26.setTop (mkF m 87 #[.val (.int p0), .val (.int p1), .val (.int p2), .val (.int p3), .val (.int p4), .val (.int p5), .val (.double u0), .second, .val (.double u1), .second, .val (.double u2), .second, .val (.ref b10), .val (.int j), .val (.int (if ¬ ((p5 &&& (1 : Int32)) = (0 : Int32)) then (1 : Int32) else (0 : Int32))), .val (.int (if ¬ ((p5 &&& (2 : Int32)) = (0 : Int32)) then (1 : Int32) else (0 : Int32))), .unset, .unset, .unset, .unset, .unset, .unset, .unset, .unset, .unset, .unset] [])) t
        refine XS.iload P27.here P27.x rfl (hb hby at_87) rfl ?_
        show Steps p.tables e below (T26.setTop (mkF m 89 #[.val (.int p0), .val (.int p1), .val (.int p2), .val (.int p3), .val (.int p4), .val (.int p5), .val (.double u0), .second, .val (.double u1), .second, .val (.double u2), .second, .val (.ref b10), .val (.int j), .val (.int (if ¬ ((p5 &&& (1 : Int32)) = (0 : Int32)) then (1 : Int32) else (0 : Int32))), .val (.int (if ¬ ((p5 &&& (2 : Int32)) = (0 : Int32)) then (1 : Int32) else (0 : Int32))), .unset, .unset, .unset, .unset, .unset, .unset, .unset, .unset, .unset, .unset] [(.int j)])) t
        refine XS.iconst P27.here P27.x rfl (hb hby at_89) ?_
        show Steps p.tables e below (T26.setTop (mkF m 90 #[.val (.int p0), .val (.int p1), .val (.int p2), .val (.int p3), .val (.int p4), .val (.int p5), .val (.double u0), .second, .val (.double u1), .second, .val (.double u2), .second, .val (.ref b10), .val (.int j), .val (.int (if ¬ ((p5 &&& (1 : Int32)) = (0 : Int32)) then (1 : Int32) else (0 : Int32))), .val (.int (if ¬ ((p5 &&& (2 : Int32)) = (0 : Int32)) then (1 : Int32) else (0 : Int32))), .unset, .unset, .unset, .unset, .unset, .unset, .unset, .unset, .unset, .unset] [(.int (1 : Int32)), (.int j)])) t
        suffices kk37 : Steps p.tables e below (T26.setTop (mkF m 100 #[.val (.int p0), .val (.int p1), .val (.int p2), .val (.int p3), .val (.int p4), .val (.int p5), .val (.double u0), .second, .val (.double u1), .second, .val (.double u2), .second, .val (.ref b10), .val (.int j), .val (.int (if ¬ ((p5 &&& (1 : Int32)) = (0 : Int32)) then (1 : Int32) else (0 : Int32))), .val (.int (if ¬ ((p5 &&& (2 : Int32)) = (0 : Int32)) then (1 : Int32) else (0 : Int32))), .unset, .unset, .unset, .unset, .unset, .unset, .unset, .unset, .unset, .unset] [(.double (if j = (1 : Int32) then u1 else u2))])) t by
          by_cases hc36 : j = (1 : Int32)
          · rw [show (if j = (1 : Int32) then u1 else u2) = u1 from if_pos hc36] at kk37
            show Steps p.tables e below (T26.setTop (mkF m 90 #[.val (.int p0), .val (.int p1), .val (.int p2), .val (.int p3), .val (.int p4), .val (.int p5), .val (.double u0), .second, .val (.double u1), .second, .val (.double u2), .second, .val (.ref b10), .val (.int j), .val (.int (if ¬ ((p5 &&& (1 : Int32)) = (0 : Int32)) then (1 : Int32) else (0 : Int32))), .val (.int (if ¬ ((p5 &&& (2 : Int32)) = (0 : Int32)) then (1 : Int32) else (0 : Int32))), .unset, .unset, .unset, .unset, .unset, .unset, .unset, .unset, .unset, .unset] [(.int (1 : Int32)), (.int j)])) t
            refine XS.icmpNo P27.here P27.x rfl (hb hby at_90) rfl (iiW_ne_f (not_not_intro hc36)) ?_
            show Steps p.tables e below (T26.setTop (mkF m 93 #[.val (.int p0), .val (.int p1), .val (.int p2), .val (.int p3), .val (.int p4), .val (.int p5), .val (.double u0), .second, .val (.double u1), .second, .val (.double u2), .second, .val (.ref b10), .val (.int j), .val (.int (if ¬ ((p5 &&& (1 : Int32)) = (0 : Int32)) then (1 : Int32) else (0 : Int32))), .val (.int (if ¬ ((p5 &&& (2 : Int32)) = (0 : Int32)) then (1 : Int32) else (0 : Int32))), .unset, .unset, .unset, .unset, .unset, .unset, .unset, .unset, .unset, .unset] [])) t
            refine XS.dload P27.here P27.x rfl (hb hby at_93) rfl ?_
            show Steps p.tables e below (T26.setTop (mkF m 95 #[.val (.int p0), .val (.int p1), .val (.int p2), .val (.int p3), .val (.int p4), .val (.int p5), .val (.double u0), .second, .val (.double u1), .second, .val (.double u2), .second, .val (.ref b10), .val (.int j), .val (.int (if ¬ ((p5 &&& (1 : Int32)) = (0 : Int32)) then (1 : Int32) else (0 : Int32))), .val (.int (if ¬ ((p5 &&& (2 : Int32)) = (0 : Int32)) then (1 : Int32) else (0 : Int32))), .unset, .unset, .unset, .unset, .unset, .unset, .unset, .unset, .unset, .unset] [(.double u1)])) t
            refine XS.goto P27.here P27.x rfl (pc0 := 95) (pc' := 100) rfl (hb hby at_95) (by decide) (by decide) ?_
            exact kk37
          · rw [show (if j = (1 : Int32) then u1 else u2) = u2 from if_neg hc36] at kk37
            show Steps p.tables e below (T26.setTop (mkF m 90 #[.val (.int p0), .val (.int p1), .val (.int p2), .val (.int p3), .val (.int p4), .val (.int p5), .val (.double u0), .second, .val (.double u1), .second, .val (.double u2), .second, .val (.ref b10), .val (.int j), .val (.int (if ¬ ((p5 &&& (1 : Int32)) = (0 : Int32)) then (1 : Int32) else (0 : Int32))), .val (.int (if ¬ ((p5 &&& (2 : Int32)) = (0 : Int32)) then (1 : Int32) else (0 : Int32))), .unset, .unset, .unset, .unset, .unset, .unset, .unset, .unset, .unset, .unset] [(.int (1 : Int32)), (.int j)])) t
            refine XS.icmpYes P27.here P27.x rfl (pc0 := 90) (pc' := 98) rfl (hb hby at_90) rfl (iiW_ne_t hc36) (by decide) (by decide) ?_
            show Steps p.tables e below (T26.setTop (mkF m 98 #[.val (.int p0), .val (.int p1), .val (.int p2), .val (.int p3), .val (.int p4), .val (.int p5), .val (.double u0), .second, .val (.double u1), .second, .val (.double u2), .second, .val (.ref b10), .val (.int j), .val (.int (if ¬ ((p5 &&& (1 : Int32)) = (0 : Int32)) then (1 : Int32) else (0 : Int32))), .val (.int (if ¬ ((p5 &&& (2 : Int32)) = (0 : Int32)) then (1 : Int32) else (0 : Int32))), .unset, .unset, .unset, .unset, .unset, .unset, .unset, .unset, .unset, .unset] [])) t
            refine XS.dload P27.here P27.x rfl (hb hby at_98) rfl ?_
            exact kk37
        exact kk38
    show Steps p.tables e below (T26.setTop (mkF m 100 #[.val (.int p0), .val (.int p1), .val (.int p2), .val (.int p3), .val (.int p4), .val (.int p5), .val (.double u0), .second, .val (.double u1), .second, .val (.double u2), .second, .val (.ref b10), .val (.int j), .val (.int (if ¬ ((p5 &&& (1 : Int32)) = (0 : Int32)) then (1 : Int32) else (0 : Int32))), .val (.int (if ¬ ((p5 &&& (2 : Int32)) = (0 : Int32)) then (1 : Int32) else (0 : Int32))), .unset, .unset, .unset, .unset, .unset, .unset, .unset, .unset, .unset, .unset] [(.double (if j = (0 : Int32) then u0 else (if j = (1 : Int32) then u1 else u2)))])) t
    refine XS.dstore P27.here P27.x rfl (hb hby at_100) rfl (l' := #[.val (.int p0), .val (.int p1), .val (.int p2), .val (.int p3), .val (.int p4), .val (.int p5), .val (.double u0), .second, .val (.double u1), .second, .val (.double u2), .second, .val (.ref b10), .val (.int j), .val (.int (if ¬ ((p5 &&& (1 : Int32)) = (0 : Int32)) then (1 : Int32) else (0 : Int32))), .val (.int (if ¬ ((p5 &&& (2 : Int32)) = (0 : Int32)) then (1 : Int32) else (0 : Int32))), .val (.double (if j = (0 : Int32) then u0 else (if j = (1 : Int32) then u1 else u2))), .second, .unset, .unset, .unset, .unset, .unset, .unset, .unset, .unset]) rfl ?_
    exact kk
  show Done _ _ _ _ _ _ _ _ _ _ _ _ _ _ _ T26 (mkF m 102 #[.val (.int p0), .val (.int p1), .val (.int p2), .val (.int p3), .val (.int p4), .val (.int p5), .val (.double u0), .second, .val (.double u1), .second, .val (.double u2), .second, .val (.ref b10), .val (.int j), .val (.int (if ¬ ((p5 &&& (1 : Int32)) = (0 : Int32)) then (1 : Int32) else (0 : Int32))), .val (.int (if ¬ ((p5 &&& (2 : Int32)) = (0 : Int32)) then (1 : Int32) else (0 : Int32))), .val (.double (if j = (0 : Int32) then u0 else (if j = (1 : Int32) then u1 else u2))), .second, .unset, .unset, .unset, .unset, .unset, .unset, .unset, .unset] [])
  refine wNew P27 (tw7 hw) (tw8 hw) (tw9 hw) (hb hby at_102) rfl (by decide) (by decide) (k' := 2) (n' := 7) rfl rfl (fun T39 h41 b42 g43 lt44 P40 E45 X46 D47 => ?_)
  have ge_b42 : h0.size ≤ b42 := by have := P27.ge; omega
  have F48 : Fld Z h41 b42 "com/example/marginfold/marginfold/perimeter/Measure" "units" "[D" .null := D47 (Or.inr (tw22 hw)) (ty := (.array .double)) (by decide)
  have F49 : Fld Z h41 b42 "com/example/marginfold/marginfold/perimeter/Measure" "weight" "D" (.double (0 : UInt64)) := D47 (Or.inr (tw24 hw)) (ty := .double) (by decide)
  have F50 : Fld Z h41 b42 "com/example/marginfold/marginfold/perimeter/Measure" "nonNegative" "Z" (.int (0 : Int32)) := D47 (Or.inr (tw26 hw)) (ty := .boolean) (by decide)
  have F51 : Fld Z h41 b42 "com/example/marginfold/marginfold/perimeter/Measure" "rowsInMw" "Z" (.int (0 : Int32)) := D47 (Or.inr (tw28 hw)) (ty := .boolean) (by decide)
  show Done _ _ _ _ _ _ _ _ _ _ _ _ _ _ _ T39 (mkF m 105 #[.val (.int p0), .val (.int p1), .val (.int p2), .val (.int p3), .val (.int p4), .val (.int p5), .val (.double u0), .second, .val (.double u1), .second, .val (.double u2), .second, .val (.ref b10), .val (.int j), .val (.int (if ¬ ((p5 &&& (1 : Int32)) = (0 : Int32)) then (1 : Int32) else (0 : Int32))), .val (.int (if ¬ ((p5 &&& (2 : Int32)) = (0 : Int32)) then (1 : Int32) else (0 : Int32))), .val (.double (if j = (0 : Int32) then u0 else (if j = (1 : Int32) then u1 else u2))), .second, .unset, .unset, .unset, .unset, .unset, .unset, .unset, .unset] [(.ref b42)])
  refine Done.step (T' := T39) (g' := (mkF m 115 #[.val (.int p0), .val (.int p1), .val (.int p2), .val (.int p3), .val (.int p4), .val (.int p5), .val (.double u0), .second, .val (.double u1), .second, .val (.double u2), .second, .val (.ref b10), .val (.int j), .val (.int (if ¬ ((p5 &&& (1 : Int32)) = (0 : Int32)) then (1 : Int32) else (0 : Int32))), .val (.int (if ¬ ((p5 &&& (2 : Int32)) = (0 : Int32)) then (1 : Int32) else (0 : Int32))), .val (.double (if j = (0 : Int32) then u0 else (if j = (1 : Int32) then u1 else u2))), .second, .unset, .unset, .unset, .unset, .unset, .unset, .unset, .unset] [(.int (if ¬ ((p5 &&& (2 : Int32)) = (0 : Int32)) then (1 : Int32) else (0 : Int32))), (.int (if ¬ ((p5 &&& (1 : Int32)) = (0 : Int32)) then (1 : Int32) else (0 : Int32))), (.double (FP.i2d p4)), (.ref b10), (.ref b42), (.ref b42)])) (fun t kk => ?_) ?_
  · show Steps p.tables e below (T39.setTop (mkF m 105 #[.val (.int p0), .val (.int p1), .val (.int p2), .val (.int p3), .val (.int p4), .val (.int p5), .val (.double u0), .second, .val (.double u1), .second, .val (.double u2), .second, .val (.ref b10), .val (.int j), .val (.int (if ¬ ((p5 &&& (1 : Int32)) = (0 : Int32)) then (1 : Int32) else (0 : Int32))), .val (.int (if ¬ ((p5 &&& (2 : Int32)) = (0 : Int32)) then (1 : Int32) else (0 : Int32))), .val (.double (if j = (0 : Int32) then u0 else (if j = (1 : Int32) then u1 else u2))), .second, .unset, .unset, .unset, .unset, .unset, .unset, .unset, .unset] [(.ref b42)])) t
    refine XS.dup P40.here P40.x rfl (hb hby at_105) rfl rfl ?_
    show Steps p.tables e below (T39.setTop (mkF m 106 #[.val (.int p0), .val (.int p1), .val (.int p2), .val (.int p3), .val (.int p4), .val (.int p5), .val (.double u0), .second, .val (.double u1), .second, .val (.double u2), .second, .val (.ref b10), .val (.int j), .val (.int (if ¬ ((p5 &&& (1 : Int32)) = (0 : Int32)) then (1 : Int32) else (0 : Int32))), .val (.int (if ¬ ((p5 &&& (2 : Int32)) = (0 : Int32)) then (1 : Int32) else (0 : Int32))), .val (.double (if j = (0 : Int32) then u0 else (if j = (1 : Int32) then u1 else u2))), .second, .unset, .unset, .unset, .unset, .unset, .unset, .unset, .unset] [(.ref b42), (.ref b42)])) t
    refine XS.aload P40.here P40.x rfl (hb hby at_106) rfl rfl ?_
    show Steps p.tables e below (T39.setTop (mkF m 108 #[.val (.int p0), .val (.int p1), .val (.int p2), .val (.int p3), .val (.int p4), .val (.int p5), .val (.double u0), .second, .val (.double u1), .second, .val (.double u2), .second, .val (.ref b10), .val (.int j), .val (.int (if ¬ ((p5 &&& (1 : Int32)) = (0 : Int32)) then (1 : Int32) else (0 : Int32))), .val (.int (if ¬ ((p5 &&& (2 : Int32)) = (0 : Int32)) then (1 : Int32) else (0 : Int32))), .val (.double (if j = (0 : Int32) then u0 else (if j = (1 : Int32) then u1 else u2))), .second, .unset, .unset, .unset, .unset, .unset, .unset, .unset, .unset] [(.ref b10), (.ref b42), (.ref b42)])) t
    refine XS.iload P40.here P40.x rfl (hb hby at_108) rfl ?_
    show Steps p.tables e below (T39.setTop (mkF m 110 #[.val (.int p0), .val (.int p1), .val (.int p2), .val (.int p3), .val (.int p4), .val (.int p5), .val (.double u0), .second, .val (.double u1), .second, .val (.double u2), .second, .val (.ref b10), .val (.int j), .val (.int (if ¬ ((p5 &&& (1 : Int32)) = (0 : Int32)) then (1 : Int32) else (0 : Int32))), .val (.int (if ¬ ((p5 &&& (2 : Int32)) = (0 : Int32)) then (1 : Int32) else (0 : Int32))), .val (.double (if j = (0 : Int32) then u0 else (if j = (1 : Int32) then u1 else u2))), .second, .unset, .unset, .unset, .unset, .unset, .unset, .unset, .unset] [(.int p4), (.ref b10), (.ref b42), (.ref b42)])) t
    refine XS.i2dS P40.here P40.x rfl (hb hby at_110) rfl rfl ?_
    show Steps p.tables e below (T39.setTop (mkF m 111 #[.val (.int p0), .val (.int p1), .val (.int p2), .val (.int p3), .val (.int p4), .val (.int p5), .val (.double u0), .second, .val (.double u1), .second, .val (.double u2), .second, .val (.ref b10), .val (.int j), .val (.int (if ¬ ((p5 &&& (1 : Int32)) = (0 : Int32)) then (1 : Int32) else (0 : Int32))), .val (.int (if ¬ ((p5 &&& (2 : Int32)) = (0 : Int32)) then (1 : Int32) else (0 : Int32))), .val (.double (if j = (0 : Int32) then u0 else (if j = (1 : Int32) then u1 else u2))), .second, .unset, .unset, .unset, .unset, .unset, .unset, .unset, .unset] [(.double (FP.i2d p4)), (.ref b10), (.ref b42), (.ref b42)])) t
    refine XS.iload P40.here P40.x rfl (hb hby at_111) rfl ?_
    show Steps p.tables e below (T39.setTop (mkF m 113 #[.val (.int p0), .val (.int p1), .val (.int p2), .val (.int p3), .val (.int p4), .val (.int p5), .val (.double u0), .second, .val (.double u1), .second, .val (.double u2), .second, .val (.ref b10), .val (.int j), .val (.int (if ¬ ((p5 &&& (1 : Int32)) = (0 : Int32)) then (1 : Int32) else (0 : Int32))), .val (.int (if ¬ ((p5 &&& (2 : Int32)) = (0 : Int32)) then (1 : Int32) else (0 : Int32))), .val (.double (if j = (0 : Int32) then u0 else (if j = (1 : Int32) then u1 else u2))), .second, .unset, .unset, .unset, .unset, .unset, .unset, .unset, .unset] [(.int (if ¬ ((p5 &&& (1 : Int32)) = (0 : Int32)) then (1 : Int32) else (0 : Int32))), (.double (FP.i2d p4)), (.ref b10), (.ref b42), (.ref b42)])) t
    refine XS.iload P40.here P40.x rfl (hb hby at_113) rfl ?_
    exact kk
  show Done _ _ _ _ _ _ _ _ _ _ _ _ _ _ _ T39 (mkF m 115 #[.val (.int p0), .val (.int p1), .val (.int p2), .val (.int p3), .val (.int p4), .val (.int p5), .val (.double u0), .second, .val (.double u1), .second, .val (.double u2), .second, .val (.ref b10), .val (.int j), .val (.int (if ¬ ((p5 &&& (1 : Int32)) = (0 : Int32)) then (1 : Int32) else (0 : Int32))), .val (.int (if ¬ ((p5 &&& (2 : Int32)) = (0 : Int32)) then (1 : Int32) else (0 : Int32))), .val (.double (if j = (0 : Int32) then u0 else (if j = (1 : Int32) then u1 else u2))), .second, .unset, .unset, .unset, .unset, .unset, .unset, .unset, .unset] [(.int (if ¬ ((p5 &&& (2 : Int32)) = (0 : Int32)) then (1 : Int32) else (0 : Int32))), (.int (if ¬ ((p5 &&& (1 : Int32)) = (0 : Int32)) then (1 : Int32) else (0 : Int32))), (.double (FP.i2d p4)), (.ref b10), (.ref b42), (.ref b42)])
  refine wCallI P40 (m_init l Z a0 hw b42 b10 (FP.i2d p4) (if ¬ ((p5 &&& (1 : Int32)) = (0 : Int32)) then (1 : Int32) else (0 : Int32)) (if ¬ ((p5 &&& (2 : Int32)) = (0 : Int32)) then (1 : Int32) else (0 : Int32)) h41 X46 (b01or _) (b01or _) F48 F49 F50 F51) rfl (tw10 hw) (tw11 hw) (tw9 hw) (tw12 hw) (by decide) (a := b42) (by rw [hml]; rfl) (lenOf pd_1 rfl) (argsL := [(.ref b10), (.double (FP.i2d p4)), (.int (if ¬ ((p5 &&& (1 : Int32)) = (0 : Int32)) then (1 : Int32) else (0 : Int32))), (.int (if ¬ ((p5 &&& (2 : Int32)) = (0 : Int32)) then (1 : Int32) else (0 : Int32)))]) (rest := [(.ref b42)]) rfl rfl (W := 1) (Nat.le_of_eq rfl) (by decide) (by decide) (by decide) (by decide) (allS (Or.inr ge_b42) all0) (hb hby at_115) rfl (k' := 2) (n' := 7) rfl rfl ?_
  rintro T52 h58 _ P53 K59 ⟨rfl, F54, F55, F56, F57⟩
  have szh58 : h41.size ≤ h58.size := K59.1
  show Done _ _ _ _ _ _ _ _ _ _ _ _ _ _ _ T52 (mkF m 118 #[.val (.int p0), .val (.int p1), .val (.int p2), .val (.int p3), .val (.int p4), .val (.int p5), .val (.double u0), .second, .val (.double u1), .second, .val (.double u2), .second, .val (.ref b10), .val (.int j), .val (.int (if ¬ ((p5 &&& (1 : Int32)) = (0 : Int32)) then (1 : Int32) else (0 : Int32))), .val (.int (if ¬ ((p5 &&& (2 : Int32)) = (0 : Int32)) then (1 : Int32) else (0 : Int32))), .val (.double (if j = (0 : Int32) then u0 else (if j = (1 : Int32) then u1 else u2))), .second, .unset, .unset, .unset, .unset, .unset, .unset, .unset, .unset] [(.ref b42)])
  refine Done.step (T' := T52) (g' := (mkF m 124 #[.val (.int p0), .val (.int p1), .val (.int p2), .val (.int p3), .val (.int p4), .val (.int p5), .val (.double u0), .second, .val (.double u1), .second, .val (.double u2), .second, .val (.ref b10), .val (.int j), .val (.int (if ¬ ((p5 &&& (1 : Int32)) = (0 : Int32)) then (1 : Int32) else (0 : Int32))), .val (.int (if ¬ ((p5 &&& (2 : Int32)) = (0 : Int32)) then (1 : Int32) else (0 : Int32))), .val (.double (if j = (0 : Int32) then u0 else (if j = (1 : Int32) then u1 else u2))), .second, .val (.ref b42), .unset, .unset, .unset, .unset, .unset, .unset, .unset] [(.int j), (.ref b42)])) (fun t kk => ?_) ?_
  · show Steps p.tables e below (T52.setTop (mkF m 118 #[.val (.int p0), .val (.int p1), .val (.int p2), .val (.int p3), .val (.int p4), .val (.int p5), .val (.double u0), .second, .val (.double u1), .second, .val (.double u2), .second, .val (.ref b10), .val (.int j), .val (.int (if ¬ ((p5 &&& (1 : Int32)) = (0 : Int32)) then (1 : Int32) else (0 : Int32))), .val (.int (if ¬ ((p5 &&& (2 : Int32)) = (0 : Int32)) then (1 : Int32) else (0 : Int32))), .val (.double (if j = (0 : Int32) then u0 else (if j = (1 : Int32) then u1 else u2))), .second, .unset, .unset, .unset, .unset, .unset, .unset, .unset, .unset] [(.ref b42)])) t
    refine XS.astore P53.here P53.x rfl (hb hby at_118) rfl rfl (l' := #[.val (.int p0), .val (.int p1), .val (.int p2), .val (.int p3), .val (.int p4), .val (.int p5), .val (.double u0), .second, .val (.double u1), .second, .val (.double u2), .second, .val (.ref b10), .val (.int j), .val (.int (if ¬ ((p5 &&& (1 : Int32)) = (0 : Int32)) then (1 : Int32) else (0 : Int32))), .val (.int (if ¬ ((p5 &&& (2 : Int32)) = (0 : Int32)) then (1 : Int32) else (0 : Int32))), .val (.double (if j = (0 : Int32) then u0 else (if j = (1 : Int32) then u1 else u2))), .second, .val (.ref b42), .unset, .unset, .unset, .unset, .unset, .unset, .unset]) rfl ?_
    show Steps p.tables e below (T52.setTop (mkF m 120 #[.val (.int p0), .val (.int p1), .val (.int p2), .val (.int p3), .val (.int p4), .val (.int p5), .val (.double u0), .second, .val (.double u1), .second, .val (.double u2), .second, .val (.ref b10), .val (.int j), .val (.int (if ¬ ((p5 &&& (1 : Int32)) = (0 : Int32)) then (1 : Int32) else (0 : Int32))), .val (.int (if ¬ ((p5 &&& (2 : Int32)) = (0 : Int32)) then (1 : Int32) else (0 : Int32))), .val (.double (if j = (0 : Int32) then u0 else (if j = (1 : Int32) then u1 else u2))), .second, .val (.ref b42), .unset, .unset, .unset, .unset, .unset, .unset, .unset] [])) t
    refine XS.aload P53.here P53.x rfl (hb hby at_120) rfl rfl ?_
    show Steps p.tables e below (T52.setTop (mkF m 122 #[.val (.int p0), .val (.int p1), .val (.int p2), .val (.int p3), .val (.int p4), .val (.int p5), .val (.double u0), .second, .val (.double u1), .second, .val (.double u2), .second, .val (.ref b10), .val (.int j), .val (.int (if ¬ ((p5 &&& (1 : Int32)) = (0 : Int32)) then (1 : Int32) else (0 : Int32))), .val (.int (if ¬ ((p5 &&& (2 : Int32)) = (0 : Int32)) then (1 : Int32) else (0 : Int32))), .val (.double (if j = (0 : Int32) then u0 else (if j = (1 : Int32) then u1 else u2))), .second, .val (.ref b42), .unset, .unset, .unset, .unset, .unset, .unset, .unset] [(.ref b42)])) t
    refine XS.iload P53.here P53.x rfl (hb hby at_122) rfl ?_
    exact kk
  have f62 := ((A30.ext E45).keep K59 (ninS (by first | assumption | exact Ne.symm (by assumption) | exact adr_ne (by omega) | omega) nin0))
  show Done _ _ _ _ _ _ _ _ _ _ _ _ _ _ _ T52 (mkF m 124 #[.val (.int p0), .val (.int p1), .val (.int p2), .val (.int p3), .val (.int p4), .val (.int p5), .val (.double u0), .second, .val (.double u1), .second, .val (.double u2), .second, .val (.ref b10), .val (.int j), .val (.int (if ¬ ((p5 &&& (1 : Int32)) = (0 : Int32)) then (1 : Int32) else (0 : Int32))), .val (.int (if ¬ ((p5 &&& (2 : Int32)) = (0 : Int32)) then (1 : Int32) else (0 : Int32))), .val (.double (if j = (0 : Int32) then u0 else (if j = (1 : Int32) then u1 else u2))), .second, .val (.ref b42), .unset, .unset, .unset, .unset, .unset, .unset, .unset] [(.int j), (.ref b42)])
  have f63 := (X46.keep K59)
  refine wCallV P53 (m_rowUnit l Z a0 hw b42 j (if ¬ ((p5 &&& (2 : Int32)) = (0 : Int32)) then (1 : Int32) else (0 : Int32)) b10 3 i (oupd (oupd (oupd (fun _ => (0 : UInt64)) 0 u0) 1 u1) 2 u2) h58 F57 F54 f62 hj hi) (tw29 hw) (tw30 hw) (tw32 hw) (tw32 hw) (tw31 hw) (tw9 hw) (tw33 hw) (by decide) f63 (by rw [hml]; rfl) (lenOf pd_2 rfl) (argsL := [(.int j)]) (rest := []) rfl rfl (W := 0) (Nat.le_of_eq rfl) (by decide) (by decide) (by decide) (by decide) (by simp) (hb hby at_124) rfl (k' := 2) (n' := 7) rfl rfl ?_
  rintro T60 _ _ P61 - ⟨rfl, rfl⟩
  show Done _ _ _ _ _ _ _ _ _ _ _ _ _ _ _ T60 (mkF m 127 #[.val (.int p0), .val (.int p1), .val (.int p2), .val (.int p3), .val (.int p4), .val (.int p5), .val (.double u0), .second, .val (.double u1), .second, .val (.double u2), .second, .val (.ref b10), .val (.int j), .val (.int (if ¬ ((p5 &&& (1 : Int32)) = (0 : Int32)) then (1 : Int32) else (0 : Int32))), .val (.int (if ¬ ((p5 &&& (2 : Int32)) = (0 : Int32)) then (1 : Int32) else (0 : Int32))), .val (.double (if j = (0 : Int32) then u0 else (if j = (1 : Int32) then u1 else u2))), .second, .val (.ref b42), .unset, .unset, .unset, .unset, .unset, .unset, .unset] [(.double (if (if ¬ ((p5 &&& (2 : Int32)) = (0 : Int32)) then (1 : Int32) else (0 : Int32)) = (0 : Int32) then FP.dconst1 else (oupd (oupd (oupd (fun _ => (0 : UInt64)) 0 u0) 1 u1) 2 u2) i))])
  refine Done.step (T' := T60) (g' := (mkF m 144 #[.val (.int p0), .val (.int p1), .val (.int p2), .val (.int p3), .val (.int p4), .val (.int p5), .val (.double u0), .second, .val (.double u1), .second, .val (.double u2), .second, .val (.ref b10), .val (.int j), .val (.int (if ¬ ((p5 &&& (1 : Int32)) = (0 : Int32)) then (1 : Int32) else (0 : Int32))), .val (.int (if ¬ ((p5 &&& (2 : Int32)) = (0 : Int32)) then (1 : Int32) else (0 : Int32))), .val (.double (if j = (0 : Int32) then u0 else (if j = (1 : Int32) then u1 else u2))), .second, .val (.ref b42), .val (.double (if (if ¬ ((p5 &&& (2 : Int32)) = (0 : Int32)) then (1 : Int32) else (0 : Int32)) = (0 : Int32) then FP.dconst1 else (oupd (oupd (oupd (fun _ => (0 : UInt64)) 0 u0) 1 u1) 2 u2) i)), .second, .val (.double (if ¬ ((p5 &&& (2 : Int32)) = (0 : Int32)) then (if j = (0 : Int32) then u0 else (if j = (1 : Int32) then u1 else u2)) else FP.dconst1)), .second, .unset, .unset, .unset] [(.ref b42)])) (fun t kk => ?_) ?_
  · show Steps p.tables e below (T60.setTop (mkF m 127 #[.val (.int p0), .val (.int p1), .val (.int p2), .val (.int p3), .val (.int p4), .val (.int p5), .val (.double u0), .second, .val (.double u1), .second, .val (.double u2), .second, .val (.ref b10), .val (.int j), .val (.int (if ¬ ((p5 &&& (1 : Int32)) = (0 : Int32)) then (1 : Int32) else (0 : Int32))), .val (.int (if ¬ ((p5 &&& (2 : Int32)) = (0 : Int32)) then (1 : Int32) else (0 : Int32))), .val (.double (if j = (0 : Int32) then u0 else (if j = (1 : Int32) then u1 else u2))), .second, .val (.ref b42), .unset, .unset, .unset, .unset, .unset, .unset, .unset] [(.double (if (if ¬ ((p5 &&& (2 : Int32)) = (0 : Int32)) then (1 : Int32) else (0 : Int32)) = (0 : Int32) then FP.dconst1 else (oupd (oupd (oupd (fun _ => (0 : UInt64)) 0 u0) 1 u1) 2 u2) i))])) t
    refine XS.dstore P61.here P61.x rfl (hb hby at_127) rfl (l' := #[.val (.int p0), .val (.int p1), .val (.int p2), .val (.int p3), .val (.int p4), .val (.int p5), .val (.double u0), .second, .val (.double u1), .second, .val (.double u2), .second, .val (.ref b10), .val (.int j), .val (.int (if ¬ ((p5 &&& (1 : Int32)) = (0 : Int32)) then (1 : Int32) else (0 : Int32))), .val (.int (if ¬ ((p5 &&& (2 : Int32)) = (0 : Int32)) then (1 : Int32) else (0 : Int32))), .val (.double (if j = (0 : Int32) then u0 else (if j = (1 : Int32) then u1 else u2))), .second, .val (.ref b42), .val (.double (if (if ¬ ((p5 &&& (2 : Int32)) = (0 : Int32)) then (1 : Int32) else (0 : Int32)) = (0 : Int32) then FP.dconst1 else (oupd (oupd (oupd (fun _ => (0 : UInt64)) 0 u0) 1 u1) 2 u2) i)), .second, .unset, .unset, .unset, .unset, .unset]) rfl ?_
    show Steps p.tables e below (T60.setTop (mkF m 129 #[.val (.int p0), .val (.int p1), .val (.int p2), .val (.int p3), .val (.int p4), .val (.int p5), .val (.double u0), .second, .val (.double u1), .second, .val (.double u2), .second, .val (.ref b10), .val (.int j), .val (.int (if ¬ ((p5 &&& (1 : Int32)) = (0 : Int32)) then (1 : Int32) else (0 : Int32))), .val (.int (if ¬ ((p5 &&& (2 : Int32)) = (0 : Int32)) then (1 : Int32) else (0 : Int32))), .val (.double (if j = (0 : Int32) then u0 else (if j = (1 : Int32) then u1 else u2))), .second, .val (.ref b42), .val (.double (if (if ¬ ((p5 &&& (2 : Int32)) = (0 : Int32)) then (1 : Int32) else (0 : Int32)) = (0 : Int32) then FP.dconst1 else (oupd (oupd (oupd (fun _ => (0 : UInt64)) 0 u0) 1 u1) 2 u2) i)), .second, .unset, .unset, .unset, .unset, .unset] [])) t
    refine XS.iload P61.here P61.x rfl (hb hby at_129) rfl ?_
    show Steps p.tables e below (T60.setTop (mkF m 131 #[.val (.int p0), .val (.int p1), .val (.int p2), .val (.int p3), .val (.int p4), .val (.int p5), .val (.double u0), .second, .val (.double u1), .second, .val (.double u2), .second, .val (.ref b10), .val (.int j), .val (.int (if ¬ ((p5 &&& (1 : Int32)) = (0 : Int32)) then (1 : Int32) else (0 : Int32))), .val (.int (if ¬ ((p5 &&& (2 : Int32)) = (0 : Int32)) then (1 : Int32) else (0 : Int32))), .val (.double (if j = (0 : Int32) then u0 else (if j = (1 : Int32) then u1 else u2))), .second, .val (.ref b42), .val (.double (if (if ¬ ((p5 &&& (2 : Int32)) = (0 : Int32)) then (1 : Int32) else (0 : Int32)) = (0 : Int32) then FP.dconst1 else (oupd (oupd (oupd (fun _ => (0 : UInt64)) 0 u0) 1 u1) 2 u2) i)), .second, .unset, .unset, .unset, .unset, .unset] [(.int (if ¬ ((p5 &&& (2 : Int32)) = (0 : Int32)) then (1 : Int32) else (0 : Int32)))])) t
    suffices kk65 : Steps p.tables e below (T60.setTop (mkF m 140 #[.val (.int p0), .val (.int p1), .val (.int p2), .val (.int p3), .val (.int p4), .val (.int p5), .val (.double u0), .second, .val (.double u1), .second, .val (.double u2), .second, .val (.ref b10), .val (.int j), .val (.int (if ¬ ((p5 &&& (1 : Int32)) = (0 : Int32)) then (1 : Int32) else (0 : Int32))), .val (.int (if ¬ ((p5 &&& (2 : Int32)) = (0 : Int32)) then (1 : Int32) else (0 : Int32))), .val (.double (if j = (0 : Int32) then u0 else (if j = (1 : Int32) then u1 else u2))), .second, .val (.ref b42), .val (.double (if (if ¬ ((p5 &&& (2 : Int32)) = (0 : Int32)) then (1 : Int32) else (0 : Int32)) = (0 : Int32) then FP.dconst1 else (oupd (oupd (oupd (fun _ => (0 : UInt64)) 0 u0) 1 u1) 2 u2) i)), .second, .unset, .unset, .unset, .unset, .unset] [(.double (if ¬ ((p5 &&& (2 : Int32)) = (0 : Int32)) then (if j = (0 : Int32) then u0 else (if j = (1 : Int32) then u1 else u2)) else FP.dconst1))])) t by
      by_cases hc64 : ¬ ((p5 &&& (2 : Int32)) = (0 : Int32))
      · rw [show (if ¬ ((p5 &&& (2 : Int32)) = (0 : Int32)) then (if j = (0 : Int32) then u0 else (if j = (1 : Int32) then u1 else u2)) else FP.dconst1) = (if j = (0 : Int32) then u0 else (if j = (1 : Int32) then u1 else u2)) from if_pos hc64] at kk65
        show Steps p.tables e below (T60.setTop (mkF m 131 #[.val (.int p0), .val (.int p1), .val (.int p2), .val (.int p3), .val (.int p4), .val (.int p5), .val (.double u0), .second, .val (.double u1), .second, .val (.double u2), .second, .val (.ref b10), .val (.int j), .val (.int (if ¬ ((p5 &&& (1 : Int32)) = (0 : Int32)) then (1 : Int32) else (0 : Int32))), .val (.int (if ¬ ((p5 &&& (2 : Int32)) = (0 : Int32)) then (1 : Int32) else (0 : Int32))), .val (.double (if j = (0 : Int32) then u0 else (if j = (1 : Int32) then u1 else u2))), .second, .val (.ref b42), .val (.double (if (if ¬ ((p5 &&& (2 : Int32)) = (0 : Int32)) then (1 : Int32) else (0 : Int32)) = (0 : Int32) then FP.dconst1 else (oupd (oupd (oupd (fun _ => (0 : UInt64)) 0 u0) 1 u1) 2 u2) i)), .second, .unset, .unset, .unset, .unset, .unset] [(.int (if ¬ ((p5 &&& (2 : Int32)) = (0 : Int32)) then (1 : Int32) else (0 : Int32)))])) t
        refine XS.ifNo P61.here P61.x rfl (hb hby at_131) rfl (b01_eq_f (not_not_intro hc64)) ?_
        show Steps p.tables e below (T60.setTop (mkF m 134 #[.val (.int p0), .val (.int p1), .val (.int p2), .val (.int p3), .val (.int p4), .val (.int p5), .val (.double u0), .second, .val (.double u1), .second, .val (.double u2), .second, .val (.ref b10), .val (.int j), .val (.int (if ¬ ((p5 &&& (1 : Int32)) = (0 : Int32)) then (1 : Int32) else (0 : Int32))), .val (.int (if ¬ ((p5 &&& (2 : Int32)) = (0 : Int32)) then (1 : Int32) else (0 : Int32))), .val (.double (if j = (0 : Int32) then u0 else (if j = (1 : Int32) then u1 else u2))), .second, .val (.ref b42), .val (.double (if (if ¬ ((p5 &&& (2 : Int32)) = (0 : Int32)) then (1 : Int32) else (0 : Int32)) = (0 : Int32) then FP.dconst1 else (oupd (oupd (oupd (fun _ => (0 : UInt64)) 0 u0) 1 u1) 2 u2) i)), .second, .unset, .unset, .unset, .unset, .unset] [])) t
        refine XS.dload P61.here P61.x rfl (hb hby at_134) rfl ?_
        show Steps p.tables e below (T60.setTop (mkF m 136 #[.val (.int p0), .val (.int p1), .val (.int p2), .val (.int p3), .val (.int p4), .val (.int p5), .val (.double u0), .second, .val (.double u1), .second, .val (.double u2), .second, .val (.ref b10), .val (.int j), .val (.int (if ¬ ((p5 &&& (1 : Int32)) = (0 : Int32)) then (1 : Int32) else (0 : Int32))), .val (.int (if ¬ ((p5 &&& (2 : Int32)) = (0 : Int32)) then (1 : Int32) else (0 : Int32))), .val (.double (if j = (0 : Int32) then u0 else (if j = (1 : Int32) then u1 else u2))), .second, .val (.ref b42), .val (.double (if (if ¬ ((p5 &&& (2 : Int32)) = (0 : Int32)) then (1 : Int32) else (0 : Int32)) = (0 : Int32) then FP.dconst1 else (oupd (oupd (oupd (fun _ => (0 : UInt64)) 0 u0) 1 u1) 2 u2) i)), .second, .unset, .unset, .unset, .unset, .unset] [(.double (if j = (0 : Int32) then u0 else (if j = (1 : Int32) then u1 else u2)))])) t
        refine XS.goto P61.here P61.x rfl (pc0 := 136) (pc' := 140) rfl (hb hby at_136) (by decide) (by decide) ?_
        exact kk65
      · rw [show (if ¬ ((p5 &&& (2 : Int32)) = (0 : Int32)) then (if j = (0 : Int32) then u0 else (if j = (1 : Int32) then u1 else u2)) else FP.dconst1) = FP.dconst1 from if_neg hc64] at kk65
        show Steps p.tables e below (T60.setTop (mkF m 131 #[.val (.int p0), .val (.int p1), .val (.int p2), .val (.int p3), .val (.int p4), .val (.int p5), .val (.double u0), .second, .val (.double u1), .second, .val (.double u2), .second, .val (.ref b10), .val (.int j), .val (.int (if ¬ ((p5 &&& (1 : Int32)) = (0 : Int32)) then (1 : Int32) else (0 : Int32))), .val (.int (if ¬ ((p5 &&& (2 : Int32)) = (0 : Int32)) then (1 : Int32) else (0 : Int32))), .val (.double (if j = (0 : Int32) then u0 else (if j = (1 : Int32) then u1 else u2))), .second, .val (.ref b42), .val (.double (if (if ¬ ((p5 &&& (2 : Int32)) = (0 : Int32)) then (1 : Int32) else (0 : Int32)) = (0 : Int32) then FP.dconst1 else (oupd (oupd (oupd (fun _ => (0 : UInt64)) 0 u0) 1 u1) 2 u2) i)), .second, .unset, .unset, .unset, .unset, .unset] [(.int (if ¬ ((p5 &&& (2 : Int32)) = (0 : Int32)) then (1 : Int32) else (0 : Int32)))])) t
        refine XS.ifYes P61.here P61.x rfl (pc0 := 131) (pc' := 139) rfl (hb hby at_131) rfl (b01_eq_t hc64) (by decide) (by decide) ?_
        show Steps p.tables e below (T60.setTop (mkF m 139 #[.val (.int p0), .val (.int p1), .val (.int p2), .val (.int p3), .val (.int p4), .val (.int p5), .val (.double u0), .second, .val (.double u1), .second, .val (.double u2), .second, .val (.ref b10), .val (.int j), .val (.int (if ¬ ((p5 &&& (1 : Int32)) = (0 : Int32)) then (1 : Int32) else (0 : Int32))), .val (.int (if ¬ ((p5 &&& (2 : Int32)) = (0 : Int32)) then (1 : Int32) else (0 : Int32))), .val (.double (if j = (0 : Int32) then u0 else (if j = (1 : Int32) then u1 else u2))), .second, .val (.ref b42), .val (.double (if (if ¬ ((p5 &&& (2 : Int32)) = (0 : Int32)) then (1 : Int32) else (0 : Int32)) = (0 : Int32) then FP.dconst1 else (oupd (oupd (oupd (fun _ => (0 : UInt64)) 0 u0) 1 u1) 2 u2) i)), .second, .unset, .unset, .unset, .unset, .unset] [])) t
        refine XS.dconst1 P61.here P61.x rfl (hb hby at_139) rfl ?_
        exact kk65
    show Steps p.tables e below (T60.setTop (mkF m 140 #[.val (.int p0), .val (.int p1), .val (.int p2), .val (.int p3), .val (.int p4), .val (.int p5), .val (.double u0), .second, .val (.double u1), .second, .val (.double u2), .second, .val (.ref b10), .val (.int j), .val (.int (if ¬ ((p5 &&& (1 : Int32)) = (0 : Int32)) then (1 : Int32) else (0 : Int32))), .val (.int (if ¬ ((p5 &&& (2 : Int32)) = (0 : Int32)) then (1 : Int32) else (0 : Int32))), .val (.double (if j = (0 : Int32) then u0 else (if j = (1 : Int32) then u1 else u2))), .second, .val (.ref b42), .val (.double (if (if ¬ ((p5 &&& (2 : Int32)) = (0 : Int32)) then (1 : Int32) else (0 : Int32)) = (0 : Int32) then FP.dconst1 else (oupd (oupd (oupd (fun _ => (0 : UInt64)) 0 u0) 1 u1) 2 u2) i)), .second, .unset, .unset, .unset, .unset, .unset] [(.double (if ¬ ((p5 &&& (2 : Int32)) = (0 : Int32)) then (if j = (0 : Int32) then u0 else (if j = (1 : Int32) then u1 else u2)) else FP.dconst1))])) t
    refine XS.dstore P61.here P61.x rfl (hb hby at_140) rfl (l' := #[.val (.int p0), .val (.int p1), .val (.int p2), .val (.int p3), .val (.int p4), .val (.int p5), .val (.double u0), .second, .val (.double u1), .second, .val (.double u2), .second, .val (.ref b10), .val (.int j), .val (.int (if ¬ ((p5 &&& (1 : Int32)) = (0 : Int32)) then (1 : Int32) else (0 : Int32))), .val (.int (if ¬ ((p5 &&& (2 : Int32)) = (0 : Int32)) then (1 : Int32) else (0 : Int32))), .val (.double (if j = (0 : Int32) then u0 else (if j = (1 : Int32) then u1 else u2))), .second, .val (.ref b42), .val (.double (if (if ¬ ((p5 &&& (2 : Int32)) = (0 : Int32)) then (1 : Int32) else (0 : Int32)) = (0 : Int32) then FP.dconst1 else (oupd (oupd (oupd (fun _ => (0 : UInt64)) 0 u0) 1 u1) 2 u2) i)), .second, .val (.double (if ¬ ((p5 &&& (2 : Int32)) = (0 : Int32)) then (if j = (0 : Int32) then u0 else (if j = (1 : Int32) then u1 else u2)) else FP.dconst1)), .second, .unset, .unset, .unset]) rfl ?_
    show Steps p.tables e below (T60.setTop (mkF m 142 #[.val (.int p0), .val (.int p1), .val (.int p2), .val (.int p3), .val (.int p4), .val (.int p5), .val (.double u0), .second, .val (.double u1), .second, .val (.double u2), .second, .val (.ref b10), .val (.int j), .val (.int (if ¬ ((p5 &&& (1 : Int32)) = (0 : Int32)) then (1 : Int32) else (0 : Int32))), .val (.int (if ¬ ((p5 &&& (2 : Int32)) = (0 : Int32)) then (1 : Int32) else (0 : Int32))), .val (.double (if j = (0 : Int32) then u0 else (if j = (1 : Int32) then u1 else u2))), .second, .val (.ref b42), .val (.double (if (if ¬ ((p5 &&& (2 : Int32)) = (0 : Int32)) then (1 : Int32) else (0 : Int32)) = (0 : Int32) then FP.dconst1 else (oupd (oupd (oupd (fun _ => (0 : UInt64)) 0 u0) 1 u1) 2 u2) i)), .second, .val (.double (if ¬ ((p5 &&& (2 : Int32)) = (0 : Int32)) then (if j = (0 : Int32) then u0 else (if j = (1 : Int32) then u1 else u2)) else FP.dconst1)), .second, .unset, .unset, .unset] [])) t
    refine XS.aload P61.here P61.x rfl (hb hby at_142) rfl rfl ?_
    exact kk
  show Done _ _ _ _ _ _ _ _ _ _ _ _ _ _ _ T60 (mkF m 144 #[.val (.int p0), .val (.int p1), .val (.int p2), .val (.int p3), .val (.int p4), .val (.int p5), .val (.double u0), .second, .val (.double u1), .second, .val (.double u2), .second, .val (.ref b10), .val (.int j), .val (.int (if ¬ ((p5 &&& (1 : Int32)) = (0 : Int32)) then (1 : Int32) else (0 : Int32))), .val (.int (if ¬ ((p5 &&& (2 : Int32)) = (0 : Int32)) then (1 : Int32) else (0 : Int32))), .val (.double (if j = (0 : Int32) then u0 else (if j = (1 : Int32) then u1 else u2))), .second, .val (.ref b42), .val (.double (if (if ¬ ((p5 &&& (2 : Int32)) = (0 : Int32)) then (1 : Int32) else (0 : Int32)) = (0 : Int32) then FP.dconst1 else (oupd (oupd (oupd (fun _ => (0 : UInt64)) 0 u0) 1 u1) 2 u2) i)), .second, .val (.double (if ¬ ((p5 &&& (2 : Int32)) = (0 : Int32)) then (if j = (0 : Int32) then u0 else (if j = (1 : Int32) then u1 else u2)) else FP.dconst1)), .second, .unset, .unset, .unset] [(.ref b42)])
  refine wCallV P61 (m_withRows l Z a0 hw b42 b10 (FP.i2d p4) (if ¬ ((p5 &&& (1 : Int32)) = (0 : Int32)) then (1 : Int32) else (0 : Int32)) h58 F54 F55 F56 (b01or _)) (tw34 hw) (tw35 hw) (tw37 hw) (tw37 hw) (tw36 hw) (tw9 hw) (tw38 hw) (by decide) f63 (by rw [hml]; rfl) (lenOf pd_3 rfl) (argsL := []) (rest := []) rfl rfl (W := 0) (Nat.le_of_eq rfl) (by decide) (by decide) (by decide) (by decide) (by simp) (hb hby at_144) rfl (k' := 3) (n' := 11) rfl rfl ?_
  rintro T66 h76 _ P67 K77 ⟨b68, rfl, ge74, lt75, X73, F69, F70, F71, F72⟩
  have szh76 : h58.size ≤ h76.size := K77.1
  show Done _ _ _ _ _ _ _ _ _ _ _ _ _ _ _ T66 (mkF m 147 #[.val (.int p0), .val (.int p1), .val (.int p2), .val (.int p3), .val (.int p4), .val (.int p5), .val (.double u0), .second, .val (.double u1), .second, .val (.double u2), .second, .val (.ref b10), .val (.int j), .val (.int (if ¬ ((p5 &&& (1 : Int32)) = (0 : Int32)) then (1 : Int32) else (0 : Int32))), .val (.int (if ¬ ((p5 &&& (2 : Int32)) = (0 : Int32)) then (1 : Int32) else (0 : Int32))), .val (.double (if j = (0 : Int32) then u0 else (if j = (1 : Int32) then u1 else u2))), .second, .val (.ref b42), .val (.double (if (if ¬ ((p5 &&& (2 : Int32)) = (0 : Int32)) then (1 : Int32) else (0 : Int32)) = (0 : Int32) then FP.dconst1 else (oupd (oupd (oupd (fun _ => (0 : UInt64)) 0 u0) 1 u1) 2 u2) i)), .second, .val (.double (if ¬ ((p5 &&& (2 : Int32)) = (0 : Int32)) then (if j = (0 : Int32) then u0 else (if j = (1 : Int32) then u1 else u2)) else FP.dconst1)), .second, .unset, .unset, .unset] [(.ref b68)])
  refine Done.step (T' := T66) (g' := (mkF m 153 #[.val (.int p0), .val (.int p1), .val (.int p2), .val (.int p3), .val (.int p4), .val (.int p5), .val (.double u0), .second, .val (.double u1), .second, .val (.double u2), .second, .val (.ref b10), .val (.int j), .val (.int (if ¬ ((p5 &&& (1 : Int32)) = (0 : Int32)) then (1 : Int32) else (0 : Int32))), .val (.int (if ¬ ((p5 &&& (2 : Int32)) = (0 : Int32)) then (1 : Int32) else (0 : Int32))), .val (.double (if j = (0 : Int32) then u0 else (if j = (1 : Int32) then u1 else u2))), .second, .val (.ref b42), .val (.double (if (if ¬ ((p5 &&& (2 : Int32)) = (0 : Int32)) then (1 : Int32) else (0 : Int32)) = (0 : Int32) then FP.dconst1 else (oupd (oupd (oupd (fun _ => (0 : UInt64)) 0 u0) 1 u1) 2 u2) i)), .second, .val (.double (if ¬ ((p5 &&& (2 : Int32)) = (0 : Int32)) then (if j = (0 : Int32) then u0 else (if j = (1 : Int32) then u1 else u2)) else FP.dconst1)), .second, .val (.ref b68), .unset, .unset] [(.int j), (.ref b68)])) (fun t kk => ?_) ?_
  · show Steps p.tables e below (T66.setTop (mkF m 147 #[.val (.int p0), .val (.int p1), .val (.int p2), .val (.int p3), .val (.int p4), .val (.int p5), .val (.double u0), .second, .val (.double u1), .second, .val (.double u2), .second, .val (.ref b10), .val (.int j), .val (.int (if ¬ ((p5 &&& (1 : Int32)) = (0 : Int32)) then (1 : Int32) else (0 : Int32))), .val (.int (if ¬ ((p5 &&& (2 : Int32)) = (0 : Int32)) then (1 : Int32) else (0 : Int32))), .val (.double (if j = (0 : Int32) then u0 else (if j = (1 : Int32) then u1 else u2))), .second, .val (.ref b42), .val (.double (if (if ¬ ((p5 &&& (2 : Int32)) = (0 : Int32)) then (1 : Int32) else (0 : Int32)) = (0 : Int32) then FP.dconst1 else (oupd (oupd (oupd (fun _ => (0 : UInt64)) 0 u0) 1 u1) 2 u2) i)), .second, .val (.double (if ¬ ((p5 &&& (2 : Int32)) = (0 : Int32)) then (if j = (0 : Int32) then u0 else (if j = (1 : Int32) then u1 else u2)) else FP.dconst1)), .second, .unset, .unset, .unset] [(.ref b68)])) t
    refine XS.astore P67.here P67.x rfl (hb hby at_147) rfl rfl (l' := #[.val (.int p0), .val (.int p1), .val (.int p2), .val (.int p3), .val (.int p4), .val (.int p5), .val (.double u0), .second, .val (.double u1), .second, .val (.double u2), .second, .val (.ref b10), .val (.int j), .val (.int (if ¬ ((p5 &&& (1 : Int32)) = (0 : Int32)) then (1 : Int32) else (0 : Int32))), .val (.int (if ¬ ((p5 &&& (2 : Int32)) = (0 : Int32)) then (1 : Int32) else (0 : Int32))), .val (.double (if j = (0 : Int32) then u0 else (if j = (1 : Int32) then u1 else u2))), .second, .val (.ref b42), .val (.double (if (if ¬ ((p5 &&& (2 : Int32)) = (0 : Int32)) then (1 : Int32) else (0 : Int32)) = (0 : Int32) then FP.dconst1 else (oupd (oupd (oupd (fun _ => (0 : UInt64)) 0 u0) 1 u1) 2 u2) i)), .second, .val (.double (if ¬ ((p5 &&& (2 : Int32)) = (0 : Int32)) then (if j = (0 : Int32) then u0 else (if j = (1 : Int32) then u1 else u2)) else FP.dconst1)), .second, .val (.ref b68), .unset, .unset]) rfl ?_
    show Steps p.tables e below (T66.setTop (mkF m 149 #[.val (.int p0), .val (.int p1), .val (.int p2), .val (.int p3), .val (.int p4), .val (.int p5), .val (.double u0), .second, .val (.double u1), .second, .val (.double u2), .second, .val (.ref b10), .val (.int j), .val (.int (if ¬ ((p5 &&& (1 : Int32)) = (0 : Int32)) then (1 : Int32) else (0 : Int32))), .val (.int (if ¬ ((p5 &&& (2 : Int32)) = (0 : Int32)) then (1 : Int32) else (0 : Int32))), .val (.double (if j = (0 : Int32) then u0 else (if j = (1 : Int32) then u1 else u2))), .second, .val (.ref b42), .val (.double (if (if ¬ ((p5 &&& (2 : Int32)) = (0 : Int32)) then (1 : Int32) else (0 : Int32)) = (0 : Int32) then FP.dconst1 else (oupd (oupd (oupd (fun _ => (0 : UInt64)) 0 u0) 1 u1) 2 u2) i)), .second, .val (.double (if ¬ ((p5 &&& (2 : Int32)) = (0 : Int32)) then (if j = (0 : Int32) then u0 else (if j = (1 : Int32) then u1 else u2)) else FP.dconst1)), .second, .val (.ref b68), .unset, .unset] [])) t
    refine XS.aload P67.here P67.x rfl (hb hby at_149) rfl rfl ?_
    show Steps p.tables e below (T66.setTop (mkF m 151 #[.val (.int p0), .val (.int p1), .val (.int p2), .val (.int p3), .val (.int p4), .val (.int p5), .val (.double u0), .second, .val (.double u1), .second, .val (.double u2), .second, .val (.ref b10), .val (.int j), .val (.int (if ¬ ((p5 &&& (1 : Int32)) = (0 : Int32)) then (1 : Int32) else (0 : Int32))), .val (.int (if ¬ ((p5 &&& (2 : Int32)) = (0 : Int32)) then (1 : Int32) else (0 : Int32))), .val (.double (if j = (0 : Int32) then u0 else (if j = (1 : Int32) then u1 else u2))), .second, .val (.ref b42), .val (.double (if (if ¬ ((p5 &&& (2 : Int32)) = (0 : Int32)) then (1 : Int32) else (0 : Int32)) = (0 : Int32) then FP.dconst1 else (oupd (oupd (oupd (fun _ => (0 : UInt64)) 0 u0) 1 u1) 2 u2) i)), .second, .val (.double (if ¬ ((p5 &&& (2 : Int32)) = (0 : Int32)) then (if j = (0 : Int32) then u0 else (if j = (1 : Int32) then u1 else u2)) else FP.dconst1)), .second, .val (.ref b68), .unset, .unset] [(.ref b68)])) t
    refine XS.iload P67.here P67.x rfl (hb hby at_151) rfl ?_
    exact kk
  have f80 := (f62.keep K77 nin0)
  show Done _ _ _ _ _ _ _ _ _ _ _ _ _ _ _ T66 (mkF m 153 #[.val (.int p0), .val (.int p1), .val (.int p2), .val (.int p3), .val (.int p4), .val (.int p5), .val (.double u0), .second, .val (.double u1), .second, .val (.double u2), .second, .val (.ref b10), .val (.int j), .val (.int (if ¬ ((p5 &&& (1 : Int32)) = (0 : Int32)) then (1 : Int32) else (0 : Int32))), .val (.int (if ¬ ((p5 &&& (2 : Int32)) = (0 : Int32)) then (1 : Int32) else (0 : Int32))), .val (.double (if j = (0 : Int32) then u0 else (if j = (1 : Int32) then u1 else u2))), .second, .val (.ref b42), .val (.double (if (if ¬ ((p5 &&& (2 : Int32)) = (0 : Int32)) then (1 : Int32) else (0 : Int32)) = (0 : Int32) then FP.dconst1 else (oupd (oupd (oupd (fun _ => (0 : UInt64)) 0 u0) 1 u1) 2 u2) i)), .second, .val (.double (if ¬ ((p5 &&& (2 : Int32)) = (0 : Int32)) then (if j = (0 : Int32) then u0 else (if j = (1 : Int32) then u1 else u2)) else FP.dconst1)), .second, .val (.ref b68), .unset, .unset] [(.int j), (.ref b68)])
  refine wCallV P67 (m_rowUnit l Z a0 hw b68 j (1 : Int32) b10 3 i (oupd (oupd (oupd (fun _ => (0 : UInt64)) 0 u0) 1 u1) 2 u2) h76 F72 F69 f80 hj hi) (tw29 hw) (tw30 hw) (tw32 hw) (tw32 hw) (tw31 hw) (tw9 hw) (tw33 hw) (by decide) X73 (by rw [hml]; rfl) (lenOf pd_2 rfl) (argsL := [(.int j)]) (rest := []) rfl rfl (W := 0) (Nat.le_of_eq rfl) (by decide) (by decide) (by decide) (by decide) (by simp) (hb hby at_153) rfl (k' := 3) (n' := 11) rfl rfl ?_
  rintro T78 _ _ P79 - ⟨rfl, rfl⟩
  show Done _ _ _ _ _ _ _ _ _ _ _ _ _ _ _ T78 (mkF m 156 #[.val (.int p0), .val (.int p1), .val (.int p2), .val (.int p3), .val (.int p4), .val (.int p5), .val (.double u0), .second, .val (.double u1), .second, .val (.double u2), .second, .val (.ref b10), .val (.int j), .val (.int (if ¬ ((p5 &&& (1 : Int32)) = (0 : Int32)) then (1 : Int32) else (0 : Int32))), .val (.int (if ¬ ((p5 &&& (2 : Int32)) = (0 : Int32)) then (1 : Int32) else (0 : Int32))), .val (.double (if j = (0 : Int32) then u0 else (if j = (1 : Int32) then u1 else u2))), .second, .val (.ref b42), .val (.double (if (if ¬ ((p5 &&& (2 : Int32)) = (0 : Int32)) then (1 : Int32) else (0 : Int32)) = (0 : Int32) then FP.dconst1 else (oupd (oupd (oupd (fun _ => (0 : UInt64)) 0 u0) 1 u1) 2 u2) i)), .second, .val (.double (if ¬ ((p5 &&& (2 : Int32)) = (0 : Int32)) then (if j = (0 : Int32) then u0 else (if j = (1 : Int32) then u1 else u2)) else FP.dconst1)), .second, .val (.ref b68), .unset, .unset] [(.double (if (1 : Int32) = (0 : Int32) then FP.dconst1 else (oupd (oupd (oupd (fun _ => (0 : UInt64)) 0 u0) 1 u1) 2 u2) i))])
  refine Done.step (T' := T78) (g' := (mkF m 179 #[.val (.int p0), .val (.int p1), .val (.int p2), .val (.int p3), .val (.int p4), .val (.int p5), .val (.double u0), .second, .val (.double u1), .second, .val (.double u2), .second, .val (.ref b10), .val (.int j), .val (.int (if ¬ ((p5 &&& (1 : Int32)) = (0 : Int32)) then (1 : Int32) else (0 : Int32))), .val (.int (if ¬ ((p5 &&& (2 : Int32)) = (0 : Int32)) then (1 : Int32) else (0 : Int32))), .val (.double (if j = (0 : Int32) then u0 else (if j = (1 : Int32) then u1 else u2))), .second, .val (.ref b42), .val (.double (if (if ¬ ((p5 &&& (2 : Int32)) = (0 : Int32)) then (1 : Int32) else (0 : Int32)) = (0 : Int32) then FP.dconst1 else (oupd (oupd (oupd (fun _ => (0 : UInt64)) 0 u0) 1 u1) 2 u2) i)), .second, .val (.double (if ¬ ((p5 &&& (2 : Int32)) = (0 : Int32)) then (if j = (0 : Int32) then u0 else (if j = (1 : Int32) then u1 else u2)) else FP.dconst1)), .second, .val (.ref b68), .val (.double (if (1 : Int32) = (0 : Int32) then FP.dconst1 else (oupd (oupd (oupd (fun _ => (0 : UInt64)) 0 u0) 1 u1) 2 u2) i)), .second] [(.int (1 : Int32))])) (fun t kk => ?_) ?_
  · show Steps p.tables e below (T78.setTop (mkF m 156 #[.val (.int p0), .val (.int p1), .val (.int p2), .val (.int p3), .val (.int p4), .val (.int p5), .val (.double u0), .second, .val (.double u1), .second, .val (.double u2), .second, .val (.ref b10), .val (.int j), .val (.int (if ¬ ((p5 &&& (1 : Int32)) = (0 : Int32)) then (1 : Int32) else (0 : Int32))), .val (.int (if ¬ ((p5 &&& (2 : Int32)) = (0 : Int32)) then (1 : Int32) else (0 : Int32))), .val (.double (if j = (0 : Int32) then u0 else (if j = (1 : Int32) then u1 else u2))), .second, .val (.ref b42), .val (.double (if (if ¬ ((p5 &&& (2 : Int32)) = (0 : Int32)) then (1 : Int32) else (0 : Int32)) = (0 : Int32) then FP.dconst1 else (oupd (oupd (oupd (fun _ => (0 : UInt64)) 0 u0) 1 u1) 2 u2) i)), .second, .val (.double (if ¬ ((p5 &&& (2 : Int32)) = (0 : Int32)) then (if j = (0 : Int32) then u0 else (if j = (1 : Int32) then u1 else u2)) else FP.dconst1)), .second, .val (.ref b68), .unset, .unset] [(.double (if (1 : Int32) = (0 : Int32) then FP.dconst1 else (oupd (oupd (oupd (fun _ => (0 : UInt64)) 0 u0) 1 u1) 2 u2) i))])) t
    refine XS.dstore P79.here P79.x rfl (hb hby at_156) rfl (l' := #[.val (.int p0), .val (.int p1), .val (.int p2), .val (.int p3), .val (.int p4), .val (.int p5), .val (.double u0), .second, .val (.double u1), .second, .val (.double u2), .second, .val (.ref b10), .val (.int j), .val (.int (if ¬ ((p5 &&& (1 : Int32)) = (0 : Int32)) then (1 : Int32) else (0 : Int32))), .val (.int (if ¬ ((p5 &&& (2 : Int32)) = (0 : Int32)) then (1 : Int32) else (0 : Int32))), .val (.double (if j = (0 : Int32) then u0 else (if j = (1 : Int32) then u1 else u2))), .second, .val (.ref b42), .val (.double (if (if ¬ ((p5 &&& (2 : Int32)) = (0 : Int32)) then (1 : Int32) else (0 : Int32)) = (0 : Int32) then FP.dconst1 else (oupd (oupd (oupd (fun _ => (0 : UInt64)) 0 u0) 1 u1) 2 u2) i)), .second, .val (.double (if ¬ ((p5 &&& (2 : Int32)) = (0 : Int32)) then (if j = (0 : Int32) then u0 else (if j = (1 : Int32) then u1 else u2)) else FP.dconst1)), .second, .val (.ref b68), .val (.double (if (1 : Int32) = (0 : Int32) then FP.dconst1 else (oupd (oupd (oupd (fun _ => (0 : UInt64)) 0 u0) 1 u1) 2 u2) i)), .second]) rfl ?_
    show Steps p.tables e below (T78.setTop (mkF m 158 #[.val (.int p0), .val (.int p1), .val (.int p2), .val (.int p3), .val (.int p4), .val (.int p5), .val (.double u0), .second, .val (.double u1), .second, .val (.double u2), .second, .val (.ref b10), .val (.int j), .val (.int (if ¬ ((p5 &&& (1 : Int32)) = (0 : Int32)) then (1 : Int32) else (0 : Int32))), .val (.int (if ¬ ((p5 &&& (2 : Int32)) = (0 : Int32)) then (1 : Int32) else (0 : Int32))), .val (.double (if j = (0 : Int32) then u0 else (if j = (1 : Int32) then u1 else u2))), .second, .val (.ref b42), .val (.double (if (if ¬ ((p5 &&& (2 : Int32)) = (0 : Int32)) then (1 : Int32) else (0 : Int32)) = (0 : Int32) then FP.dconst1 else (oupd (oupd (oupd (fun _ => (0 : UInt64)) 0 u0) 1 u1) 2 u2) i)), .second, .val (.double (if ¬ ((p5 &&& (2 : Int32)) = (0 : Int32)) then (if j = (0 : Int32) then u0 else (if j = (1 : Int32) then u1 else u2)) else FP.dconst1)), .second, .val (.ref b68), .val (.double (if (1 : Int32) = (0 : Int32) then FP.dconst1 else (oupd (oupd (oupd (fun _ => (0 : UInt64)) 0 u0) 1 u1) 2 u2) i)), .second] [])) t
    refine XS.dload P79.here P79.x rfl (hb hby at_158) rfl ?_
    show Steps p.tables e below (T78.setTop (mkF m 160 #[.val (.int p0), .val (.int p1), .val (.int p2), .val (.int p3), .val (.int p4), .val (.int p5), .val (.double u0), .second, .val (.double u1), .second, .val (.double u2), .second, .val (.ref b10), .val (.int j), .val (.int (if ¬ ((p5 &&& (1 : Int32)) = (0 : Int32)) then (1 : Int32) else (0 : Int32))), .val (.int (if ¬ ((p5 &&& (2 : Int32)) = (0 : Int32)) then (1 : Int32) else (0 : Int32))), .val (.double (if j = (0 : Int32) then u0 else (if j = (1 : Int32) then u1 else u2))), .second, .val (.ref b42), .val (.double (if (if ¬ ((p5 &&& (2 : Int32)) = (0 : Int32)) then (1 : Int32) else (0 : Int32)) = (0 : Int32) then FP.dconst1 else (oupd (oupd (oupd (fun _ => (0 : UInt64)) 0 u0) 1 u1) 2 u2) i)), .second, .val (.double (if ¬ ((p5 &&& (2 : Int32)) = (0 : Int32)) then (if j = (0 : Int32) then u0 else (if j = (1 : Int32) then u1 else u2)) else FP.dconst1)), .second, .val (.ref b68), .val (.double (if (1 : Int32) = (0 : Int32) then FP.dconst1 else (oupd (oupd (oupd (fun _ => (0 : UInt64)) 0 u0) 1 u1) 2 u2) i)), .second] [(.double (if (if ¬ ((p5 &&& (2 : Int32)) = (0 : Int32)) then (1 : Int32) else (0 : Int32)) = (0 : Int32) then FP.dconst1 else (oupd (oupd (oupd (fun _ => (0 : UInt64)) 0 u0) 1 u1) 2 u2) i))])) t
    refine XS.dload P79.here P79.x rfl (hb hby at_160) rfl ?_
    show Steps p.tables e below (T78.setTop (mkF m 162 #[.val (.int p0), .val (.int p1), .val (.int p2), .val (.int p3), .val (.int p4), .val (.int p5), .val (.double u0), .second, .val (.double u1), .second, .val (.double u2), .second, .val (.ref b10), .val (.int j), .val (.int (if ¬ ((p5 &&& (1 : Int32)) = (0 : Int32)) then (1 : Int32) else (0 : Int32))), .val (.int (if ¬ ((p5 &&& (2 : Int32)) = (0 : Int32)) then (1 : Int32) else (0 : Int32))), .val (.double (if j = (0 : Int32) then u0 else (if j = (1 : Int32) then u1 else u2))), .second, .val (.ref b42), .val (.double (if (if ¬ ((p5 &&& (2 : Int32)) = (0 : Int32)) then (1 : Int32) else (0 : Int32)) = (0 : Int32) then FP.dconst1 else (oupd (oupd (oupd (fun _ => (0 : UInt64)) 0 u0) 1 u1) 2 u2) i)), .second, .val (.double (if ¬ ((p5 &&& (2 : Int32)) = (0 : Int32)) then (if j = (0 : Int32) then u0 else (if j = (1 : Int32) then u1 else u2)) else FP.dconst1)), .second, .val (.ref b68), .val (.double (if (1 : Int32) = (0 : Int32) then FP.dconst1 else (oupd (oupd (oupd (fun _ => (0 : UInt64)) 0 u0) 1 u1) 2 u2) i)), .second] [(.double (if ¬ ((p5 &&& (2 : Int32)) = (0 : Int32)) then (if j = (0 : Int32) then u0 else (if j = (1 : Int32) then u1 else u2)) else FP.dconst1)), (.double (if (if ¬ ((p5 &&& (2 : Int32)) = (0 : Int32)) then (1 : Int32) else (0 : Int32)) = (0 : Int32) then FP.dconst1 else (oupd (oupd (oupd (fun _ => (0 : UInt64)) 0 u0) 1 u1) 2 u2) i))])) t
    refine XS.dcmpS P79.here P79.x rfl (hb hby at_162) rfl (own_e1 _ u0 u1 u2 j i hj hi n_u0 n_u1 n_u2) ?_
    show Steps p.tables e below (T78.setTop (mkF m 163 #[.val (.int p0), .val (.int p1), .val (.int p2), .val (.int p3), .val (.int p4), .val (.int p5), .val (.double u0), .second, .val (.double u1), .second, .val (.double u2), .second, .val (.ref b10), .val (.int j), .val (.int (if ¬ ((p5 &&& (1 : Int32)) = (0 : Int32)) then (1 : Int32) else (0 : Int32))), .val (.int (if ¬ ((p5 &&& (2 : Int32)) = (0 : Int32)) then (1 : Int32) else (0 : Int32))), .val (.double (if j = (0 : Int32) then u0 else (if j = (1 : Int32) then u1 else u2))), .second, .val (.ref b42), .val (.double (if (if ¬ ((p5 &&& (2 : Int32)) = (0 : Int32)) then (1 : Int32) else (0 : Int32)) = (0 : Int32) then FP.dconst1 else (oupd (oupd (oupd (fun _ => (0 : UInt64)) 0 u0) 1 u1) 2 u2) i)), .second, .val (.double (if ¬ ((p5 &&& (2 : Int32)) = (0 : Int32)) then (if j = (0 : Int32) then u0 else (if j = (1 : Int32) then u1 else u2)) else FP.dconst1)), .second, .val (.ref b68), .val (.double (if (1 : Int32) = (0 : Int32) then FP.dconst1 else (oupd (oupd (oupd (fun _ => (0 : UInt64)) 0 u0) 1 u1) 2 u2) i)), .second] [(.int (0 : Int32))])) t
    refine XS.ifNo P79.here P79.x rfl (hb hby at_163) rfl (i0W_ne_f (by decide)) ?_
    show Steps p.tables e below (T78.setTop (mkF m 166 #[.val (.int p0), .val (.int p1), .val (.int p2), .val (.int p3), .val (.int p4), .val (.int p5), .val (.double u0), .second, .val (.double u1), .second, .val (.double u2), .second, .val (.ref b10), .val (.int j), .val (.int (if ¬ ((p5 &&& (1 : Int32)) = (0 : Int32)) then (1 : Int32) else (0 : Int32))), .val (.int (if ¬ ((p5 &&& (2 : Int32)) = (0 : Int32)) then (1 : Int32) else (0 : Int32))), .val (.double (if j = (0 : Int32) then u0 else (if j = (1 : Int32) then u1 else u2))), .second, .val (.ref b42), .val (.double (if (if ¬ ((p5 &&& (2 : Int32)) = (0 : Int32)) then (1 : Int32) else (0 : Int32)) = (0 : Int32) then FP.dconst1 else (oupd (oupd (oupd (fun _ => (0 : UInt64)) 0 u0) 1 u1) 2 u2) i)), .second, .val (.double (if ¬ ((p5 &&& (2 : Int32)) = (0 : Int32)) then (if j = (0 : Int32) then u0 else (if j = (1 : Int32) then u1 else u2)) else FP.dconst1)), .second, .val (.ref b68), .val (.double (if (1 : Int32) = (0 : Int32) then FP.dconst1 else (oupd (oupd (oupd (fun _ => (0 : UInt64)) 0 u0) 1 u1) 2 u2) i)), .second] [])) t
    refine XS.dload P79.here P79.x rfl (hb hby at_166) rfl ?_
    show Steps p.tables e below (T78.setTop (mkF m 168 #[.val (.int p0), .val (.int p1), .val (.int p2), .val (.int p3), .val (.int p4), .val (.int p5), .val (.double u0), .second, .val (.double u1), .second, .val (.double u2), .second, .val (.ref b10), .val (.int j), .val (.int (if ¬ ((p5 &&& (1 : Int32)) = (0 : Int32)) then (1 : Int32) else (0 : Int32))), .val (.int (if ¬ ((p5 &&& (2 : Int32)) = (0 : Int32)) then (1 : Int32) else (0 : Int32))), .val (.double (if j = (0 : Int32) then u0 else (if j = (1 : Int32) then u1 else u2))), .second, .val (.ref b42), .val (.double (if (if ¬ ((p5 &&& (2 : Int32)) = (0 : Int32)) then (1 : Int32) else (0 : Int32)) = (0 : Int32) then FP.dconst1 else (oupd (oupd (oupd (fun _ => (0 : UInt64)) 0 u0) 1 u1) 2 u2) i)), .second, .val (.double (if ¬ ((p5 &&& (2 : Int32)) = (0 : Int32)) then (if j = (0 : Int32) then u0 else (if j = (1 : Int32) then u1 else u2)) else FP.dconst1)), .second, .val (.ref b68), .val (.double (if (1 : Int32) = (0 : Int32) then FP.dconst1 else (oupd (oupd (oupd (fun _ => (0 : UInt64)) 0 u0) 1 u1) 2 u2) i)), .second] [(.double (if (1 : Int32) = (0 : Int32) then FP.dconst1 else (oupd (oupd (oupd (fun _ => (0 : UInt64)) 0 u0) 1 u1) 2 u2) i))])) t
    refine XS.dload P79.here P79.x rfl (hb hby at_168) rfl ?_
    show Steps p.tables e below (T78.setTop (mkF m 170 #[.val (.int p0), .val (.int p1), .val (.int p2), .val (.int p3), .val (.int p4), .val (.int p5), .val (.double u0), .second, .val (.double u1), .second, .val (.double u2), .second, .val (.ref b10), .val (.int j), .val (.int (if ¬ ((p5 &&& (1 : Int32)) = (0 : Int32)) then (1 : Int32) else (0 : Int32))), .val (.int (if ¬ ((p5 &&& (2 : Int32)) = (0 : Int32)) then (1 : Int32) else (0 : Int32))), .val (.double (if j = (0 : Int32) then u0 else (if j = (1 : Int32) then u1 else u2))), .second, .val (.ref b42), .val (.double (if (if ¬ ((p5 &&& (2 : Int32)) = (0 : Int32)) then (1 : Int32) else (0 : Int32)) = (0 : Int32) then FP.dconst1 else (oupd (oupd (oupd (fun _ => (0 : UInt64)) 0 u0) 1 u1) 2 u2) i)), .second, .val (.double (if ¬ ((p5 &&& (2 : Int32)) = (0 : Int32)) then (if j = (0 : Int32) then u0 else (if j = (1 : Int32) then u1 else u2)) else FP.dconst1)), .second, .val (.ref b68), .val (.double (if (1 : Int32) = (0 : Int32) then FP.dconst1 else (oupd (oupd (oupd (fun _ => (0 : UInt64)) 0 u0) 1 u1) 2 u2) i)), .second] [(.double (if j = (0 : Int32) then u0 else (if j = (1 : Int32) then u1 else u2))), (.double (if (1 : Int32) = (0 : Int32) then FP.dconst1 else (oupd (oupd (oupd (fun _ => (0 : UInt64)) 0 u0) 1 u1) 2 u2) i))])) t
    refine XS.dcmpS P79.here P79.x rfl (hb hby at_170) rfl (own_e2 u0 u1 u2 j i hj hi n_u0 n_u1 n_u2) ?_
    show Steps p.tables e below (T78.setTop (mkF m 171 #[.val (.int p0), .val (.int p1), .val (.int p2), .val (.int p3), .val (.int p4), .val (.int p5), .val (.double u0), .second, .val (.double u1), .second, .val (.double u2), .second, .val (.ref b10), .val (.int j), .val (.int (if ¬ ((p5 &&& (1 : Int32)) = (0 : Int32)) then (1 : Int32) else (0 : Int32))), .val (.int (if ¬ ((p5 &&& (2 : Int32)) = (0 : Int32)) then (1 : Int32) else (0 : Int32))), .val (.double (if j = (0 : Int32) then u0 else (if j = (1 : Int32) then u1 else u2))), .second, .val (.ref b42), .val (.double (if (if ¬ ((p5 &&& (2 : Int32)) = (0 : Int32)) then (1 : Int32) else (0 : Int32)) = (0 : Int32) then FP.dconst1 else (oupd (oupd (oupd (fun _ => (0 : UInt64)) 0 u0) 1 u1) 2 u2) i)), .second, .val (.double (if ¬ ((p5 &&& (2 : Int32)) = (0 : Int32)) then (if j = (0 : Int32) then u0 else (if j = (1 : Int32) then u1 else u2)) else FP.dconst1)), .second, .val (.ref b68), .val (.double (if (1 : Int32) = (0 : Int32) then FP.dconst1 else (oupd (oupd (oupd (fun _ => (0 : UInt64)) 0 u0) 1 u1) 2 u2) i)), .second] [(.int (0 : Int32))])) t
    refine XS.ifNo P79.here P79.x rfl (hb hby at_171) rfl (i0W_ne_f (by decide)) ?_
    show Steps p.tables e below (T78.setTop (mkF m 174 #[.val (.int p0), .val (.int p1), .val (.int p2), .val (.int p3), .val (.int p4), .val (.int p5), .val (.double u0), .second, .val (.double u1), .second, .val (.double u2), .second, .val (.ref b10), .val (.int j), .val (.int (if ¬ ((p5 &&& (1 : Int32)) = (0 : Int32)) then (1 : Int32) else (0 : Int32))), .val (.int (if ¬ ((p5 &&& (2 : Int32)) = (0 : Int32)) then (1 : Int32) else (0 : Int32))), .val (.double (if j = (0 : Int32) then u0 else (if j = (1 : Int32) then u1 else u2))), .second, .val (.ref b42), .val (.double (if (if ¬ ((p5 &&& (2 : Int32)) = (0 : Int32)) then (1 : Int32) else (0 : Int32)) = (0 : Int32) then FP.dconst1 else (oupd (oupd (oupd (fun _ => (0 : UInt64)) 0 u0) 1 u1) 2 u2) i)), .second, .val (.double (if ¬ ((p5 &&& (2 : Int32)) = (0 : Int32)) then (if j = (0 : Int32) then u0 else (if j = (1 : Int32) then u1 else u2)) else FP.dconst1)), .second, .val (.ref b68), .val (.double (if (1 : Int32) = (0 : Int32) then FP.dconst1 else (oupd (oupd (oupd (fun _ => (0 : UInt64)) 0 u0) 1 u1) 2 u2) i)), .second] [])) t
    refine XS.iconst P79.here P79.x rfl (hb hby at_174) ?_
    show Steps p.tables e below (T78.setTop (mkF m 175 #[.val (.int p0), .val (.int p1), .val (.int p2), .val (.int p3), .val (.int p4), .val (.int p5), .val (.double u0), .second, .val (.double u1), .second, .val (.double u2), .second, .val (.ref b10), .val (.int j), .val (.int (if ¬ ((p5 &&& (1 : Int32)) = (0 : Int32)) then (1 : Int32) else (0 : Int32))), .val (.int (if ¬ ((p5 &&& (2 : Int32)) = (0 : Int32)) then (1 : Int32) else (0 : Int32))), .val (.double (if j = (0 : Int32) then u0 else (if j = (1 : Int32) then u1 else u2))), .second, .val (.ref b42), .val (.double (if (if ¬ ((p5 &&& (2 : Int32)) = (0 : Int32)) then (1 : Int32) else (0 : Int32)) = (0 : Int32) then FP.dconst1 else (oupd (oupd (oupd (fun _ => (0 : UInt64)) 0 u0) 1 u1) 2 u2) i)), .second, .val (.double (if ¬ ((p5 &&& (2 : Int32)) = (0 : Int32)) then (if j = (0 : Int32) then u0 else (if j = (1 : Int32) then u1 else u2)) else FP.dconst1)), .second, .val (.ref b68), .val (.double (if (1 : Int32) = (0 : Int32) then FP.dconst1 else (oupd (oupd (oupd (fun _ => (0 : UInt64)) 0 u0) 1 u1) 2 u2) i)), .second] [(.int (1 : Int32))])) t
    refine XS.goto P79.here P79.x rfl (pc0 := 175) (pc' := 179) rfl (hb hby at_175) (by decide) (by decide) ?_
    exact kk
  show Done _ _ _ _ _ _ _ _ _ _ _ _ _ _ _ T78 (mkF m 179 #[.val (.int p0), .val (.int p1), .val (.int p2), .val (.int p3), .val (.int p4), .val (.int p5), .val (.double u0), .second, .val (.double u1), .second, .val (.double u2), .second, .val (.ref b10), .val (.int j), .val (.int (if ¬ ((p5 &&& (1 : Int32)) = (0 : Int32)) then (1 : Int32) else (0 : Int32))), .val (.int (if ¬ ((p5 &&& (2 : Int32)) = (0 : Int32)) then (1 : Int32) else (0 : Int32))), .val (.double (if j = (0 : Int32) then u0 else (if j = (1 : Int32) then u1 else u2))), .second, .val (.ref b42), .val (.double (if (if ¬ ((p5 &&& (2 : Int32)) = (0 : Int32)) then (1 : Int32) else (0 : Int32)) = (0 : Int32) then FP.dconst1 else (oupd (oupd (oupd (fun _ => (0 : UInt64)) 0 u0) 1 u1) 2 u2) i)), .second, .val (.double (if ¬ ((p5 &&& (2 : Int32)) = (0 : Int32)) then (if j = (0 : Int32) then u0 else (if j = (1 : Int32) then u1 else u2)) else FP.dconst1)), .second, .val (.ref b68), .val (.double (if (1 : Int32) = (0 : Int32) then FP.dconst1 else (oupd (oupd (oupd (fun _ => (0 : UInt64)) 0 u0) 1 u1) 2 u2) i)), .second] [(.int (1 : Int32))])
  exact wRet P79 (t := .boolean) hret (narrow_01 (Or.inr rfl)) (Or.inl ⟨rfl, Or.inr (Or.inl rfl), _, rfl⟩) (hb hby at_179) rfl
set_option maxRecDepth 65536 in
set_option maxHeartbeats 4000000 in
theorem comes_1 {Post : Tables → Env → Array Value → State → Outcome → State → Prop} (hpost : ∀ tb e args s v u, (limb_1_1.after args s (.returned v) u = true ∧ limb_1_2.after args s (.returned v) u = true ∧ True) → FrameEnd s (.returned v) u (Jvm.fieldLocs frame_1_writes args s ++ Jvm.arrayLocs frame_1_arrays args s ++ Jvm.staticLocs frame_1_statics s) 16 128 → Post tb e args s (.returned v) u) :
    ArmFor flags0 classFile x code maxLocals ret World_1 tables_1 room_1 Calls_1 rest_1 Pre_1 Post := by
  intro l hfl _ _ p e ha hc hk s m args below hf hA hF happ hP
  obtain ⟨hcalls, hrest, hpre⟩ := hP
  obtain ⟨-, -, -, hnamed, -, -, -, hat⟩ := (Spec.applies_iff hf).mp happ
  obtain ⟨hg, hn⟩ := and_e (Cond.before_iff.mp (show (Jvm.Cond.and given_1 narrow_1).before args s = true from hpre))
  obtain ⟨h1, g0⟩ := and_e hg
  obtain ⟨q0, g1⟩ := and_e g0
  obtain ⟨q1, g2⟩ := and_e g1
  obtain ⟨q2, g3⟩ := and_e g2
  obtain ⟨q3, g4⟩ := and_e g3
  obtain ⟨q4, g5⟩ := and_e g4
  obtain ⟨w0, w1, w2, w3, w4, w5, rfl⟩ : ∃ w0 w1 w2 w3 w4 w5 : Value, args = #[w0, w1, w2, w3, w4, w5] := by
    have hs : args.size = 6 := by simpa [Cond.value, given_1] using h1
    obtain ⟨L⟩ := args
    match L, hs with
    | [w0, w1, w2, w3, w4, w5], _ => exact ⟨w0, w1, w2, w3, w4, w5, rfl⟩
  have hw := fun d (hd : d ∈ tables_1) => atoms_spec (ws := Jvm.Cond.code x code maxLocals ret :: tables_1) hat d (List.mem_cons_of_mem _ hd)
  have hfit : Fit s := fun {y c} hc i hi => by
    obtain ⟨ha, rfl⟩ := Array.getElem?_eq_some_iff.mp hc
    have q := List.all_eq_true.mp ((Array.all_eq_true_iff_forall_mem.mp hF) _ (Array.getElem_mem ha)) i (List.mem_range.mpr hi)
    simpa [Array.getElem?_eq_getElem hi] using q
  obtain ⟨i0, e0⟩ := is_v q0
  obtain rfl : w0 = (.int i0) := Option.some.inj e0
  obtain ⟨i1, e1⟩ := is_v q1
  obtain rfl : w1 = (.int i1) := Option.some.inj e1
  obtain ⟨i2, e2⟩ := is_v q2
  obtain rfl : w2 = (.int i2) := Option.some.inj e2
  obtain ⟨i3, e3⟩ := is_v q3
  obtain rfl : w3 = (.int i3) := Option.some.inj e3
  obtain ⟨i4, e4⟩ := is_v q4
  obtain rfl : w4 = (.int i4) := Option.some.inj e4
  obtain ⟨i5, e5⟩ := is_v g5
  obtain rfl : w5 = (.int i5) := Option.some.inj e5
  obtain ⟨n, o, h1, h2, h3, _, L, rfl, ⟨rfl, N, -⟩, hq⟩ := m_law l s _ hw  i0 i1 i2 i3 i4 i5  s.heap  p e ha hc hk s m _ below hf ((Spec.applies_iff_loose hf).mp happ).1 ⟨rfl, State.Warmed39.refl s, rfl⟩ trivial
  refine ⟨n, _, h1, h2, h3, hpost _ _ _ _ _ _ ⟨Cond.after_iff.mpr rfl, Cond.after_iff.mpr (eq_i res_at (Term.int_eval (1)) rfl), trivial⟩ ⟨hq.1, hq.2.1, (hq.2.2.sift fun y hy => Or.inr ((N y hy).resolve_left (by simp))).mono (by decide) (by decide)⟩⟩
theorem main_1_1 : Claimed_1_1 := comes_1 fun _ _ _ _ _ _ h hF => ⟨h.1, hF⟩
theorem main_1_2 : Claimed_1_2 := comes_1 fun _ _ _ _ _ _ h hF => ⟨h.2.1, hF⟩
end Jvm.Pilot.@@N@@
namespace Jvm.Pilot.@@N@@
open Jvm Jvm.ClassFile Sem Op Lib Jvm.Free Jvm.Stand Jvm.Pilot.@@N@@.Jvm.D
/-! MADE BY PROGRAM (witnessworld.py) out of the Statement's table words and the real class files: 12 classes; the members and pool entries that the words name. The judged class is class 1, her method 2. -/
namespace start1
open Jvm.ClassFile
def u (s : String) : CpInfo := .utf8 (stringToUtf16 s)
/-- a pool by its gaps: so many unusable entries, then the entry; so many at the end -/
def gap : Nat → List CpInfo → List CpInfo
  | 0, r => r
  | n + 1, r => .unusable :: gap n r
def poolList (es : List (Nat × CpInfo)) (last : Nat) : List CpInfo := es.foldr (fun e r => gap e.1 (e.2 :: r)) (gap last [])
def pool (es : List (Nat × CpInfo)) (last : Nat) : Array CpInfo := ⟨poolList es last⟩
def fileOf (pool : Array CpInfo) (this : Nat) (attrs : Array Attribute := #[]) (ms : Array MethodInfo := #[]) (fl : Nat := 33) (sup : Nat := 0) (ifs : Array Nat := #[]) (fds : Array FieldInfo := #[]) : ClassFile where
  minorVersion := 0
  majorVersion := 65
  constantPool := pool
  accessFlags := fl
  thisClass := this
  superClass := sup
  interfaces := ifs
  fields := fds
  methods := ms
  attributes := attrs
def plain (name : String) (sup : Option ClassId) : Class where
  name := name
  kind := .ordinary
  loader := none
  accessFlags := 33
  super := sup
  interfaces := #[]
  cf := none
  fields := #[]
  methods := #[]
  instanceTypes := #[]
  staticTypes := #[]
  resolved := #[]
  callSites := []
  init := .initialized
  statics := none
  mirror := none

def pool0 : Array CpInfo := pool [(5, u "<init>"), (0, u "()V"), (1, .class_ 10), (1, u "java/lang/Object")] 113

def k0c0 : Code := { maxStack := 0, maxLocals := 1, code := object_method_1_code, exceptionTable := #[], attributes := #[] }
def k0m0 : Method := { name := "<init>", desc := "()V", sig := { parameters := [], returnType := none }, accessFlags := 1, code := some k0c0 }
/-- java/lang/Object -/
def k0 : Class := { plain "java/lang/Object" none with
  accessFlags := 33
  interfaces := #[]
  cf := some (fileOf pool0 8 #[] #[{ accessFlags := 1, nameIndex := 5, descriptorIndex := 6, attributes := #[] }] 33 0 #[] #[])
  fields := #[]
  methods := #[k0m0]
  instanceTypes := #[]
  staticTypes := #[]
  resolved := Array.replicate 124 none
  statics := none }

def pool1 : Array CpInfo := pool [(2, .class_ 4), (1, u "java/lang/Object"), (0, u "<init>"), (0, u "()V"), (0, .long 2147483647), (1, .methodref 10 11), (0, .class_ 12), (0, .nameAndType 13 14), (0, u "com/example/marginfold/marginfold/perimeter/MeasureRowUnitPinLaw"), (0, u "unitOf"), (0, u "(I)D"), (0, .integer 2147483647), (0, .class_ 17), (0, u "com/example/marginfold/marginfold/perimeter/Measure"), (0, .methodref 16 19), (0, .nameAndType 5 20), (0, u "([DDZZ)V"), (0, .methodref 16 22), (0, .nameAndType 23 14), (0, u "rowUnit"), (0, .methodref 16 25), (0, .nameAndType 26 27), (0, u "withRowsInMw"), (0, u "()Lcom/example/marginfold/marginfold/perimeter/Measure;"), (2, u "law"), (0, u "(IIIIII)Z")] 5

def k1m0 : Method := { name := "<init>", desc := "()V", sig := { parameters := [], returnType := none }, accessFlags := 2, code := none }
def k1c1 : Code := { maxStack := 4, maxLocals := 1, code := method_2_code, exceptionTable := #[], attributes := #[] }
def k1m1 : Method := { name := "unitOf", desc := "(I)D", sig := { parameters := [.int], returnType := some .double }, accessFlags := 10, code := some k1c1 }
def k1c2 : Code := { maxStack := 7, maxLocals := 26, code := code, exceptionTable := #[], attributes := #[] }
def k1m2 : Method := { name := "law", desc := "(IIIIII)Z", sig := { parameters := [.int, .int, .int, .int, .int, .int], returnType := some .boolean }, accessFlags := 9, code := some k1c2 }
/-- com/example/marginfold/marginfold/perimeter/MeasureRowUnitPinLaw -/
def k1 : Class := { plain "com/example/marginfold/marginfold/perimeter/MeasureRowUnitPinLaw" (some 0) with
  accessFlags := 49
  interfaces := #[]
  cf := some (fileOf pool1 10 #[] #[{ accessFlags := 2, nameIndex := 5, descriptorIndex := 6, attributes := #[] }, { accessFlags := 10, nameIndex := 13, descriptorIndex := 14, attributes := #[] }, { accessFlags := 9, nameIndex := 30, descriptorIndex := 31, attributes := #[] }] 49 2 #[] #[])
  fields := #[]
  methods := #[k1m0, k1m1, k1m2]
  instanceTypes := #[]
  staticTypes := #[]
  resolved := Array.replicate 37 none
  statics := none }

def pool2 : Array CpInfo := pool [(1, .methodref 2 3), (0, .class_ 4), (0, .nameAndType 5 6), (0, u "java/lang/Object"), (0, u "<init>"), (0, u "()V"), (0, .class_ 8), (0, u "java/lang/Record")] 13

def k2c0 : Code := { maxStack := 1, maxLocals := 1, code := jdk_30_method_1_code, exceptionTable := #[], attributes := #[] }
def k2m0 : Method := { name := "<init>", desc := "()V", sig := { parameters := [], returnType := none }, accessFlags := 4, code := some k2c0 }
/-- java/lang/Record -/
def k2 : Class := { plain "java/lang/Record" (some 0) with
  accessFlags := 1057
  interfaces := #[]
  cf := some (fileOf pool2 7 #[] #[{ accessFlags := 4, nameIndex := 5, descriptorIndex := 6, attributes := #[] }] 1057 2 #[] #[])
  fields := #[]
  methods := #[k2m0]
  instanceTypes := #[]
  staticTypes := #[]
  resolved := Array.replicate 22 none
  statics := none }

def pool3 : Array CpInfo := pool [(1, .methodref 2 3), (0, .class_ 4), (0, .nameAndType 5 6), (0, u "java/lang/Record"), (0, u "<init>"), (0, u "()V"), (0, .fieldref 8 9), (0, .class_ 10), (0, .nameAndType 11 12), (0, u "com/example/marginfold/marginfold/perimeter/Measure"), (0, u "units"), (0, u "[D"), (0, .fieldref 8 14), (0, .nameAndType 15 16), (0, u "weight"), (0, u "D"), (0, .fieldref 8 18), (0, .nameAndType 19 20), (0, u "nonNegative"), (0, u "Z"), (0, .fieldref 8 22), (0, .nameAndType 23 20), (0, u "rowsInMw"), (18, .methodref 8 43), (0, .nameAndType 5 44), (0, u "([DDZZ)V"), (61, u "withRowsInMw"), (0, u "()Lcom/example/marginfold/marginfold/perimeter/Measure;"), (1, u "rowUnit"), (0, u "(I)D")] 29

def k3c0 : Code := { maxStack := 3, maxLocals := 6, code := prog_27_method_1_code, exceptionTable := #[], attributes := #[] }
def k3m0 : Method := { name := "<init>", desc := "([DDZZ)V", sig := { parameters := [(.array .double), .double, .boolean, .boolean], returnType := none }, accessFlags := 0, code := some k3c0 }
def k3c1 : Code := { maxStack := 7, maxLocals := 1, code := prog_27_method_4_code, exceptionTable := #[], attributes := #[] }
def k3m1 : Method := { name := "withRowsInMw", desc := "()Lcom/example/marginfold/marginfold/perimeter/Measure;", sig := { parameters := [], returnType := some (.object "com/example/marginfold/marginfold/perimeter/Measure") }, accessFlags := 0, code := some k3c1 }
def k3c2 : Code := { maxStack := 2, maxLocals := 2, code := prog_27_method_7_code, exceptionTable := #[], attributes := #[] }
def k3m2 : Method := { name := "rowUnit", desc := "(I)D", sig := { parameters := [.int], returnType := some .double }, accessFlags := 0, code := some k3c2 }
/-- com/example/marginfold/marginfold/perimeter/Measure -/
def k3 : Class := { plain "com/example/marginfold/marginfold/perimeter/Measure" (some 2) with
  accessFlags := 48
  interfaces := #[]
  cf := some (fileOf pool3 8 #[] #[{ accessFlags := 0, nameIndex := 5, descriptorIndex := 44, attributes := #[] }, { accessFlags := 0, nameIndex := 106, descriptorIndex := 107, attributes := #[] }, { accessFlags := 0, nameIndex := 109, descriptorIndex := 110, attributes := #[] }] 48 2 #[] #[{ accessFlags := 18, nameIndex := 11, descriptorIndex := 12, attributes := #[] }, { accessFlags := 18, nameIndex := 15, descriptorIndex := 16, attributes := #[] }, { accessFlags := 18, nameIndex := 19, descriptorIndex := 20, attributes := #[] }, { accessFlags := 18, nameIndex := 23, descriptorIndex := 20, attributes := #[] }])
  fields := #[{ name := "units", type := (.array .double), accessFlags := 18, slot := 0, constantValue := 0 }, { name := "weight", type := .double, accessFlags := 18, slot := 1, constantValue := 0 }, { name := "nonNegative", type := .boolean, accessFlags := 18, slot := 2, constantValue := 0 }, { name := "rowsInMw", type := .boolean, accessFlags := 18, slot := 3, constantValue := 0 }]
  methods := #[k3m0, k3m1, k3m2]
  instanceTypes := #[(.array .double), .double, .boolean, .boolean]
  staticTypes := #[]
  resolved := Array.replicate 140 none
  statics := none }

def pool4 : Array CpInfo := pool [(1, u "java/lang/Cloneable"), (0, .class_ 1), (0, u "java/lang/Object"), (0, .class_ 3)] 3

/-- java/lang/Cloneable -/
def k4 : Class := { plain "java/lang/Cloneable" (some 0) with
  accessFlags := 1537
  interfaces := #[]
  cf := some (fileOf pool4 2 #[] #[] 1537 4 #[] #[])
  fields := #[]
  methods := #[]
  instanceTypes := #[]
  staticTypes := #[]
  resolved := Array.replicate 8 none
  statics := none }

def pool5 : Array CpInfo := pool [(1, u "java/io/Serializable"), (0, .class_ 1), (0, u "java/lang/Object"), (0, .class_ 3)] 3

/-- java/io/Serializable -/
def k5 : Class := { plain "java/io/Serializable" (some 0) with
  accessFlags := 1537
  interfaces := #[]
  cf := some (fileOf pool5 2 #[] #[] 1537 4 #[] #[])
  fields := #[]
  methods := #[]
  instanceTypes := #[]
  staticTypes := #[]
  resolved := Array.replicate 8 none
  statics := none }

/-- the primitive byte -/
def k6 : Class := { plain "byte" none with kind := .primitive 'B', accessFlags := 0x411 }
/-- [B -/
def k7 : Class := { plain "[B" (some 0) with kind := .array 6 .byte, interfaces := #[4, 5], accessFlags := 1041 }

/-- the primitive double -/
def k8 : Class := { plain "double" none with kind := .primitive 'D', accessFlags := 0x411 }
/-- [D -/
def k9 : Class := { plain "[D" (some 0) with kind := .array 8 .double, interfaces := #[4, 5], accessFlags := 1041 }

/-- the primitive int -/
def k10 : Class := { plain "int" none with kind := .primitive 'I', accessFlags := 0x411 }
/-- [I -/
def k11 : Class := { plain "[I" (some 0) with kind := .array 10 .int, interfaces := #[4, 5], accessFlags := 1041 }

def heap : Heap := #[]
def classes : Array Class := #[k0, k1, k2, k3, k4, k5, k6, k7, k8, k9, k10, k11]
def interned : List (Array UInt16 × Addr) := []
def slotsUsed : Nat := 0
def theMethod : MethodId := ⟨1, 2⟩
def args0 : Array Value := #[.int 5, .int 5, .int 5, .int 5, .int 5, .int 5]
def aboutOver (below : List Frame) : State where
  vm := { classes := classes, interned := interned.toArray }
  heap := heap
  slotsUsed := slotsUsed
  threads := #[{ frames := .invoking theMethod args0 :: below }]
def below0 : List Frame := [.native { method := ⟨0, 0⟩, args := #[] }]
def about1 : State := aboutOver below0
def p0 : Program := .bare "" "" ""
def e0 : Env := launch0.env 0 0 0
theorem w_frames : about1.frames = Frame.invoking theMethod args0 :: below0 := rfl
set_option maxRecDepth 65536 in
theorem w_args : argsFit about1.vm theMethod args0 = true := by decide +kernel
set_option maxRecDepth 65536 in
theorem w_heap : heapFits about1 = true := by decide +kernel
set_option maxRecDepth 65536 in
theorem w_runnable : about1.curStatus? = some .runnable := by decide +kernel
set_option maxRecDepth 65536 in
theorem w_alone : about1.alone = true := by decide +kernel
set_option maxRecDepth 65536 in
theorem w_named : about1.methodNamed? x = some theMethod := by decide +kernel
set_option maxRecDepth 65536 in
theorem w_hears : about1.hears theMethod below0 = true := by decide +kernel
set_option maxRecDepth 65536 in
theorem w_ripe : about1.ripe theMethod args0 below0 = true := by decide +kernel
theorem w_running : about1.status = .running := rfl
set_option maxRecDepth 65536 in
theorem w_room : about1.hasRoom e0.platform room_1 = true :=
  launch0.hasRoom_least _ room_1 (by decide +kernel) (by decide +kernel) (by decide +kernel) (by decide +kernel) (by decide +kernel) (by decide +kernel)
theorem allAtoms_all (ts : List Jvm.Cond) (a : Array Jvm.Value) (st : Jvm.State) : (allAtoms ts).before a st = ts.all (fun c => c.before a st) := by
  induction ts with
  | nil => rfl
  | cons c t ih =>
    show (Jvm.Cond.and c (allAtoms t)).before a st = _
    rw [Jvm.Cond.before_and, ih, List.all_cons]
def words1 : List Jvm.Cond := Jvm.Cond.code x code maxLocals ret :: tables_1
/-- a 'code' word, met by the world's own term for the bytes: nothing is compared byte by byte -/
theorem code_word {y : MethodName} {bytes : ByteArray} {mx : Nat} {rt : Option FieldType} {a : Array Value} {s : State} {m : MethodId} {meth : Method} {c : Code} (h1 : s.methodNamed? y = some m) (h2 : s.vm.method? m = some meth) (h3 : meth.code = some c) (h4 : c.code = bytes)
    (h5 : (c.maxLocals == mx && c.exceptionTable.isEmpty && decide (c.maxStack ≤ mostOperands) && decide (meth.sig.returnType = rt) && !meth.locks && decide (parseMethodDescriptor y.desc = some meth.sig)) = true) : (Jvm.Cond.code y bytes mx rt).before a s = true := by
  simp only [Bool.and_eq_true, beq_iff_eq, Bool.not_eq_true', decide_eq_true_eq] at h5
  obtain ⟨⟨⟨⟨⟨g1, g2⟩, g3⟩, g4⟩, g5⟩, g6⟩ := h5
  simp [Cond.before, Cond.holds, Cond.value, h1, h2, h3, h4, g1, g2, g3, g4, g5, g6]
def isCode : Jvm.Cond → Bool
  | .code _ _ _ _ => true
  | _ => false
theorem all_split {L : List Jvm.Cond} {P : Jvm.Cond → Bool} (h1 : L.all (fun c => isCode c || P c) = true) (h2 : ∀ c ∈ L.filter isCode, P c = true) : L.all P = true := by
  refine List.all_eq_true.mpr fun c hc => ?_
  have h := List.all_eq_true.mp h1 c hc
  rcases Bool.eq_false_or_eq_true (isCode c) with hi | hi
  · exact h2 c (List.mem_filter.mpr ⟨hc, hi⟩)
  · simpa [hi] using h
set_option maxRecDepth 65536 in
theorem w_c0 : (Jvm.Cond.code x code maxLocals ret).before args0 about1 = true := code_word (m := ⟨1, 2⟩) (meth := k1m2) (c := k1c2) (by decide +kernel) rfl rfl rfl (by decide +kernel)
set_option maxRecDepth 65536 in
theorem w_c1 : (Jvm.Cond.code ({ cls := "com/example/marginfold/marginfold/perimeter/MeasureRowUnitPinLaw", name := "unitOf", desc := "(I)D" } : Jvm.MethodName) method_2_code (1 : Nat) (Option.some Jvm.ClassFile.FieldType.double)).before args0 about1 = true := code_word (m := ⟨1, 1⟩) (meth := k1m1) (c := k1c1) (by decide +kernel) rfl rfl rfl (by decide +kernel)
set_option maxRecDepth 65536 in
theorem w_c2 : (Jvm.Cond.code ({ cls := "com/example/marginfold/marginfold/perimeter/Measure", name := "<init>", desc := "([DDZZ)V" } : Jvm.MethodName) prog_27_method_1_code (6 : Nat) (Option.none : Option Jvm.ClassFile.FieldType)).before args0 about1 = true := code_word (m := ⟨3, 0⟩) (meth := k3m0) (c := k3c0) (by decide +kernel) rfl rfl rfl (by decide +kernel)
set_option maxRecDepth 65536 in
theorem w_c3 : (Jvm.Cond.code ({ cls := "java/lang/Record", name := "<init>", desc := "()V" } : Jvm.MethodName) jdk_30_method_1_code (1 : Nat) (Option.none : Option Jvm.ClassFile.FieldType)).before args0 about1 = true := code_word (m := ⟨2, 0⟩) (meth := k2m0) (c := k2c0) (by decide +kernel) rfl rfl rfl (by decide +kernel)
set_option maxRecDepth 65536 in
theorem w_c4 : (Jvm.Cond.code ({ cls := "java/lang/Object", name := "<init>", desc := "()V" } : Jvm.MethodName) object_method_1_code (1 : Nat) (Option.none : Option Jvm.ClassFile.FieldType)).before args0 about1 = true := code_word (m := ⟨0, 0⟩) (meth := k0m0) (c := k0c0) (by decide +kernel) rfl rfl rfl (by decide +kernel)
set_option maxRecDepth 65536 in
theorem w_c5 : (Jvm.Cond.code ({ cls := "com/example/marginfold/marginfold/perimeter/Measure", name := "rowUnit", desc := "(I)D" } : Jvm.MethodName) prog_27_method_7_code (2 : Nat) (Option.some Jvm.ClassFile.FieldType.double)).before args0 about1 = true := code_word (m := ⟨3, 2⟩) (meth := k3m2) (c := k3c2) (by decide +kernel) rfl rfl rfl (by decide +kernel)
set_option maxRecDepth 65536 in
theorem w_c6 : (Jvm.Cond.code ({ cls := "com/example/marginfold/marginfold/perimeter/Measure", name := "withRowsInMw", desc := "()Lcom/example/marginfold/marginfold/perimeter/Measure;" } : Jvm.MethodName) prog_27_method_4_code (1 : Nat) (Option.some (Jvm.ClassFile.FieldType.object "com/example/marginfold/marginfold/perimeter/Measure"))).before args0 about1 = true := code_word (m := ⟨3, 1⟩) (meth := k3m1) (c := k3c1) (by decide +kernel) rfl rfl rfl (by decide +kernel)
def codes1 : List Jvm.Cond := [Jvm.Cond.code x code maxLocals ret, Jvm.Cond.code ({ cls := "com/example/marginfold/marginfold/perimeter/MeasureRowUnitPinLaw", name := "unitOf", desc := "(I)D" } : Jvm.MethodName) method_2_code (1 : Nat) (Option.some Jvm.ClassFile.FieldType.double), Jvm.Cond.code ({ cls := "com/example/marginfold/marginfold/perimeter/Measure", name := "<init>", desc := "([DDZZ)V" } : Jvm.MethodName) prog_27_method_1_code (6 : Nat) (Option.none : Option Jvm.ClassFile.FieldType), Jvm.Cond.code ({ cls := "java/lang/Record", name := "<init>", desc := "()V" } : Jvm.MethodName) jdk_30_method_1_code (1 : Nat) (Option.none : Option Jvm.ClassFile.FieldType), Jvm.Cond.code ({ cls := "java/lang/Object", name := "<init>", desc := "()V" } : Jvm.MethodName) object_method_1_code (1 : Nat) (Option.none : Option Jvm.ClassFile.FieldType), Jvm.Cond.code ({ cls := "com/example/marginfold/marginfold/perimeter/Measure", name := "rowUnit", desc := "(I)D" } : Jvm.MethodName) prog_27_method_7_code (2 : Nat) (Option.some Jvm.ClassFile.FieldType.double), Jvm.Cond.code ({ cls := "com/example/marginfold/marginfold/perimeter/Measure", name := "withRowsInMw", desc := "()Lcom/example/marginfold/marginfold/perimeter/Measure;" } : Jvm.MethodName) prog_27_method_4_code (1 : Nat) (Option.some (Jvm.ClassFile.FieldType.object "com/example/marginfold/marginfold/perimeter/Measure"))]
set_option maxRecDepth 65536 in
theorem codes_eq : words1.filter isCode = codes1 := rfl
theorem w_codes : ∀ c ∈ words1.filter isCode, c.before args0 about1 = true := by
  rw [codes_eq]
  intro c hc
  simp only [codes1, List.mem_cons, List.not_mem_nil, or_false] at hc
  rcases hc with rfl | rfl | rfl | rfl | rfl | rfl | rfl
  · exact w_c0
  · exact w_c1
  · exact w_c2
  · exact w_c3
  · exact w_c4
  · exact w_c5
  · exact w_c6
set_option maxRecDepth 65536 in
theorem w_t1 : (words1.take 24).all (fun c => isCode c || c.before args0 about1) = true := by decide +kernel
set_option maxRecDepth 65536 in
theorem w_t2 : (words1.drop 24).all (fun c => isCode c || c.before args0 about1) = true := by decide +kernel
theorem w_tables : (allAtoms (Jvm.Cond.code x code maxLocals ret :: tables_1)).before args0 about1 = true := by
  rw [allAtoms_all]
  show words1.all (fun c => c.before args0 about1) = true
  refine all_split ?_ w_codes
  rw [← List.take_append_drop 24 words1, List.all_append, w_t1, w_t2]
  rfl
set_option maxRecDepth 65536 in
theorem w_case : (Jvm.Cond.and given_1 narrow_1).before args0 about1 = true := by decide +kernel
theorem w_applies : (headSpec (Jvm.Cond.code x code maxLocals ret :: tables_1) room_1).applies x e0.platform about1 = true :=
  (Spec.applies_iff w_frames).mpr ⟨w_running, w_runnable, w_alone, w_named, w_hears, w_ripe, w_room, w_tables⟩
theorem atStart : AtStart classFile x code maxLocals ret World_1 tables_1 room_1 Calls_1 rest_1 Pre_1 launch0 p0 e0 about1 theMethod args0 below0 :=
  ⟨lists_1, trivial, launch0.admits_env _ _ _, launch0.least_env, fairChoices_fair.cas, fairChoices_fair.clock, w_frames, w_args, w_heap, w_applies, trivial, trivial, w_case⟩
end start1
theorem witness_1 : WitnessClaimed_1 := ⟨start1.p0, start1.e0, start1.about1, start1.theMethod, start1.args0, start1.below0, start1.atStart⟩
end Jvm.Pilot.@@N@@
