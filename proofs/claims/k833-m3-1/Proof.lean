import JvmDerived
import JvmDerived.Pilot.@@N@@Statement
import JvmDerived.Pilot.@@N@@Code
set_option linter.unusedVariables false
set_option linter.unusedSimpArgs false
namespace Jvm.OwnW
open Sem ClassFile Op Lib Jvm.Stand Jvm.Free Jvm.LawKit Jvm.RoadKit
theorem adr_ne {a b : Nat} (h : a < b ∨ b < a) : @Ne Addr a b := fun z => by
  have z : @Eq Nat a b := z
  omega
/-- what was written lies in one of 'ws' or is new -/
def Fw (ws : List Addr) (N : Nat) (L : List Loc) : Prop := ∀ y ∈ L, y.base ∈ ws ∨ N ≤ y.base
theorem Fw.nil (ws : List Addr) (N : Nat) : Fw ws N [] := fun _ q => nomatch q
theorem Fw.app {ws : List Addr} {N : Nat} {L L' : List Loc} (A : Fw ws N L) (B : Fw ws N L') : Fw ws N (L ++ L') := fun y q => (List.mem_append.mp q).elim (A y) (B y)
theorem Fw.snoc {ws : List Addr} {N : Nat} {L : List Loc} {a : Addr} {sl : Nat} (A : Fw ws N L) (q : a ∈ ws ∨ N ≤ a) : Fw ws N (L ++ [⟨a, sl⟩]) := A.app fun y hy => by cases List.mem_singleton.mp hy; exact q
/-- where a walk stands: what was written is new, the heap, the figures within the room -/
def Pos (p : Program) (l : Launch) (e : Env) (R : Room) (s : State) (m : MethodId) (args : Array Value) (below : List Frame) (meth : Method) (c : Code) (Z : State) (own : String) (ws : List Addr) (bd : Nat) (T : State) (h : Heap) (k n : Nat) : Prop :=
  (∃ locs, Stand p l e R s m args below meth c T locs k n ∧ Fw ws bd locs) ∧ T.heap = h ∧ bd ≤ h.size ∧ Z.Warmed39 s.vm ∧ p.tables.exec = Jvm.exec ∧ s.vm.findClass own = some m.cls ∧ meth.locks = false ∧ k ≤ R.cells ∧ n ≤ R.slots
/-- the walk that stands at the frame g in T comes to its return, and Q holds of what it returns and of the heap it leaves -/
def Done (p : Program) (l : Launch) (e : Env) (R : Room) (s : State) (m : MethodId) (args : Array Value) (below : List Frame) (meth : Method) (c : Code) (Z : State) (own : String) (ws : List Addr) (bd : Nat) (Q : Option Value → Heap → Prop) (T : State) (g : JFrame) : Prop :=
  ∃ v T' h' k n, Pos p l e R s m args below meth c Z own ws bd T' h' k n ∧ (meth.sig.returnType = none → v = none) ∧ Q v h' ∧
    ∀ fs, (∀ (f : JFrame) (acts : List Action), f.method = m → f.locked = none → f.entered = [] → (doReturn e (T'.setTop f) acts v).1 = T'.setFrames fs) → Steps p.tables e below (T.setTop g) (T'.setFrames fs)
/-- a method's contract, asked at one heap and one row of arguments; it writes what lies in 'ws' and what it makes, alone -/
def OMet (l : Launch) (y : MethodName) (bytes : ByteArray) (maxL : Nat) (ret : Option FieldType) (wd : List Cond) (rm : Room) (Z : State) (h : Heap) (ws : List Addr) (as' : Array Value) (Q : Option Value → Heap → Prop) : Prop :=
  MetFree l y (head1 (Cond.code y bytes maxL ret :: wd) rm) (fun a U => a = as' ∧ Z.Warmed39 U.vm ∧ U.heap = h) (fun _ _ _ _ _ => True) (fun _ U o U' => ∃ v L, o = .returned v ∧ (Q v U'.heap ∧ Fw ws h.size L ∧ Keep h U'.heap ws) ∧ FrameEnd U o U' L rm.cells rm.slots)
section A
variable {p : Program} {l : Launch} {e : Env} {R : Room} {s : State} {m : MethodId} {args : Array Value} {below : List Frame} {meth : Method} {c : Code} {Z : State} {own : String} {ws : List Addr} {bd : Nat} {T : State} {h h' : Heap} {k n : Nat} {a0 : Array Value} {Q : Option Value → Heap → Prop} {pc pc' : Nat} {Ls : Array Slot} {st : List Value} {T₁ : State} {g₁ : JFrame}
theorem Pos.here (P : Pos p l e R s m args below meth c Z own ws bd T h k n) : At T m c below := by obtain ⟨⟨_, X, _⟩, _⟩ := P; exact X.here
theorem Pos.x (P : Pos p l e R s m args below meth c Z own ws bd T h k n) : p.tables.exec = Jvm.exec := P.2.2.2.2.1
theorem Pos.ge (P : Pos p l e R s m args below meth c Z own ws bd T h k n) : bd ≤ h.size := P.2.2.1
theorem Pos.wa (P : Pos p l e R s m args below meth c Z own ws bd T h k n) : Z.Warmed39 s.vm := P.2.2.2.1
theorem Pos.more (P : Pos p l e R s m args below meth c Z own ws bd T h k n) {k' n' : Nat} (hk : k ≤ k') (hn : n ≤ n') (hk' : k' ≤ R.cells) (hn' : n' ≤ R.slots) : Pos p l e R s m args below meth c Z own ws bd T h k' n' := by
  obtain ⟨⟨L, X, N'⟩, a, b, c, d, f, g, _, _⟩ := P
  exact ⟨⟨L, X.more hk hn, N'⟩, a, b, c, d, f, g, hk', hn'⟩
theorem Pos.cast {k' n' : Nat} (P : Pos p l e R s m args below meth c Z own ws bd T h k n) (hk : k = k') (hn : n = n') : Pos p l e R s m args below meth c Z own ws bd T h k' n' := by subst hk hn; exact P
theorem Done.step {T' : State} {g g' : JFrame} (hs : ∀ t, Steps p.tables e below (T'.setTop g') t → Steps p.tables e below (T.setTop g) t) (D : Done p l e R s m args below meth c Z own ws bd Q T' g') : Done p l e R s m args below meth c Z own ws bd Q T g := by
  obtain ⟨v, T1, h1, k1, n1, P, hv, hq, st⟩ := D
  exact ⟨v, T1, h1, k1, n1, P, hv, hq, fun fs hl => hs _ (st fs hl)⟩
theorem Done.imp {Q' : Option Value → Heap → Prop} {g : JFrame} (D : Done p l e R s m args below meth c Z own ws bd Q T g) (q : ∀ v h, Q v h → Q' v h) : Done p l e R s m args below meth c Z own ws bd Q' T g := by
  obtain ⟨v, T1, h1, k1, n1, P, hv, hq, st⟩ := D
  exact ⟨v, T1, h1, k1, n1, P, hv, q _ _ hq, st⟩
theorem keepOf {u : State} {L : List Loc} (q : s.sameButNew u L k n) (F : Fw ws s.heap.size L) : Keep s.heap u.heap ws := by
  obtain ⟨-, h1, -, -, -, H⟩ := q
  refine ⟨h1, fun x cl hx hn => ?_, fun x cl hx => ?_⟩
  · obtain ⟨c', e1, e2, e3, e4⟩ := H x cl hx
    have hlt := (Array.getElem?_eq_some_iff.mp hx).1
    have es : c'.slots = cl.slots := by
      apply Array.ext_getElem?
      intro i
      exact e4 i fun hm => (F _ hm).elim (fun z => hn z) (fun z => absurd z (Nat.not_le.mpr hlt))
    rw [e1, e2, es]
  · obtain ⟨c', e1, e2, e3, e4⟩ := H x cl hx
    exact ⟨c', e1, by rw [e2], by rw [e2], e3⟩
/-- a contract out of a walk -/
theorem OMet.of {y : MethodName} {bytes : ByteArray} {maxL : Nat} {ret : Option FieldType} {wd : List Cond} {rm : Room} {as' : Array Value} {nm : String} (hy : plainFor y = true) (hyc : y.cls = own) (hyn : y.name = nm)
    (H : ∀ p e s m below meth c s₁, Pos p l e rm s m as' below meth c Z own ws h.size s₁ h 0 0 → c.code = bytes → c.maxLocals = maxL → meth.sig.returnType = ret → meth.name = nm → Done p l e rm s m as' below meth c Z own ws h.size Q s₁ (entryFrame m as' maxL)) :
    OMet l y bytes maxL ret wd rm Z h ws as' Q := by
  subst hyc hyn
  refine MetFree.of_bodySF hy hisR ?_
  intro p e s m args below meth c s₁ Bd hml hP hK
  obtain ⟨rfl, hZ, hh⟩ := hP
  have hown : s.vm.findClass y.cls = some m.cls := findClass_of_methodNamed Bd.named
  have hnm := (name_of_methodNamed Bd.named Bd.method).1
  have X0 : Stand p l e rm s m args below meth c s₁ [] 0 0 := Stand.of_body Bd
  have e0 : s₁.heap = h := by rw [← hh, Bd.state]; rfl
  obtain ⟨v, T', h', k, n, ⟨⟨L, X, N⟩, eT, _, _, _, _, hlk, hk, hnn⟩, hv, hq, st⟩ := H p e s m below meth c s₁ ⟨⟨[], X0, Fw.nil _ _⟩, e0, Nat.le_refl _, hZ, Bd.exec, hown, Bd.notSynchronized, Nat.zero_le _, Nat.zero_le _⟩ Bd.bytes hml Bd.returns hnm
  obtain ⟨fs, hr, hrun, hended, hW, hsame⟩ := X.leave (v := v) hv hlk
  refine ⟨_, _, st fs hr, hrun, hended, v, L, rfl, ⟨?_, N, ?_⟩, ⟨_, rfl⟩, hW, hsame.mono hk hnn⟩
  · rw [show (T'.setFrames fs).heap = T'.heap from rfl, eT]
    exact hq
  · subst hh
    have q := keepOf hsame N
    exact q
/-! returns -/
theorem wRet {w : Value} {t : FieldType} {i : Instr} (P : Pos p l e R s m args below meth c Z own ws bd T h k n) (hret : meth.sig.returnType = some t) (hn : narrow t w = w)
    (hi : (i = .ireturn ∧ (t = .int ∨ t = .boolean ∨ t = .byte ∨ t = .char ∨ t = .short) ∧ ∃ z, w = .int z) ∨ (i = .lreturn ∧ t = .long ∧ ∃ z, w = .long z) ∨ (i = .dreturn ∧ t = .double ∧ ∃ z, w = .double z) ∨ (i = .freturn ∧ t = .float ∧ ∃ z, w = .float z) ∨ (i = .areturn ∧ t.isReference = true ∧ w.isRef = true))
    (hd : decode c.code pc = .ok (i, 1)) (hq : Q (some w) h) : Done p l e R s m args below meth c Z own ws bd Q T (mkF m pc Ls (w :: st)) := by
  obtain ⟨⟨L, X, N'⟩, r⟩ := id P
  exact ⟨some w, T, h, k, n, P, (fun q => by rw [hret] at q; cases q), hq, fun fs hl => retOut X P.x hret hn hi hd hl⟩
theorem wRetI {z : Int32} (P : Pos p l e R s m args below meth c Z own ws bd T h k n) (hret : meth.sig.returnType = some .int) (hd : decode c.code pc = .ok (.ireturn, 1)) (hq : Q (some (.int z)) h) : Done p l e R s m args below meth c Z own ws bd Q T (mkF m pc Ls (.int z :: st)) :=
  wRet P hret rfl (Or.inl ⟨rfl, Or.inl rfl, z, rfl⟩) hd hq
theorem wRetJ {z : Int64} (P : Pos p l e R s m args below meth c Z own ws bd T h k n) (hret : meth.sig.returnType = some .long) (hd : decode c.code pc = .ok (.lreturn, 1)) (hq : Q (some (.long z)) h) : Done p l e R s m args below meth c Z own ws bd Q T (mkF m pc Ls (.long z :: st)) :=
  wRet P hret rfl (Or.inr (Or.inl ⟨rfl, rfl, z, rfl⟩)) hd hq
theorem wRetD {z : UInt64} (P : Pos p l e R s m args below meth c Z own ws bd T h k n) (hret : meth.sig.returnType = some .double) (hd : decode c.code pc = .ok (.dreturn, 1)) (hq : Q (some (.double z)) h) : Done p l e R s m args below meth c Z own ws bd Q T (mkF m pc Ls (.double z :: st)) :=
  wRet P hret rfl (Or.inr (Or.inr (Or.inl ⟨rfl, rfl, z, rfl⟩))) hd hq
theorem wRetA {w : Value} {t : FieldType} (P : Pos p l e R s m args below meth c Z own ws bd T h k n) (hret : meth.sig.returnType = some t) (ht : t.isReference = true) (hw : w.isRef = true) (hd : decode c.code pc = .ok (.areturn, 1)) (hq : Q (some w) h) : Done p l e R s m args below meth c Z own ws bd Q T (mkF m pc Ls (w :: st)) :=
  wRet P hret (by cases w <;> first | rfl | (simp [Value.isRef] at hw; done) | (cases t <;> first | rfl | (simp [FieldType.isReference] at ht))) (Or.inr (Or.inr (Or.inr (Or.inr ⟨rfl, ht, hw⟩)))) hd hq
theorem wRetN {z : Int32} {t : FieldType} (P : Pos p l e R s m args below meth c Z own ws bd T h k n) (hret : meth.sig.returnType = some t) (ht : t = .boolean ∨ t = .byte ∨ t = .char ∨ t = .short) (hd : decode c.code pc = .ok (.ireturn, 1)) (hq : Q (some (.int (nar t z))) h) : Done p l e R s m args below meth c Z own ws bd Q T (mkF m pc Ls (.int z :: st)) := by
  obtain ⟨⟨L, X, N'⟩, r⟩ := id P
  exact ⟨_, T, h, k, n, P, (fun q => by rw [hret] at q; cases q), hq, fun fs hl => retN X P.x hret ht hd hl⟩
theorem wRetV (P : Pos p l e R s m args below meth c Z own ws bd T h k n) (hret : meth.sig.returnType = none) (hd : decode c.code pc = .ok (.return_, 1)) (hq : Q none h) : Done p l e R s m args below meth c Z own ws bd Q T (mkF m pc Ls []) := by
  obtain ⟨⟨L, X, N'⟩, r⟩ := id P
  exact ⟨none, T, h, k, n, P, fun _ => rfl, hq, fun fs hl => X.returnOut P.x hret hd hl⟩
/-! fields -/
theorem wGet {R0 O nm d host : String} {index : Nat} {a : Addr} {v : Value} (P : Pos p l e R s m args below meth c Z own ws bd T h k n) (w : (Cond.fieldLink own index R0 nm d).before a0 Z = true ∨ (Cond.fieldLinkNest own index R0 nm d host).before a0 Z = true) (via : Via Z R0 O nm d) (F : Fld Z h a O nm d v)
    (hd : decode c.code pc = .ok (.getfield index, 3)) (hp : pc + 3 = pc') (K : ∀ T', Pos p l e R s m args below meth c Z own ws bd T' h k n → Done p l e R s m args below meth c Z own ws bd Q T' (mkF m pc' Ls (v :: st))) : Done p l e R s m args below meth c Z own ws bd Q T (mkF m pc Ls (.ref a :: st)) := by
  obtain ⟨⟨L, X, N'⟩, eT, b, hZ, hx, ho, r⟩ := id P
  obtain ⟨T', X', e', stp⟩ := getF X hx hZ ho w via eT F (g := mkF m pc Ls (.ref a :: st)) rfl rfl hd
  subst hp
  exact Done.step stp (K T' ⟨⟨L, X', N'⟩, e', b, hZ, hx, ho, r⟩)
theorem wGetS {R0 O nm d host : String} {index : Nat} {v : Value} (P : Pos p l e R s m args below meth c Z own ws bd T h k n) (w : (Cond.fieldLink own index R0 nm d).before a0 Z = true ∨ (Cond.fieldLinkNest own index R0 nm d host).before a0 Z = true) (via : Via Z R0 O nm d) (F : Sta Z h O nm d v)
    (hd : decode c.code pc = .ok (.getstatic index, 3)) (hp : pc + 3 = pc') (K : ∀ T', Pos p l e R s m args below meth c Z own ws bd T' h k n → Done p l e R s m args below meth c Z own ws bd Q T' (mkF m pc' Ls (v :: st))) : Done p l e R s m args below meth c Z own ws bd Q T (mkF m pc Ls st) := by
  obtain ⟨⟨L, X, N'⟩, eT, b, hZ, hx, ho, r⟩ := id P
  obtain ⟨T', X', e', stp⟩ := getS2 X hx hZ ho w via eT F (g := mkF m pc Ls st) rfl hd
  subst hp
  exact Done.step stp (K T' ⟨⟨L, X', N'⟩, e', b, hZ, hx, ho, r⟩)
theorem wPut {R0 O nm d host C : String} {index kk : Nat} {ty : FieldType} {a : Addr} {v old : Value} (P : Pos p l e R s m args below meth c Z own ws bd T h k n) (w : (Cond.fieldLink own index R0 nm d).before a0 Z = true ∨ (Cond.fieldLinkNest own index R0 nm d host).before a0 Z = true) (via : Via Z R0 O nm d) (F : Fld Z h a O nm d old) (E : Exa Z h a C)
    (La : (Cond.lays C O nm d).before a0 Z = true ∨ ((Cond.laysFinal C O nm d).before a0 Z = true ∧ own = O ∧ meth.name = "<init>")) (wi : (Cond.instantiable C kk).before a0 Z = true) (hty : parseFieldDescriptor d = some ty) (hn : narrow ty v = v) (hf : fits ty v = true) (hge : a ∈ ws ∨ bd ≤ a)
    (hd : decode c.code pc = .ok (.putfield index, 3)) (hp : pc + 3 = pc') (K : ∀ T' h', Pos p l e R s m args below meth c Z own ws bd T' h' k n → Wr h h' a (Jvm.RoadKit.slotOf Z O nm d) v → Fld Z h' a O nm d v → Done p l e R s m args below meth c Z own ws bd Q T' (mkF m pc' Ls st)) : Done p l e R s m args below meth c Z own ws bd Q T (mkF m pc Ls (v :: .ref a :: st)) := by
  obtain ⟨⟨L, X, N'⟩, eT, b, hZ, hx, ho, r⟩ := id P
  obtain ⟨T', h', X', e', W, stp⟩ := putF X hx hZ ho w via eT F E La wi hty hn hf (g := mkF m pc Ls (v :: .ref a :: st)) rfl rfl hd
  subst hp
  exact Done.step stp (K T' h' ⟨⟨_, X', Fw.snoc N' hge⟩, e', by rw [W.size]; exact b, hZ, hx, ho, r⟩ W (F.same W))
theorem wPutN {R0 O nm d C : String} {index kk : Nat} {ty : FieldType} {a : Addr} {x x' : Int32} {old : Value} (P : Pos p l e R s m args below meth c Z own ws bd T h k n) (w : (Cond.fieldLink own index R0 nm d).before a0 Z = true) (via : Via Z R0 O nm d) (F : Fld Z h a O nm d old) (E : Exa Z h a C)
    (La : (Cond.lays C O nm d).before a0 Z = true ∨ ((Cond.laysFinal C O nm d).before a0 Z = true ∧ own = O ∧ meth.name = "<init>")) (wi : (Cond.instantiable C kk).before a0 Z = true) (hty : parseFieldDescriptor d = some ty) (hn : narrow ty (.int x) = .int x') (hf : fits ty (.int x') = true) (hge : a ∈ ws ∨ bd ≤ a)
    (hd : decode c.code pc = .ok (.putfield index, 3)) (hp : pc + 3 = pc') (K : ∀ T' h', Pos p l e R s m args below meth c Z own ws bd T' h' k n → Wr h h' a (Jvm.RoadKit.slotOf Z O nm d) (.int x') → Fld Z h' a O nm d (.int x') → Done p l e R s m args below meth c Z own ws bd Q T' (mkF m pc' Ls st)) : Done p l e R s m args below meth c Z own ws bd Q T (mkF m pc Ls (.int x :: .ref a :: st)) := by
  obtain ⟨⟨L, X, N'⟩, eT, b, hZ, hx, ho, r⟩ := id P
  obtain ⟨T', h', X', e', W, stp⟩ := putFN X hx hZ ho w via eT F E La wi (v' := .int x') hty hn hf (g := mkF m pc Ls (.int x :: .ref a :: st)) rfl rfl hd
  subst hp
  exact Done.step stp (K T' h' ⟨⟨_, X', Fw.snoc N' hge⟩, e', by rw [W.size]; exact b, hZ, hx, ho, r⟩ W (F.same W))
/-! objects and arrays -/
theorem wNew {C : String} {index nn : Nat} (P : Pos p l e R s m args below meth c Z own ws bd T h k n) (w : (Cond.classLink own index C).before a0 Z = true) (wi : (Cond.instantiable C nn).before a0 Z = true) (wz : (Cond.initialized C).before a0 Z = true)
    (hd : decode c.code pc = .ok (.new index, 3)) (hp : pc + 3 = pc') (hc : k + 1 ≤ R.cells) (hl : n + nn ≤ R.slots) {k' n' : Nat} (hk' : k + 1 = k') (hn' : n + nn = n')
    (K : ∀ T' h' a, a = h.size → h.size < h'.size → Pos p l e R s m args below meth c Z own ws bd T' h' k' n' → Ext h h' → Exa Z h' a C → (∀ {O nm d : String} {ty : FieldType}, Laid Z a0 C O nm d → parseFieldDescriptor d = some ty → Fld Z h' a O nm d (defaultValue ty)) → Done p l e R s m args below meth c Z own ws bd Q T' (mkF m pc' Ls (.ref a :: st))) : Done p l e R s m args below meth c Z own ws bd Q T (mkF m pc Ls st) := by
  obtain ⟨⟨L, X, N'⟩, eT, b, hZ, hx, ho, hlk, _, _⟩ := id P
  obtain ⟨T', h', X', e', E, A, D, -, stp⟩ := newO X hx hZ ho w wi wz eT (g := mkF m pc Ls st) rfl hd hc hl
  subst hp hk' hn'
  exact Done.step stp (K T' h' h.size rfl A.lt ⟨⟨L, X', N'⟩, e', Nat.le_trans b E.1, hZ, hx, ho, hlk, hc, hl⟩ E A D)
/-- an array by its places' values -/
def Ar (Z : State) (h : Heap) (a : Addr) (ty : FieldType) (n : Nat) (f : Nat → Value) : Prop := ∃ cl : Cell, Arr Z h a cl ty ∧ cl.slots.size = n ∧ n < 2147483648 ∧ ∀ i, i < n → cl.slots[i]? = some (f i)
def oupd {α : Type} (f : Nat → α) (i : Nat) (v : α) : Nat → α := fun j => if j = i then v else f j
theorem oupd_same {α : Type} (f : Nat → α) (i : Nat) (v : α) : oupd f i v i = v := if_pos rfl
theorem oupd_ne {α : Type} {f : Nat → α} {i j : Nat} {v : α} (q : j ≠ i) : oupd f i v j = f j := if_neg q
theorem Ar.lt {a : Addr} {ty : FieldType} {N : Nat} {f : Nat → Value} (A : Ar Z h a ty N f) : a < h.size := by obtain ⟨c, A, -⟩ := A; exact A.lt
theorem Ar.ext {a : Addr} {ty : FieldType} {N : Nat} {f : Nat → Value} (A : Ar Z h a ty N f) (E : Ext h h') : Ar Z h' a ty N f := by obtain ⟨c, A, r⟩ := A; exact ⟨c, A.ext E, r⟩
theorem Ar.other {a b : Addr} {sl : Nat} {v : Value} {ty : FieldType} {N : Nat} {f : Nat → Value} (A : Ar Z h b ty N f) (W : Wr h h' a sl v) (q : b ≠ a) : Ar Z h' b ty N f := by obtain ⟨c, A, r⟩ := A; exact ⟨c, A.other W q, r⟩
theorem Ar.keep {a : Addr} {ws : List Addr} {ty : FieldType} {N : Nat} {f : Nat → Value} (A : Ar Z h a ty N f) (K : Keep h h' ws) (q : a ∉ ws) : Ar Z h' a ty N f := by obtain ⟨c, A, r⟩ := A; exact ⟨c, ⟨K.2.1 a c A.1 q, A.2⟩, r⟩
theorem Ar.len {a : Addr} {ty : FieldType} {N : Nat} {f : Nat → Value} (A : Ar Z h a ty N f) : N < 2147483648 := by obtain ⟨c, A, r1, r2, -⟩ := A; exact r2
theorem Ar.congr {a : Addr} {ty : FieldType} {N : Nat} {f g : Nat → Value} (A : Ar Z h a ty N f) (q : ∀ i, i < N → f i = g i) : Ar Z h a ty N g := by obtain ⟨c, A, r1, r2, r3⟩ := A; exact ⟨c, A, r1, r2, fun i hi => by rw [← q i hi]; exact r3 i hi⟩
theorem in_of {cl : Cell} {N i : Nat} {j : Int32} (S : cl.slots.size = N) (hj : j.toInt = (i : Int)) (hi : i < N) : ¬ (j < 0 ∨ cl.slots.size ≤ j.toNatClampNeg) ∧ j.toNatClampNeg = i := by
  have e : j.toNatClampNeg = i := by rw [Int32.toNatClampNeg, hj]; omega
  refine ⟨?_, e⟩
  rw [S, e, Int32.lt_iff_toInt_lt, hj, show (0 : Int32).toInt = 0 from rfl]
  omega
theorem toI32 {N : Nat} (h : N < 2147483648) : (N.toInt32).toInt = (N : Int) := by
  rw [show N.toInt32 = Int32.ofNat N from rfl, Int32.toInt_ofNat_of_lt (by omega)]
theorem wNewA {aty : ArrayType} {z : Int32} {N cap : Nat} (P : Pos p l e R s m args below meth c Z own ws bd T h k n) (w : (Cond.arrayClass (newarray.typeOf aty)).before a0 Z = true) (hd : decode c.code pc = .ok (.newarray aty, 2)) (hp : pc + 2 = pc') (hz : z.toInt = (N : Int)) (hcap : N ≤ cap) (hb : cap * 8 ≤ 536870912) (hc : k + 1 ≤ R.cells) (hl : n + cap ≤ R.slots)
    {ad : String} (had : "[" ++ (newarray.typeOf aty).toString = ad) {ty : FieldType} {dv : Value} (hty : newarray.typeOf aty = ty) (hdv : defaultValue ty = dv) {k' n' : Nat} (hk' : k + 1 = k') (hn' : n + cap = n')
    (K : ∀ T' h' a, a = h.size → h.size < h'.size → Pos p l e R s m args below meth c Z own ws bd T' h' k' n' → Ext h h' → Ar Z h' a ty N (fun _ => dv) → Exa Z h' a ad → Done p l e R s m args below meth c Z own ws bd Q T' (mkF m pc' Ls (.ref a :: st))) : Done p l e R s m args below meth c Z own ws bd Q T (mkF m pc Ls (.int z :: st)) := by
  obtain ⟨⟨L, X, N'⟩, eT, b, hZ, hx, ho, hlk, _, _⟩ := id P
  have hz0 : ¬ z < 0 := by rw [Int32.lt_iff_toInt_lt, hz, show (0 : Int32).toInt = 0 from rfl]; omega
  have hzn : z.toNatClampNeg = N := by rw [Int32.toNatClampNeg, hz]; omega
  have hN := z.toInt_lt
  obtain ⟨T', h', kA, X', e', E, A, Ex, stp⟩ := newPE X hx hZ w eT (g := mkF m pc Ls (.int z :: st)) rfl hd rfl hz0 (by rw [hzn]; exact hcap) hb hc hl had
  subst hp hk' hn' hty hdv
  refine Done.step stp (K T' h' h.size rfl A.lt ⟨⟨L, X', N'⟩, e', Nat.le_trans b E.1, hZ, hx, ho, hlk, hc, hl⟩ E ⟨_, A, by rw [sz_new, hzn], by omega, fun i hi => ?_⟩ Ex)
  simp [newA, hzn, hi]
theorem wLen {ty : FieldType} {N : Nat} {f : Nat → Value} {a : Addr} (P : Pos p l e R s m args below meth c Z own ws bd T h k n) (A : Ar Z h a ty N f) {z : Int32} (hz : z.toInt = (N : Int)) (hd : decode c.code pc = .ok (.arraylength, 1)) (hp : pc + 1 = pc')
    (K : Done p l e R s m args below meth c Z own ws bd Q T (mkF m pc' Ls (.int z :: st))) : Done p l e R s m args below meth c Z own ws bd Q T (mkF m pc Ls (.ref a :: st)) := by
  obtain ⟨⟨L, X, N'⟩, eT, b, hZ, hx, ho, hlk, _, _⟩ := id P
  obtain ⟨cl, Ar, S, hN, H⟩ := A
  subst hp
  refine Done.step (fun t kk => X.arraylength hx (by rw [eT]; exact Ar.1) (State.isArrayOf_alike hZ.alike Ar.2.1) (g := mkF m pc Ls (.ref a :: st)) rfl rfl hd t ?_) K
  rw [S, show N.toInt32 = z from Int32.toInt_inj.mp (by rw [toI32 hN, hz])]
  exact kk
theorem wDaload {N i : Nat} {f : Nat → Value} {a : Addr} {j : Int32} (P : Pos p l e R s m args below meth c Z own ws bd T h k n) (A : Ar Z h a .double N f) (hj : j.toInt = (i : Int)) (hi : i < N) {v : Value} (hv : f i = v) (hd : decode c.code pc = .ok (.daload, 1)) (hp : pc + 1 = pc')
    (K : Done p l e R s m args below meth c Z own ws bd Q T (mkF m pc' Ls (v :: st))) : Done p l e R s m args below meth c Z own ws bd Q T (mkF m pc Ls (.int j :: .ref a :: st)) := by
  obtain ⟨⟨L, X, N'⟩, eT, b, hZ, hx, ho, hlk, _, _⟩ := id P
  obtain ⟨cl, Ar, S, hN, H⟩ := A
  obtain ⟨q1, q2⟩ := in_of S hj hi
  subst hp hv
  exact Done.step (fun t kk => X.daload hx (by rw [eT]; exact Ar.1) (State.isArrayOf_alike hZ.alike Ar.2.1) Ar.2.2 q1 (by rw [q2]; exact H i hi) (g := mkF m pc Ls (.int j :: .ref a :: st)) rfl rfl hd t kk) K
theorem wIaload {N i : Nat} {f : Nat → Value} {a : Addr} {j : Int32} (P : Pos p l e R s m args below meth c Z own ws bd T h k n) (A : Ar Z h a .int N f) (hj : j.toInt = (i : Int)) (hi : i < N) {v : Value} (hv : f i = v) (hd : decode c.code pc = .ok (.iaload, 1)) (hp : pc + 1 = pc')
    (K : Done p l e R s m args below meth c Z own ws bd Q T (mkF m pc' Ls (v :: st))) : Done p l e R s m args below meth c Z own ws bd Q T (mkF m pc Ls (.int j :: .ref a :: st)) := by
  obtain ⟨⟨L, X, N'⟩, eT, b, hZ, hx, ho, hlk, _, _⟩ := id P
  obtain ⟨cl, Ar, S, hN, H⟩ := A
  obtain ⟨q1, q2⟩ := in_of S hj hi
  subst hp hv
  exact Done.step (fun t kk => X.iaload hx (by rw [eT]; exact Ar.1) (State.isArrayOf_alike hZ.alike Ar.2.1) Ar.2.2 q1 (by rw [q2]; exact H i hi) (g := mkF m pc Ls (.int j :: .ref a :: st)) rfl rfl hd t kk) K
theorem wCaload {N i : Nat} {f : Nat → Value} {a : Addr} {j : Int32} (P : Pos p l e R s m args below meth c Z own ws bd T h k n) (A : Ar Z h a .char N f) (hj : j.toInt = (i : Int)) (hi : i < N) {v : Value} (hv : f i = v) (hd : decode c.code pc = .ok (.caload, 1)) (hp : pc + 1 = pc')
    (K : Done p l e R s m args below meth c Z own ws bd Q T (mkF m pc' Ls (v :: st))) : Done p l e R s m args below meth c Z own ws bd Q T (mkF m pc Ls (.int j :: .ref a :: st)) := by
  obtain ⟨⟨L, X, N'⟩, eT, b, hZ, hx, ho, hlk, _, _⟩ := id P
  obtain ⟨cl, Ar, S, hN, H⟩ := A
  obtain ⟨q1, q2⟩ := in_of S hj hi
  subst hp hv
  exact Done.step (fun t kk => X.caload hx (by rw [eT]; exact Ar.1) (State.isArrayOf_alike hZ.alike Ar.2.1) Ar.2.2 q1 (by rw [q2]; exact H i hi) (g := mkF m pc Ls (.int j :: .ref a :: st)) rfl rfl hd t kk) K
theorem wAaload {N i : Nat} {f : Nat → Value} {a : Addr} {j : Int32} {ty : FieldType} (P : Pos p l e R s m args below meth c Z own ws bd T h k n) (A : Ar Z h a ty N f) (hty : ty.isReference = true) (hj : j.toInt = (i : Int)) (hi : i < N) {v : Value} (hv : f i = v) (hd : decode c.code pc = .ok (.aaload, 1)) (hp : pc + 1 = pc')
    (K : Done p l e R s m args below meth c Z own ws bd Q T (mkF m pc' Ls (v :: st))) : Done p l e R s m args below meth c Z own ws bd Q T (mkF m pc Ls (.int j :: .ref a :: st)) := by
  obtain ⟨⟨L, X, N'⟩, eT, b, hZ, hx, ho, hlk, _, _⟩ := id P
  obtain ⟨cl, Ar, S, hN, H⟩ := A
  obtain ⟨q1, q2⟩ := in_of S hj hi
  subst hp hv
  exact Done.step (fun t kk => X.aaload hx (by rw [eT]; exact Ar.1) (State.isArrayOf_alike hZ.alike Ar.2.1) hty Ar.2.2 q1 (by rw [q2]; exact H i hi) (g := mkF m pc Ls (.int j :: .ref a :: st)) rfl rfl hd t kk) K
theorem Ar.set {cl : Cell} {a : Addr} {ty : FieldType} {N i : Nat} {f : Nat → Value} {v : Value} (A : Arr Z h a cl ty) (S : cl.slots.size = N) (hN : N < 2147483648) (H : ∀ i, i < N → cl.slots[i]? = some (f i)) (hi : i < N) (W : Wr h h' a i v) : Ar Z h' a ty N (oupd f i v) := by
  refine ⟨cl.setSlot i v, A.same W, by rw [sz_set]; exact S, hN, fun j hj => ?_⟩
  by_cases q : j = i
  · subst q; rw [oupd_same]; exact Cell.slots_setSlot_self v (by omega)
  · rw [oupd_ne q, Cell.slots_setSlot_ne v (Ne.symm q)]; exact H j hj
theorem wDastore {N i : Nat} {f : Nat → UInt64} {a : Addr} {j : Int32} {x : UInt64} (P : Pos p l e R s m args below meth c Z own ws bd T h k n) (A : Ar Z h a .double N (fun i => .double (f i))) (hj : j.toInt = (i : Int)) (hi : i < N) (hge : a ∈ ws ∨ bd ≤ a) (hd : decode c.code pc = .ok (.dastore, 1)) (hp : pc + 1 = pc')
    (K : ∀ T' h', Pos p l e R s m args below meth c Z own ws bd T' h' k n → Wr h h' a i (.double x) → Ar Z h' a .double N (fun j => .double (oupd f i x j)) → Done p l e R s m args below meth c Z own ws bd Q T' (mkF m pc' Ls st)) : Done p l e R s m args below meth c Z own ws bd Q T (mkF m pc Ls (.double x :: .int j :: .ref a :: st)) := by
  obtain ⟨⟨L, X, N'⟩, eT, b, hZ, hx, ho, r⟩ := id P
  obtain ⟨cl, Ar', S, hN, H⟩ := A
  obtain ⟨q1, q2⟩ := in_of S hj hi
  obtain ⟨T', h', X', e', W, stp⟩ := stD X hx hZ eT Ar' q1 (g := mkF m pc Ls (.double x :: .int j :: .ref a :: st)) rfl rfl hd
  subst hp
  rw [q2] at W
  refine Done.step stp (K T' h' ⟨⟨_, X', Fw.snoc N' hge⟩, e', by rw [W.size]; exact b, hZ, hx, ho, r⟩ W ((Ar.set Ar' S hN H hi W).congr fun j _ => ?_))
  unfold oupd; split <;> rfl
theorem wIastore {N i : Nat} {f : Nat → Int32} {a : Addr} {j : Int32} {x : Int32} (P : Pos p l e R s m args below meth c Z own ws bd T h k n) (A : Ar Z h a .int N (fun i => .int (f i))) (hj : j.toInt = (i : Int)) (hi : i < N) (hge : a ∈ ws ∨ bd ≤ a) (hd : decode c.code pc = .ok (.iastore, 1)) (hp : pc + 1 = pc')
    (K : ∀ T' h', Pos p l e R s m args below meth c Z own ws bd T' h' k n → Wr h h' a i (.int x) → Ar Z h' a .int N (fun j => .int (oupd f i x j)) → Done p l e R s m args below meth c Z own ws bd Q T' (mkF m pc' Ls st)) : Done p l e R s m args below meth c Z own ws bd Q T (mkF m pc Ls (.int x :: .int j :: .ref a :: st)) := by
  obtain ⟨⟨L, X, N'⟩, eT, b, hZ, hx, ho, r⟩ := id P
  obtain ⟨cl, Ar', S, hN, H⟩ := A
  obtain ⟨q1, q2⟩ := in_of S hj hi
  obtain ⟨T', h', X', e', W, stp⟩ := stI X hx hZ eT Ar' q1 (g := mkF m pc Ls (.int x :: .int j :: .ref a :: st)) rfl rfl hd
  subst hp
  rw [q2] at W
  refine Done.step stp (K T' h' ⟨⟨_, X', Fw.snoc N' hge⟩, e', by rw [W.size]; exact b, hZ, hx, ho, r⟩ W ((Ar.set Ar' S hN H hi W).congr fun j _ => ?_))
  unfold oupd; split <;> rfl
theorem wCastore {N i : Nat} {f : Nat → Int32} {a : Addr} {j : Int32} {x : Int32} (P : Pos p l e R s m args below meth c Z own ws bd T h k n) (A : Ar Z h a .char N (fun i => .int (f i))) (hj : j.toInt = (i : Int)) (hi : i < N) (hge : a ∈ ws ∨ bd ≤ a) (hd : decode c.code pc = .ok (.castore, 1)) (hp : pc + 1 = pc')
    (K : ∀ T' h', Pos p l e R s m args below meth c Z own ws bd T' h' k n → Wr h h' a i (.int (nar .char x)) → Ar Z h' a .char N (fun j => .int (oupd f i (nar .char x) j)) → Done p l e R s m args below meth c Z own ws bd Q T' (mkF m pc' Ls st)) : Done p l e R s m args below meth c Z own ws bd Q T (mkF m pc Ls (.int x :: .int j :: .ref a :: st)) := by
  obtain ⟨⟨L, X, N'⟩, eT, b, hZ, hx, ho, r⟩ := id P
  obtain ⟨cl, Ar', S, hN, H⟩ := A
  obtain ⟨q1, q2⟩ := in_of S hj hi
  obtain ⟨T', h', X', e', W, stp⟩ := stC X hx hZ eT Ar' q1 (g := mkF m pc Ls (.int x :: .int j :: .ref a :: st)) rfl rfl hd
  subst hp
  rw [q2] at W
  refine Done.step stp (K T' h' ⟨⟨_, X', Fw.snoc N' hge⟩, e', by rw [W.size]; exact b, hZ, hx, ho, r⟩ W ((Ar.set Ar' S hN H hi W).congr fun j _ => ?_))
  unfold oupd; split <;> rfl
theorem wBastore {N i : Nat} {f : Nat → Int32} {a : Addr} {j : Int32} {x : Int32} (P : Pos p l e R s m args below meth c Z own ws bd T h k n) (A : Ar Z h a .byte N (fun i => .int (f i))) (hj : j.toInt = (i : Int)) (hi : i < N) (hge : a ∈ ws ∨ bd ≤ a) (hd : decode c.code pc = .ok (.bastore, 1)) (hp : pc + 1 = pc')
    (K : ∀ T' h', Pos p l e R s m args below meth c Z own ws bd T' h' k n → Wr h h' a i (.int (nar .byte x)) → Ar Z h' a .byte N (fun j => .int (oupd f i (nar .byte x) j)) → Done p l e R s m args below meth c Z own ws bd Q T' (mkF m pc' Ls st)) : Done p l e R s m args below meth c Z own ws bd Q T (mkF m pc Ls (.int x :: .int j :: .ref a :: st)) := by
  obtain ⟨⟨L, X, N'⟩, eT, b, hZ, hx, ho, r⟩ := id P
  obtain ⟨cl, Ar', S, hN, H⟩ := A
  obtain ⟨q1, q2⟩ := in_of S hj hi
  obtain ⟨T', h', X', e', W, stp⟩ := stB X hx hZ eT Ar' q1 (g := mkF m pc Ls (.int x :: .int j :: .ref a :: st)) rfl rfl hd
  subst hp
  rw [q2] at W
  refine Done.step stp (K T' h' ⟨⟨_, X', Fw.snoc N' hge⟩, e', by rw [W.size]; exact b, hZ, hx, ho, r⟩ W ((Ar.set Ar' S hN H hi W).congr fun j _ => ?_))
  unfold oupd; split <;> rfl
theorem wZastore {N i : Nat} {f : Nat → Int32} {a : Addr} {j : Int32} {x : Int32} (P : Pos p l e R s m args below meth c Z own ws bd T h k n) (A : Ar Z h a .boolean N (fun i => .int (f i))) (hj : j.toInt = (i : Int)) (hi : i < N) (hge : a ∈ ws ∨ bd ≤ a) (hd : decode c.code pc = .ok (.bastore, 1)) (hp : pc + 1 = pc')
    (K : ∀ T' h', Pos p l e R s m args below meth c Z own ws bd T' h' k n → Wr h h' a i (.int (nar .boolean x)) → Ar Z h' a .boolean N (fun j => .int (oupd f i (nar .boolean x) j)) → Done p l e R s m args below meth c Z own ws bd Q T' (mkF m pc' Ls st)) : Done p l e R s m args below meth c Z own ws bd Q T (mkF m pc Ls (.int x :: .int j :: .ref a :: st)) := by
  obtain ⟨⟨L, X, N'⟩, eT, b, hZ, hx, ho, r⟩ := id P
  obtain ⟨cl, Ar', S, hN, H⟩ := A
  obtain ⟨q1, q2⟩ := in_of S hj hi
  obtain ⟨T', h', X', e', W, stp⟩ := stZ X hx hZ eT Ar' q1 (g := mkF m pc Ls (.int x :: .int j :: .ref a :: st)) rfl rfl hd
  subst hp
  rw [q2] at W
  refine Done.step stp (K T' h' ⟨⟨_, X', Fw.snoc N' hge⟩, e', by rw [W.size]; exact b, hZ, hx, ho, r⟩ W ((Ar.set Ar' S hN H hi W).congr fun j _ => ?_))
  unfold oupd; split <;> rfl
theorem wBaload {N i : Nat} {f : Nat → Value} {a : Addr} {j : Int32} (P : Pos p l e R s m args below meth c Z own ws bd T h k n) (A : Ar Z h a .byte N f) (hj : j.toInt = (i : Int)) (hi : i < N) {v : Value} (hv : f i = v) (hd : decode c.code pc = .ok (.baload, 1)) (hp : pc + 1 = pc')
    (K : Done p l e R s m args below meth c Z own ws bd Q T (mkF m pc' Ls (v :: st))) : Done p l e R s m args below meth c Z own ws bd Q T (mkF m pc Ls (.int j :: .ref a :: st)) := by
  obtain ⟨⟨L, X, N'⟩, eT, b, hZ, hx, ho, hlk, _, _⟩ := id P
  obtain ⟨cl, Ar, S, hN, H⟩ := A
  obtain ⟨q1, q2⟩ := in_of S hj hi
  subst hp hv
  exact Done.step (fun t kk => X.baloadBytes hx (by rw [eT]; exact Ar.1) (State.isArrayOf_alike hZ.alike Ar.2.1) Ar.2.2 q1 (by rw [q2]; exact H i hi) (g := mkF m pc Ls (.int j :: .ref a :: st)) rfl rfl hd t kk) K
theorem staKeep {C nm d : String} {v : Value} {ws' : List Addr} (F : Sta Z h C nm d v) (K : Keep h h' ws') (hw : ∀ x ∈ ws', ∀ cell : Cell, h[x]? = some cell → cell.vm.isStatics = false) : Sta Z h' C nm d v := by
  obtain ⟨cf, i, k, f, st, cell, h1, h2, h3, h4, h5, h6, r⟩ := F
  exact ⟨cf, i, k, f, st, cell, h1, h2, h3, h4, K.2.1 _ _ h5 (fun q => by rw [hw _ q _ h5] at h6; cases h6), h6, r⟩
theorem wCast {K : String} {index : Nat} {a : Addr} (P : Pos p l e R s m args below meth c Z own ws bd T h k n) (w : (Cond.classLink own index K).before a0 Z = true) (F : Ins Z h a K true) (hd : decode c.code pc = .ok (.checkcast index, 3)) (hp : pc + 3 = pc')
    (K' : ∀ T', Pos p l e R s m args below meth c Z own ws bd T' h k n → Done p l e R s m args below meth c Z own ws bd Q T' (mkF m pc' Ls (.ref a :: st))) : Done p l e R s m args below meth c Z own ws bd Q T (mkF m pc Ls (.ref a :: st)) := by
  obtain ⟨⟨L, X, N'⟩, eT, b, hZ, hx, ho, r⟩ := id P
  obtain ⟨T', X', e', stp⟩ := castY X hx hZ ho w eT F (g := mkF m pc Ls (.ref a :: st)) rfl rfl hd
  subst hp
  exact Done.step stp (K' T' ⟨⟨L, X', N'⟩, e', b, hZ, hx, ho, r⟩)
/-! calls -/
theorem wInit {index : Nat} {a : Addr} {W : Nat} (P : Pos p l e R s m args below meth c Z own ws bd T h k n) (w1 : (Cond.methodLink own index Lib.objectInit).before a0 Z = true) (w2 : (Cond.instanceMethod Lib.objectInit).before a0 Z = true) (w3 : (Cond.code Lib.objectInit ⟨#[0xb1]⟩ 1 none).before a0 Z = true) (hml : Ls.size = c.maxLocals)
    (hd : decode c.code pc = .ok (.invokespecial index, 3)) (hf : 1 ≤ R.frames) (hW : (st.map fun v => v.category).sum ≤ W) (hl : W + 12 ≤ R.locals) (hp : pc + 3 = pc')
    (K : ∀ T', Pos p l e R s m args below meth c Z own ws bd T' h k n → Done p l e R s m args below meth c Z own ws bd Q T' (mkF m pc' Ls st)) : Done p l e R s m args below meth c Z own ws bd Q T (mkF m pc Ls (.ref a :: st)) := by
  obtain ⟨⟨L, X, N'⟩, eT, b, hZ, hx, ho, r⟩ := id P
  obtain ⟨T', X', e', stp⟩ := initO X hx hZ ho w1 w2 w3 eT (g := mkF m pc Ls (.ref a :: st)) rfl hml rfl hd hf (W := W) (by show 2 * 0 + _ ≤ _; omega) hl
  subst hp
  exact Done.step stp (K T' ⟨⟨L, X', N'⟩, e', b, hZ, hx, ho, r⟩)
theorem wCallS {y : MethodName} {bytes : ByteArray} {maxL : Nat} {ret : Option FieldType} {rm : Room} {as' : Array Value} {ws' : List Addr} {Q' : Option Value → Heap → Prop} {index W : Nat} {argsL rest stk : List Value} (P : Pos p l e R s m args below meth c Z own ws bd T h k n) (M : OMet l y bytes maxL ret [] rm Z h ws' as' Q')
    (w1 : (Cond.methodLink own index y).before a0 Z = true) (w2 : (Cond.static y).before a0 Z = true) (w3 : (Cond.initialized y.cls).before a0 Z = true) (w4 : (Cond.code y bytes maxL ret).before a0 Z = true) (hy : y.cls ≠ "java/lang/invoke/MethodHandle" ∧ y.cls ≠ "java/lang/invoke/VarHandle") (hml : Ls.size = c.maxLocals)
    (hlen : ∀ sig, parseMethodDescriptor y.desc = some sig → argsL.length = sig.parameters.length) (has : (argsL).toArray = as') (hst : stk = argsL.reverse ++ rest) (hW : (rest.map fun v => v.category).sum ≤ W) (hf : rm.frames + 1 ≤ R.frames) (hl : W + (maxL + 11) + rm.locals ≤ R.locals) (hc : k + rm.cells ≤ R.cells) (hs : n + rm.slots ≤ R.slots)
    (hws : ∀ x ∈ ws', x ∈ ws ∨ bd ≤ x) (hd : decode c.code pc = .ok (.invokestatic index, 3)) (hp : pc + 3 = pc') {k' n' : Nat} (hk' : k + rm.cells = k') (hn' : n + rm.slots = n')
    (K : ∀ T' h' v, Pos p l e R s m args below meth c Z own ws bd T' h' k' n' → Keep h h' ws' → Q' v h' → Done p l e R s m args below meth c Z own ws bd Q T' (mkF m pc' Ls (v.toList ++ rest))) : Done p l e R s m args below meth c Z own ws bd Q T (mkF m pc Ls stk) := by
  obtain ⟨⟨L, X, N'⟩, eT, b, hZ, hx, ho, hlk, _, _⟩ := id P
  subst hst has hp hk' hn'
  obtain ⟨v, _, ⟨T', L', k1, n1⟩, -, X', ⟨Lc, hq, l', y', z'⟩, stp⟩ := Jvm.LawKit.callS X hx (y := y) ho (mvT hZ w1) (mvT hZ w2) (mvT hZ w3) (mvT hZ w4) hy (backOf (W := W) (Q := fun v h' L => Q' v h' ∧ Fw ws' h.size L ∧ Keep h h' ws') M hZ w4 w3 hf hl) (g := mkF m pc Ls (argsL.reverse ++ rest)) rfl hml (argsL := argsL) (rest := rest) hlen rfl (by show 2 * 0 + _ ≤ _; omega) hd (fun _ _ => ⟨rfl, eT, hc, hs⟩)
  dsimp only [Pt.U, Pt.locs, Pt.cells, Pt.slots] at X' l' y' z' stp hq
  subst l' y' z'
  exact Done.step (stp) (K T' T'.heap v ⟨⟨_, X', N'.app fun y hy => (hq.2.1 y hy).elim (fun q => hws _ q) (fun q => Or.inr (Nat.le_trans b q))⟩, rfl, Nat.le_trans b hq.2.2.1, hZ, hx, ho, hlk, hc, hs⟩ hq.2.2 hq.1)
theorem wCallI {y : MethodName} {bytes : ByteArray} {maxL : Nat} {rm : Room} {as' : Array Value} {ws' : List Addr} {Q' : Option Value → Heap → Prop} {index W : Nat} {argsL rest stk : List Value} {a : Addr} (P : Pos p l e R s m args below meth c Z own ws bd T h k n) (M : OMet l y bytes maxL none [] rm Z h ws' as' Q')
    (hyn : y.name = "<init>") (w1 : (Cond.methodLink own index y).before a0 Z = true) (w2 : (Cond.instanceMethod y).before a0 Z = true) (w3 : (Cond.initialized y.cls).before a0 Z = true) (w4 : (Cond.code y bytes maxL none).before a0 Z = true) (hy : y.cls ≠ "java/lang/invoke/MethodHandle" ∧ y.cls ≠ "java/lang/invoke/VarHandle") (hml : Ls.size = c.maxLocals)
    (hlen : ∀ sig, parseMethodDescriptor y.desc = some sig → argsL.length = sig.parameters.length) (has : (.ref a :: argsL).toArray = as') (hst : stk = argsL.reverse ++ .ref a :: rest) (hW : (rest.map fun v => v.category).sum ≤ W) (hf : rm.frames + 1 ≤ R.frames) (hl : W + (maxL + 11) + rm.locals ≤ R.locals) (hc : k + rm.cells ≤ R.cells) (hs : n + rm.slots ≤ R.slots)
    (hws : ∀ x ∈ ws', x ∈ ws ∨ bd ≤ x) (hd : decode c.code pc = .ok (.invokespecial index, 3)) (hp : pc + 3 = pc') {k' n' : Nat} (hk' : k + rm.cells = k') (hn' : n + rm.slots = n')
    (K : ∀ T' h' v, Pos p l e R s m args below meth c Z own ws bd T' h' k' n' → Keep h h' ws' → Q' v h' → Done p l e R s m args below meth c Z own ws bd Q T' (mkF m pc' Ls (v.toList ++ rest))) : Done p l e R s m args below meth c Z own ws bd Q T (mkF m pc Ls stk) := by
  obtain ⟨⟨L, X, N'⟩, eT, b, hZ, hx, ho, hlk, _, _⟩ := id P
  subst hst has hp hk' hn'
  obtain ⟨v, _, ⟨T', L', k1, n1⟩, -, X', ⟨Lc, hq, l', y', z'⟩, stp⟩ := X.specialBack hx (y := y) hyn ho (mvT hZ w1) (mvT hZ w2) (mvT hZ w4) hy (backOf (W := W) (Q := fun v h' L => Q' v h' ∧ Fw ws' h.size L ∧ Keep h h' ws') M hZ w4 w3 hf hl) (g := mkF m pc Ls (argsL.reverse ++ .ref a :: rest)) rfl hml (Steps.refl _) (a := a) (argsL := argsL) (rest := rest) hlen rfl (by show 2 * 0 + _ ≤ _; omega) hd (fun _ _ => ⟨rfl, eT, hc, hs⟩)
  dsimp only [Pt.U, Pt.locs, Pt.cells, Pt.slots] at X' l' y' z' stp hq
  subst l' y' z'
  exact Done.step (fun t kk => stp.trans kk) (K T' T'.heap v ⟨⟨_, X', N'.app fun y hy => (hq.2.1 y hy).elim (fun q => hws _ q) (fun q => Or.inr (Nat.le_trans b q))⟩, rfl, Nat.le_trans b hq.2.2.1, hZ, hx, ho, hlk, hc, hs⟩ hq.2.2 hq.1)
theorem wCallV {y : MethodName} {bytes : ByteArray} {maxL : Nat} {ret : Option FieldType} {rm : Room} {as' : Array Value} {ws' : List Addr} {Q' : Option Value → Heap → Prop} {index W : Nat} {argsL rest stk : List Value} {z : MethodName} {C : String} {a : Addr} (P : Pos p l e R s m args below meth c Z own ws bd T h k n) (M : OMet l z bytes maxL ret [] rm Z h ws' as' Q')
    (w1 : (Cond.methodLink own index y).before a0 Z = true) (w2 : (Cond.declares y).before a0 Z = true) (w5 : (Cond.selects C y z).before a0 Z = true) {D : String} (w7 : (Cond.selects D y y).before a0 Z = true) (w6 : (Cond.instanceMethod z).before a0 Z = true) (w3 : (Cond.initialized z.cls).before a0 Z = true) (w4 : (Cond.code z bytes maxL ret).before a0 Z = true) (hy : y.cls ≠ "java/lang/invoke/MethodHandle" ∧ y.cls ≠ "java/lang/invoke/VarHandle") (E : Exa Z h a C) (hml : Ls.size = c.maxLocals)
    (hlen : ∀ sig, parseMethodDescriptor y.desc = some sig → argsL.length = sig.parameters.length) (has : (.ref a :: argsL).toArray = as') (hst : stk = argsL.reverse ++ .ref a :: rest) (hW : (rest.map fun v => v.category).sum ≤ W) (hf : rm.frames + 1 ≤ R.frames) (hl : W + (maxL + 11) + rm.locals ≤ R.locals) (hc : k + rm.cells ≤ R.cells) (hs : n + rm.slots ≤ R.slots)
    (hws : ∀ x ∈ ws', x ∈ ws ∨ bd ≤ x) (hd : decode c.code pc = .ok (.invokevirtual index, 3)) (hp : pc + 3 = pc') {k' n' : Nat} (hk' : k + rm.cells = k') (hn' : n + rm.slots = n')
    (K : ∀ T' h' v, Pos p l e R s m args below meth c Z own ws bd T' h' k' n' → Keep h h' ws' → Q' v h' → Done p l e R s m args below meth c Z own ws bd Q T' (mkF m pc' Ls (v.toList ++ rest))) : Done p l e R s m args below meth c Z own ws bd Q T (mkF m pc Ls stk) := by
  obtain ⟨⟨L, X, N'⟩, eT, b, hZ, hx, ho, hlk, _, _⟩ := id P
  subst hst has hp hk' hn'
  obtain ⟨cq, kq, qa, qb, qc⟩ := isOf hZ eT E
  obtain ⟨v, _, ⟨T', L', k1, n1⟩, -, X', ⟨Lc, hq, l', y', z'⟩, stp⟩ := X.virtualBack hx (y := y) (z := z) ho (mvT hZ w1) (mvT hZ w2) (notFace_of_selects (args := #[]) (mvT hZ w7)) (mvT hZ w5) (mvT hZ w6) hy (backOf (W := W) (Q := fun v h' L => Q' v h' ∧ Fw ws' h.size L ∧ Keep h h' ws') M hZ w4 w3 hf hl) qa qc (g := mkF m pc Ls (argsL.reverse ++ .ref a :: rest)) rfl hml (Steps.refl _) (argsL := argsL) (rest := rest) hlen rfl (by show 2 * 0 + _ ≤ _; omega) hd (fun _ _ => ⟨rfl, eT, hc, hs⟩)
  dsimp only [Pt.U, Pt.locs, Pt.cells, Pt.slots] at X' l' y' z' stp hq
  subst l' y' z'
  exact Done.step (fun t kk => stp.trans kk) (K T' T'.heap v ⟨⟨_, X', N'.app fun y hy => (hq.2.1 y hy).elim (fun q => hws _ q) (fun q => Or.inr (Nat.le_trans b q))⟩, rfl, Nat.le_trans b hq.2.2.1, hZ, hx, ho, hlk, hc, hs⟩ hq.2.2 hq.1)
theorem wCallP {y : MethodName} {bytes : ByteArray} {maxL : Nat} {ret : Option FieldType} {rm : Room} {as' : Array Value} {ws' : List Addr} {Q' : Option Value → Heap → Prop} {index W kk : Nat} {argsL rest stk : List Value} {a : Addr} {C : String} (P : Pos p l e R s m args below meth c Z own ws bd T h k n) (M : OMet l y bytes maxL ret [] rm Z h ws' as' Q')
    (w1 : (Cond.methodLink own index y).before a0 Z = true) (w2 : (Cond.instanceMethod y).before a0 Z = true) (w5 : (Cond.privateMethod y).before a0 Z = true) (wi : (Cond.instantiable y.cls kk).before a0 Z = true) (w3 : (Cond.initialized y.cls).before a0 Z = true) (w4 : (Cond.code y bytes maxL ret).before a0 Z = true) (hy : y.cls ≠ "java/lang/invoke/MethodHandle" ∧ y.cls ≠ "java/lang/invoke/VarHandle") (E : Exa Z h a C) (hml : Ls.size = c.maxLocals)
    (hlen : ∀ sig, parseMethodDescriptor y.desc = some sig → argsL.length = sig.parameters.length) (has : (.ref a :: argsL).toArray = as') (hst : stk = argsL.reverse ++ .ref a :: rest) (hW : (rest.map fun v => v.category).sum ≤ W) (hf : rm.frames + 1 ≤ R.frames) (hl : W + (maxL + 11) + rm.locals ≤ R.locals) (hc : k + rm.cells ≤ R.cells) (hs : n + rm.slots ≤ R.slots)
    (hws : ∀ x ∈ ws', x ∈ ws ∨ bd ≤ x) (hd : decode c.code pc = .ok (.invokevirtual index, 3)) (hp : pc + 3 = pc') {k' n' : Nat} (hk' : k + rm.cells = k') (hn' : n + rm.slots = n')
    (K : ∀ T' h' v, Pos p l e R s m args below meth c Z own ws bd T' h' k' n' → Keep h h' ws' → Q' v h' → Done p l e R s m args below meth c Z own ws bd Q T' (mkF m pc' Ls (v.toList ++ rest))) : Done p l e R s m args below meth c Z own ws bd Q T (mkF m pc Ls stk) := by
  obtain ⟨⟨L, X, N'⟩, eT, b, hZ, hx, ho, hlk, _, _⟩ := id P
  subst hst has hp hk' hn'
  obtain ⟨cl, hcl, hst⟩ := E.cell
  have hpr : s.PrivateAt y := Cond.privateMethod_at (mvP hZ w5 (args := #[]))
  obtain ⟨ci, ki, hi1, hi2, -, hi3, -⟩ := Cond.instantiable_spec (mvT hZ wi : (Cond.instantiable y.cls kk).before args s = true)
  have hsel : (Cond.selects y.cls y y).before args s = true := selects_self_of_private hi1 hi2 (by simp only [Bool.or_eq_false_iff] at hi3; exact hi3.1) hpr (mvT hZ w2) hy
  obtain ⟨v, _, ⟨T', L', k1, n1⟩, -, X', ⟨Lc, hq, l', y', z'⟩, stp⟩ := X.privateBack hx (y := y) ho (mvT hZ w1) (mvT hZ w2) hsel hpr (mvT hZ w4) hy (backOf (W := W) (Q := fun v h' L => Q' v h' ∧ Fw ws' h.size L ∧ Keep h h' ws') M hZ w4 w3 hf hl) (g := mkF m pc Ls (argsL.reverse ++ .ref a :: rest)) rfl hml (Steps.refl _) (a := a) (by rw [eT]; exact hcl) hst (argsL := argsL) (rest := rest) hlen rfl (by show 2 * 0 + _ ≤ _; omega) hd (fun _ _ => ⟨rfl, eT, hc, hs⟩)
  dsimp only [Pt.U, Pt.locs, Pt.cells, Pt.slots] at X' l' y' z' stp hq
  subst l' y' z'
  exact Done.step (fun t kk => stp.trans kk) (K T' T'.heap v ⟨⟨_, X', N'.app fun y hy => (hq.2.1 y hy).elim (fun q => hws _ q) (fun q => Or.inr (Nat.le_trans b q))⟩, rfl, Nat.le_trans b hq.2.2.1, hZ, hx, ho, hlk, hc, hs⟩ hq.2.2 hq.1)
/-- a call that the machine answers itself -/
theorem wNat {y : MethodName} {by0 : ByteArray} {ml : Nat} {rt : Option FieldType} {index W : Nat} {F : Array Value → Prop} {val : Value} {argsL rest stk : List Value} (P : Pos p l e R s m args below meth c Z own ws bd T h k n)
    (w1 : (Cond.methodLink own index y).before a0 Z = true) (w2 : (Cond.static y).before a0 Z = true) (w3 : (Cond.initialized y.cls).before a0 Z = true) (w4 : (Cond.code y by0 ml rt).before a0 Z = true) (hy : y.cls ≠ "java/lang/invoke/MethodHandle" ∧ y.cls ≠ "java/lang/invoke/VarHandle")
    (hK : (Cond.code y by0 ml rt).before args s = true → Back l R p e below s args y 3 W (fun A a' => A.cells ≤ R.cells ∧ A.slots ≤ R.slots ∧ F a') (fun A _ v B => v = some val ∧ B = A)) (hml : Ls.size = c.maxLocals)
    (hlen : ∀ sig, parseMethodDescriptor y.desc = some sig → argsL.length = sig.parameters.length) (hst : stk = argsL.reverse ++ rest) (hW : (rest.map fun v => v.category).sum ≤ W) (hd : decode c.code pc = .ok (.invokestatic index, 3)) (hp : pc + 3 = pc') (hF : F argsL.toArray)
    (K : ∀ T', Pos p l e R s m args below meth c Z own ws bd T' h k n → Done p l e R s m args below meth c Z own ws bd Q T' (mkF m pc' Ls (val :: rest))) : Done p l e R s m args below meth c Z own ws bd Q T (mkF m pc Ls stk) := by
  obtain ⟨⟨L, X, N'⟩, eT, b, hZ, hx, ho, hlk, hc, hs⟩ := id P
  subst hst hp
  obtain ⟨T', X', e', stp⟩ := natS X hx hZ ho w1 w2 w3 w4 hy eT hK (g := mkF m pc Ls (argsL.reverse ++ rest)) rfl hml hlen rfl (by show 2 * 0 + _ ≤ _; omega) hd hc hs hF rfl
  exact Done.step stp (K T' ⟨⟨L, X', N'⟩, e', b, hZ, hx, ho, hlk, hc, hs⟩)
theorem Fw.toFr {bd : Nat} {L : List Loc} (N : Fw [] bd L) : Fr bd L := fun y hy => (N y hy).resolve_left (by simp)
theorem Fw.ofFr {ws : List Addr} {bd : Nat} {L : List Loc} (N : Fr bd L) : Fw ws bd L := fun y hy => Or.inr (N y hy)
theorem n32 {N : Nat} (h : N < 2147483648) : ¬ Int32.ofNat N < 0 ∧ (Int32.ofNat N).toNatClampNeg = N := by
  have e : (Int32.ofNat N).toInt = (N : Int) := Int32.toInt_ofNat_of_lt (by omega)
  refine ⟨?_, by rw [Int32.toNatClampNeg, e]; omega⟩
  rw [Int32.lt_iff_toInt_lt, e, show (0 : Int32).toInt = 0 from rfl]; omega
theorem Ar.toArv {a : Addr} {ty : FieldType} {N : Nat} {f : Nat → Value} (A : Ar Z h a ty N f) (dv : Value) (hf : ∀ i, fits ty (f i) = true) (hd : fits ty dv = true) : ∃ kA, Arv Z h a kA ty (Int32.ofNat N) ((List.range N).map f) dv := by
  obtain ⟨cl, Ar, S, hN, H⟩ := A
  have g : ∀ i, i < N → ((List.range N).map f).getD i dv = f i := fun i hi => by simp [List.getD_eq_getElem?_getD, hi]
  refine ⟨cl.cls, cl, Ar, rfl, by rw [(n32 hN).2, S], (n32 hN).1, fun i hi => ?_, fun i hi => ?_⟩
  · rw [g i (by omega)]; exact H i (by omega)
  · rw [g i (by omega)]; exact hf i
theorem Ar.ofArv {a : Addr} {ty : FieldType} {kA : ClassId} {N : Nat} {vs : List Value} {dv : Value} (hN : N < 2147483648) (A : Arv Z h a kA ty (Int32.ofNat N) vs dv) : Ar Z h a ty N (fun i => vs.getD i dv) := by
  obtain ⟨cl, Ar, -, S, -, H, -⟩ := A
  rw [(n32 hN).2] at S
  exact ⟨cl, Ar, S, hN, fun i hi => H i (by omega)⟩
/-- a copy of an array of doubles -/
theorem wClone {N cap index W : Nat} {f : Nat → UInt64} {a : Addr} (P : Pos p l e R s m args below meth c Z own ws bd T h k n) (A : Ar Z h a .double N (fun i => .double (f i))) (E : Exa Z h a "[D")
    (w1 : (Cond.methodLink own index ⟨"[D", "clone", "()Ljava/lang/Object;"⟩).before a0 Z = true) (w2 : (Cond.sameMethod "[D" "java/lang/Object" "clone" "()Ljava/lang/Object;").before a0 Z = true) (w3 : (Cond.native ⟨"java/lang/Object", "clone", "()Ljava/lang/Object;"⟩).before a0 Z = true)
    (w4 : (Cond.instanceMethod ⟨"java/lang/Object", "clone", "()Ljava/lang/Object;"⟩).before a0 Z = true) (w5 : (Cond.selects "[D" ⟨"[D", "clone", "()Ljava/lang/Object;"⟩ ⟨"java/lang/Object", "clone", "()Ljava/lang/Object;"⟩).before a0 Z = true) (w6 : (Cond.castable "[D" "java/lang/Cloneable").before a0 Z = true)
    (hml : Ls.size = c.maxLocals) (hd : decode c.code pc = .ok (.invokevirtual index, 3)) (hp : pc + 3 = pc') (hf : 1 ≤ R.frames) (hW : (st.map fun v => v.category).sum ≤ W) (hl : W + 14 ≤ R.locals) (hcap : N ≤ cap) (hc : k + 1 ≤ R.cells) (hsl : n + cap ≤ R.slots) {k' n' : Nat} (hk' : k + 1 = k') (hn' : n + cap = n')
    (K : ∀ T' h' b, b = h.size → h.size < h'.size → Pos p l e R s m args below meth c Z own ws bd T' h' k' n' → Ext h h' → Ar Z h' b .double N (fun i => .double (f i)) → Exa Z h' b "[D" → Done p l e R s m args below meth c Z own ws bd Q T' (mkF m pc' Ls (.ref b :: st))) : Done p l e R s m args below meth c Z own ws bd Q T (mkF m pc Ls (.ref a :: st)) := by
  obtain ⟨⟨L, X, N'⟩, eT, b, hZ, hx, ho, hlk, _, _⟩ := id P
  obtain ⟨cl, Ar, S, hN, H⟩ := A
  have FC : FitC Z cl := fitC_of Ar fun i hi v hv => by rw [H i (by omega)] at hv; cases hv; rfl
  obtain ⟨T', h', X', e', ex, A', E', stp⟩ := cloneA X hx hZ ho w1 w2 w3 w4 w5 w6 eT Ar E FC (g := mkF m pc Ls (.ref a :: st)) rfl hml rfl hd hf (W := W) (by show 2 * 0 + _ ≤ _; omega) hl (cap := cap) (by omega) hc hsl
  subst hp hk' hn'
  exact Done.step stp (K T' h' h.size rfl A'.lt ⟨⟨L, X', N'⟩, e', Nat.le_trans b ex.1, hZ, hx, ho, hlk, hc, hsl⟩ ex ⟨_, A', S, hN, H⟩ E')
/-- System.arraycopy of the first places of an array of doubles into a fresh one -/
theorem wCopyD {N M K0 index W : Nat} {f g : Nat → UInt64} {a b : Addr} {nn : Int32} (P : Pos p l e R s m args below meth c Z own [] bd T h k n) (A : Ar Z h a .double N (fun i => .double (f i))) (B : Ar Z h b .double M (fun i => .double (g i))) (hnn : nn.toInt = (K0 : Int)) (h1 : K0 ≤ N) (h2 : K0 ≤ M) (ge : bd ≤ b)
    (w1 : (Cond.methodLink own index Jvm.Stand.acN).before a0 Z = true) (w2 : (Cond.native Jvm.Stand.acN).before a0 Z = true) (w3 : (Cond.static Jvm.Stand.acN).before a0 Z = true) (w4 : (Cond.initialized "java/lang/System").before a0 Z = true)
    (hml : Ls.size = c.maxLocals) (hd : decode c.code pc = .ok (.invokestatic index, 3)) (hp : pc + 3 = pc') (hf : 1 ≤ R.frames) (hW : (st.map fun v => v.category).sum ≤ W) (hlo : W + (nativeFrameWords "java/lang/System" "arraycopy" 5 + 11) ≤ R.locals)
    (K : ∀ T' h', Pos p l e R s m args below meth c Z own [] bd T' h' k n → Keep h h' [b] → Ar Z h' b .double M (fun i => .double (if i < K0 then f i else g i)) → Done p l e R s m args below meth c Z own [] bd Q T' (mkF m pc' Ls st)) :
    Done p l e R s m args below meth c Z own [] bd Q T (mkF m pc Ls (.int nn :: .int 0 :: .ref b :: .int 0 :: .ref a :: st)) := by
  obtain ⟨⟨L, X, N'⟩, eT, hb', hZ, hx, ho, r⟩ := id P
  have hN := A.len
  have hM := B.len
  obtain ⟨kA, VA⟩ := A.toArv (.double 0) (fun _ => rfl) rfl
  obtain ⟨kB, VB⟩ := B.toArv (.double 0) (fun _ => rfl) rfl
  have z0 : ¬ (0 : Int32) < 0 := by decide
  have z1 : (0 : Int32).toNatClampNeg = 0 := by decide
  have q0 : ¬ nn < 0 := by rw [Int32.lt_iff_toInt_lt, hnn, show (0 : Int32).toInt = 0 from rfl]; omega
  have q1 : nn.toNatClampNeg = K0 := by rw [Int32.toNatClampNeg, hnn]; omega
  obtain ⟨T', h', L', X', e', F', Kp, V', stp⟩ := cpA X hx hZ ho w1 w2 w3 w4 eT VA VB (Or.inl ⟨rfl, rfl⟩) z0 z0 q0 (by rw [z1, q1, (n32 hN).2]; omega) (by rw [z1, q1, (n32 hM).2]; omega) rfl (by rw [z1, q1]; simp; omega) (n0 := bd) N'.toFr ge (g := mkF m pc Ls (.int nn :: .int 0 :: .ref b :: .int 0 :: .ref a :: st)) rfl hml rfl hd hf (W := W) (by show 2 * 0 + _ ≤ _; omega) hlo
  subst hp
  refine Done.step stp (K T' h' ⟨⟨L', X', Fw.ofFr F'⟩, e', Nat.le_trans hb' Kp.1, hZ, hx, ho, r⟩ Kp ((Ar.ofArv hM V').congr fun i hi => ?_))
  rw [z1, q1]
  by_cases q : i < K0
  · rw [if_pos q]
    simp [List.getD_eq_getElem?_getD, List.getElem?_append, q]
    rw [List.getElem?_range (by omega)]
    rfl
  · rw [if_neg q]
    simp [List.getD_eq_getElem?_getD, List.getElem?_append, q]
    have e2 : K0 + (i - K0) = i := by omega
    simp [e2, hi]
/-! constants and references -/
theorem pLdcI {index : Nat} {v : Int32} {t : State} (P : Pos p l e R s m args below meth c Z own ws bd T h k n) (w : (Cond.constant own index v).before a0 Z = true) (hd : decode c.code pc = .ok (.ldc index, 2)) (hp : pc + 2 = pc') (kk : Steps p.tables e below (T.setTop (mkF m pc' Ls (.int v :: st))) t) : Steps p.tables e below (T.setTop (mkF m pc Ls st)) t := by
  obtain ⟨⟨L, X, N'⟩, eT, b, hZ, hx, ho, hlk, _, _⟩ := id P
  subst hp
  exact X.ldcI hx ho (mvT hZ w) (g := mkF m pc Ls st) rfl hd kk
theorem pLdcIw {index : Nat} {v : Int32} {t : State} (P : Pos p l e R s m args below meth c Z own ws bd T h k n) (w : (Cond.constant own index v).before a0 Z = true) (hd : decode c.code pc = .ok (.ldc_w index, 3)) (hp : pc + 3 = pc') (kk : Steps p.tables e below (T.setTop (mkF m pc' Ls (.int v :: st))) t) : Steps p.tables e below (T.setTop (mkF m pc Ls st)) t := by
  obtain ⟨⟨L, X, N'⟩, eT, b, hZ, hx, ho, hlk, _, _⟩ := id P
  subst hp
  exact X.ldcWI hx ho (mvT hZ w) (g := mkF m pc Ls st) rfl hd kk
theorem pLdcJ {index : Nat} {v : Int64} {t : State} (P : Pos p l e R s m args below meth c Z own ws bd T h k n) (w : (Cond.constantLong own index v).before a0 Z = true) (hd : decode c.code pc = .ok (.ldc2_w index, 3)) (hp : pc + 3 = pc') (kk : Steps p.tables e below (T.setTop (mkF m pc' Ls (.long v :: st))) t) : Steps p.tables e below (T.setTop (mkF m pc Ls st)) t := by
  obtain ⟨⟨L, X, N'⟩, eT, b, hZ, hx, ho, hlk, _, _⟩ := id P
  subst hp
  exact X.ldc2J hx ho (mvT hZ w) (g := mkF m pc Ls st) rfl hd kk
theorem pLdcD {index : Nat} {v : UInt64} {t : State} (P : Pos p l e R s m args below meth c Z own ws bd T h k n) (w : (Cond.constantDouble own index v).before a0 Z = true) (hd : decode c.code pc = .ok (.ldc2_w index, 3)) (hp : pc + 3 = pc') (kk : Steps p.tables e below (T.setTop (mkF m pc' Ls (.double v :: st))) t) : Steps p.tables e below (T.setTop (mkF m pc Ls st)) t := by
  obtain ⟨⟨L, X, N'⟩, eT, b, hZ, hx, ho, hlk, _, _⟩ := id P
  subst hp
  exact X.ldc2DoubleC hx ho (mvT hZ w) (g := mkF m pc Ls st) rfl hd t kk
theorem pAcmp {cd : ACond} {x y : Value} {rest stk : List Value} {o : Int} {pc0 : Nat} {same : Bool} {t : State} (P : Pos p l e R s m args below meth c Z own ws bd T h k n) (h1 : x.isRef = true) (h2 : y.isRef = true) (hpc : pc = pc0) (hd : decode c.code pc = .ok (.if_acmp cd o, 3)) (hs : stk = y :: x :: rest) (hq : decide (x = y) = same) (ho : 0 ≤ (pc0 : Int) + o)
    (hp : pc' = if acV cd same = true then ((pc0 : Int) + o).toNat else pc0 + 3) (kk : Steps p.tables e below (T.setTop (mkF m pc' Ls rest)) t) : Steps p.tables e below (T.setTop (mkF m pc Ls stk)) t := by
  obtain ⟨⟨L, X, N'⟩, eT, b, hZ, hx, ho', hlk, _, _⟩ := id P
  exact Jvm.RoadKit.acmp (g := mkF m pc Ls stk) X hx rfl h1 h2 (pc0 := pc0) (pc' := pc') (same := same) hpc hd hs hq ho hp kk
end A
/-! conditions of branches -/
theorem iiW_lt_t {x y : Int32} (h : x < y) : if_icmp.holds .lt x y = true := (tlt h).1
theorem iiW_lt_f {x y : Int32} (h : ¬ (x < y)) : if_icmp.holds .lt x y = false := (flt h).1
theorem iiW_ge_t {x y : Int32} (h : ¬ (x < y)) : if_icmp.holds .ge x y = true := (flt h).2.1
theorem iiW_ge_f {x y : Int32} (h : ¬ ¬ (x < y)) : if_icmp.holds .ge x y = false := (tlt (Decidable.not_not.mp h)).2.1
theorem iiW_gt_t {x y : Int32} (h : y < x) : if_icmp.holds .gt x y = true := (tlt h).2.2.1
theorem iiW_gt_f {x y : Int32} (h : ¬ (y < x)) : if_icmp.holds .gt x y = false := (flt h).2.2.1
theorem iiW_le_t {x y : Int32} (h : ¬ (y < x)) : if_icmp.holds .le x y = true := (flt h).2.2.2
theorem iiW_le_f {x y : Int32} (h : ¬ ¬ (y < x)) : if_icmp.holds .le x y = false := (tlt (Decidable.not_not.mp h)).2.2.2
theorem iiW_eq_t {x y : Int32} (h : x = y) : if_icmp.holds .eq x y = true := (teq h).1
theorem iiW_eq_f {x y : Int32} (h : ¬ (x = y)) : if_icmp.holds .eq x y = false := (feq h).1
theorem iiW_ne_t {x y : Int32} (h : ¬ (x = y)) : if_icmp.holds .ne x y = true := (feq h).2
theorem iiW_ne_f {x y : Int32} (h : ¬ ¬ (x = y)) : if_icmp.holds .ne x y = false := (teq (Decidable.not_not.mp h)).2
theorem i0W_lt_t {x : Int32} (h : x < (0 : Int32)) : ifCond.holds .lt x = true := (if0 _ _).trans (iiW_lt_t h)
theorem i0W_lt_f {x : Int32} (h : ¬ (x < (0 : Int32))) : ifCond.holds .lt x = false := (if0 _ _).trans (iiW_lt_f h)
theorem i0W_ge_t {x : Int32} (h : ¬ (x < (0 : Int32))) : ifCond.holds .ge x = true := (if0 _ _).trans (iiW_ge_t h)
theorem i0W_ge_f {x : Int32} (h : ¬ ¬ (x < (0 : Int32))) : ifCond.holds .ge x = false := (if0 _ _).trans (iiW_ge_f h)
theorem i0W_gt_t {x : Int32} (h : (0 : Int32) < x) : ifCond.holds .gt x = true := (if0 _ _).trans (iiW_gt_t h)
theorem i0W_gt_f {x : Int32} (h : ¬ ((0 : Int32) < x)) : ifCond.holds .gt x = false := (if0 _ _).trans (iiW_gt_f h)
theorem i0W_le_t {x : Int32} (h : ¬ ((0 : Int32) < x)) : ifCond.holds .le x = true := (if0 _ _).trans (iiW_le_t h)
theorem i0W_le_f {x : Int32} (h : ¬ ¬ ((0 : Int32) < x)) : ifCond.holds .le x = false := (if0 _ _).trans (iiW_le_f h)
theorem i0W_eq_t {x : Int32} (h : x = (0 : Int32)) : ifCond.holds .eq x = true := (if0 _ _).trans (iiW_eq_t h)
theorem i0W_eq_f {x : Int32} (h : ¬ (x = (0 : Int32))) : ifCond.holds .eq x = false := (if0 _ _).trans (iiW_eq_f h)
theorem i0W_ne_t {x : Int32} (h : ¬ (x = (0 : Int32))) : ifCond.holds .ne x = true := (if0 _ _).trans (iiW_ne_t h)
theorem i0W_ne_f {x : Int32} (h : ¬ ¬ (x = (0 : Int32))) : ifCond.holds .ne x = false := (if0 _ _).trans (iiW_ne_f h)
theorem lcW_lt_t {x y : Int64} (h : x < y) : ifCond.holds .lt (lcmpW x y) = true := i0W_lt_t ((lw_lt x y).mpr h)
theorem lcW_lt_f {x y : Int64} (h : ¬ (x < y)) : ifCond.holds .lt (lcmpW x y) = false := i0W_lt_f fun q => h ((lw_lt x y).mp q)
theorem lcW_ge_t {x y : Int64} (h : ¬ (x < y)) : ifCond.holds .ge (lcmpW x y) = true := i0W_ge_t fun q => h ((lw_lt x y).mp q)
theorem lcW_ge_f {x y : Int64} (h : ¬ ¬ (x < y)) : ifCond.holds .ge (lcmpW x y) = false := i0W_ge_f fun q => h fun z => q ((lw_lt x y).mpr z)
theorem lcW_gt_t {x y : Int64} (h : y < x) : ifCond.holds .gt (lcmpW x y) = true := i0W_gt_t ((lw_gt x y).mpr h)
theorem lcW_gt_f {x y : Int64} (h : ¬ (y < x)) : ifCond.holds .gt (lcmpW x y) = false := i0W_gt_f fun q => h ((lw_gt x y).mp q)
theorem lcW_le_t {x y : Int64} (h : ¬ (y < x)) : ifCond.holds .le (lcmpW x y) = true := i0W_le_t fun q => h ((lw_gt x y).mp q)
theorem lcW_le_f {x y : Int64} (h : ¬ ¬ (y < x)) : ifCond.holds .le (lcmpW x y) = false := i0W_le_f fun q => h fun z => q ((lw_gt x y).mpr z)
theorem lcW_eq_t {x y : Int64} (h : x = y) : ifCond.holds .eq (lcmpW x y) = true := i0W_eq_t ((lw_eq x y).mpr h)
theorem lcW_eq_f {x y : Int64} (h : ¬ (x = y)) : ifCond.holds .eq (lcmpW x y) = false := i0W_eq_f fun q => h ((lw_eq x y).mp q)
theorem lcW_ne_t {x y : Int64} (h : ¬ (x = y)) : ifCond.holds .ne (lcmpW x y) = true := i0W_ne_t fun q => h ((lw_eq x y).mp q)
theorem lcW_ne_f {x y : Int64} (h : ¬ ¬ (x = y)) : ifCond.holds .ne (lcmpW x y) = false := i0W_ne_f fun q => h fun z => q ((lw_eq x y).mpr z)
/-- how two whole numbers compare, as dcmp pushes it -/
def cmpZ (i j : Int) : Int32 := if i < j then -1 else if i = j then 0 else 1
theorem cmpZ_lt (i j : Int) : cmpZ i j < (0 : Int32) ↔ i < j := by
  unfold cmpZ
  by_cases h1 : i < j
  · rw [if_pos h1]; exact ⟨fun _ => h1, fun _ => by decide⟩
  · rw [if_neg h1]
    by_cases h2 : i = j
    · rw [if_pos h2]; exact ⟨fun q => absurd q (by decide), fun q => absurd q h1⟩
    · rw [if_neg h2]; exact ⟨fun q => absurd q (by decide), fun q => absurd q h1⟩
theorem cmpZ_gt (i j : Int) : (0 : Int32) < cmpZ i j ↔ j < i := by
  unfold cmpZ
  by_cases h1 : i < j
  · rw [if_pos h1]; exact ⟨fun q => absurd q (by decide), fun q => by omega⟩
  · rw [if_neg h1]
    by_cases h2 : i = j
    · rw [if_pos h2]; exact ⟨fun q => absurd q (by decide), fun q => by omega⟩
    · rw [if_neg h2]; exact ⟨fun _ => by omega, fun _ => by decide⟩
theorem cmpZ_eq (i j : Int) : cmpZ i j = (0 : Int32) ↔ i = j := by
  unfold cmpZ
  by_cases h1 : i < j
  · rw [if_pos h1]; exact ⟨fun q => absurd q (by decide), fun q => by omega⟩
  · rw [if_neg h1]
    by_cases h2 : i = j
    · rw [if_pos h2]; exact ⟨fun _ => h2, fun _ => rfl⟩
    · rw [if_neg h2]; exact ⟨fun q => absurd q (by decide), fun q => absurd q h2⟩
theorem ciW_lt_t {x y : Int} (h : x < y) : ifCond.holds .lt (cmpZ x y) = true := i0W_lt_t ((cmpZ_lt x y).mpr h)
theorem ciW_lt_f {x y : Int} (h : ¬ (x < y)) : ifCond.holds .lt (cmpZ x y) = false := i0W_lt_f fun q => h ((cmpZ_lt x y).mp q)
theorem ciW_ge_t {x y : Int} (h : ¬ (x < y)) : ifCond.holds .ge (cmpZ x y) = true := i0W_ge_t fun q => h ((cmpZ_lt x y).mp q)
theorem ciW_ge_f {x y : Int} (h : ¬ ¬ (x < y)) : ifCond.holds .ge (cmpZ x y) = false := i0W_ge_f fun q => h fun z => q ((cmpZ_lt x y).mpr z)
theorem ciW_gt_t {x y : Int} (h : y < x) : ifCond.holds .gt (cmpZ x y) = true := i0W_gt_t ((cmpZ_gt x y).mpr h)
theorem ciW_gt_f {x y : Int} (h : ¬ (y < x)) : ifCond.holds .gt (cmpZ x y) = false := i0W_gt_f fun q => h ((cmpZ_gt x y).mp q)
theorem ciW_le_t {x y : Int} (h : ¬ (y < x)) : ifCond.holds .le (cmpZ x y) = true := i0W_le_t fun q => h ((cmpZ_gt x y).mp q)
theorem ciW_le_f {x y : Int} (h : ¬ ¬ (y < x)) : ifCond.holds .le (cmpZ x y) = false := i0W_le_f fun q => h fun z => q ((cmpZ_gt x y).mpr z)
theorem ciW_eq_t {x y : Int} (h : x = y) : ifCond.holds .eq (cmpZ x y) = true := i0W_eq_t ((cmpZ_eq x y).mpr h)
theorem ciW_eq_f {x y : Int} (h : ¬ (x = y)) : ifCond.holds .eq (cmpZ x y) = false := i0W_eq_f fun q => h ((cmpZ_eq x y).mp q)
theorem ciW_ne_t {x y : Int} (h : ¬ (x = y)) : ifCond.holds .ne (cmpZ x y) = true := i0W_ne_t fun q => h ((cmpZ_eq x y).mp q)
theorem ciW_ne_f {x y : Int} (h : ¬ ¬ (x = y)) : ifCond.holds .ne (cmpZ x y) = false := i0W_ne_f fun q => h fun z => q ((cmpZ_eq x y).mpr z)
section B
variable {C : Prop} [Decidable C]
theorem b01or (C : Prop) [Decidable C] : (if C then (1 : Int32) else (0 : Int32)) = 0 ∨ (if C then (1 : Int32) else (0 : Int32)) = 1 := by split <;> simp
theorem b01_eq_t (h : ¬ (C)) : ifCond.holds .eq (if C then (1 : Int32) else (0 : Int32)) = true := by rw [if_neg h]; rfl
theorem b01_eq_f (h : ¬ ¬ (C)) : ifCond.holds .eq (if C then (1 : Int32) else (0 : Int32)) = false := by rw [if_pos (Decidable.not_not.mp h)]; rfl
theorem b01_ne_t (h : C) : ifCond.holds .ne (if C then (1 : Int32) else (0 : Int32)) = true := by rw [if_pos h]; rfl
theorem b01_ne_f (h : ¬ (C)) : ifCond.holds .ne (if C then (1 : Int32) else (0 : Int32)) = false := by rw [if_neg h]; rfl
end B
theorem narrow_01 {x : Int32} (h : x = 0 ∨ x = 1) : narrow .boolean (.int x) = .int x := by rcases h with rfl | rfl <;> rfl
theorem fits_01 {x : Int32} (h : x = 0 ∨ x = 1) : fits .boolean (.int x) = true := by rcases h with rfl | rfl <;> rfl
theorem cat1 {v : Value} (h : v.isRef = true) : v.category = 1 := by cases v <;> first | rfl | (simp [Value.isRef] at h)
theorem narrow_refT {v : Value} {t : FieldType} (h : v.isRef = true) : narrow t v = v := by cases v <;> first | (simp [Value.isRef] at h; done) | (cases t <;> rfl)
theorem fits_refT {v : Value} {t : FieldType} (h : v.isRef = true) (ht : t.isReference = true) : fits t v = true := by cases v <;> first | (simp [Value.isRef] at h; done) | (cases t <;> first | rfl | (simp [FieldType.isReference] at ht; done))
theorem nab_mul {i j : Int} {A B : Nat} (h1 : i.natAbs ≤ A) (h2 : j.natAbs ≤ B) : (i * j).natAbs ≤ A * B := by rw [Int.natAbs_mul]; exact Nat.mul_le_mul h1 h2
theorem nab_add {i j : Int} {A B : Nat} (h1 : i.natAbs ≤ A) (h2 : j.natAbs ≤ B) : (i + j).natAbs ≤ A + B := by omega
theorem nab_sub {i j : Int} {A B : Nat} (h1 : i.natAbs ≤ A) (h2 : j.natAbs ≤ B) : (i - j).natAbs ≤ A + B := by omega
/-! whole numbers as doubles -/
section C
open Jvm.FP Jvm.FP.Core Jvm.Free.Fl
theorem dint_c0 : DInt 0 FP.dconst0 := by
  have h := i2d_int 0
  rwa [show Core.i2d 0 = FP.dconst0 from by decide +kernel] at h
theorem dint_c1 : DInt 1 FP.dconst1 := by
  have h := i2d_int 1
  rwa [show Core.i2d 1 = FP.dconst1 from by decide +kernel] at h
theorem dint_ite {C : Prop} [Decidable C] {i j : Int} {a b : UInt64} (h1 : C → DInt i a) (h0 : ¬ C → DInt j b) : DInt (if C then i else j) (if C then a else b) := by
  by_cases h : C
  · rw [if_pos h, if_pos h]; exact h1 h
  · rw [if_neg h, if_neg h]; exact h0 h
theorem nnD {i : Int} {a : UInt64} (h : DInt i a) : NoNaN64 a := val64_no.mpr (DInt_ne_nan h)
theorem dcmpZ {i j : Int} {a b : UInt64} (ha : DInt i a) (hb : DInt j b) {o : CmpOp} : cmpValue (FP.dcmp a b) o = cmpZ i j := by
  rw [show FP.dcmp a b = some (compare i j) from dcmp_int ha hb, compare_ite]
  unfold cmpZ
  split
  · rfl
  · split <;> rfl
end C
end Jvm.OwnW
namespace Jvm.OwnW
section Fp
open Jvm.FP Jvm.FP.Core Jvm.Free.Fl Jvm.ClassFile Jvm.Op
/-- the exponent moved by k -/
def sc (k : Int) : Datum → Datum
  | .fin s c q => .fin s c (q + k)
  | .inf s => .inf s
  | .nan => .nan
/-- the double a is i / 2^k, exactly -/
def DY (i : Int) (k : Int) (a : UInt64) : Prop := Whole i (sc k (val64 a))
theorem sc_zero (d : Datum) : sc 0 d = d := by cases d <;> simp [sc]
theorem DY.of_int {i : Int} {a : UInt64} (h : DInt i a) : DY i 0 a := by unfold DY; rw [sc_zero]; exact h
theorem DY.to_int {i : Int} {a : UInt64} (h : DY i 0 a) : DInt i a := by unfold DY at h; rw [sc_zero] at h; exact h
theorem units_sc (k : Int) (c : Nat) (q e : Int) : inUnits c (q + k) (e + k) = inUnits c q e := by
  unfold inUnits; rw [show q + k - (e + k) = q - e by omega]
theorem sc_sum (k : Int) (x y : Datum) : sc k (exactSum x y) = exactSum (sc k x) (sc k y) := by
  cases x with
  | nan => rfl
  | inf s => cases y with
    | nan => rfl
    | inf t => by_cases z : s = t <;> simp only [exactSum, sc, z, if_true, if_false]
    | fin t d r => rfl
  | fin s c q => cases y with
    | nan => rfl
    | inf t => rfl
    | fin t d r =>
      have e : min (q + k) (r + k) = min q r + k := by omega
      simp only [exactSum, sc, sumUnits]
      rw [e, units_sc, units_sc]
theorem sc_prod (k l : Int) (x y : Datum) : sc (k + l) (exactProduct x y) = exactProduct (sc k x) (sc l y) := by
  cases x with
  | nan => rfl
  | inf s => cases y with
    | nan => rfl
    | inf t => rfl
    | fin t d r => by_cases z : d = 0 <;> simp only [exactProduct, sc, z, if_true, if_false]
  | fin s c q => cases y with
    | nan => rfl
    | inf t => by_cases z : c = 0 <;> simp only [exactProduct, sc, z, if_true, if_false]
    | fin t d r =>
      simp only [exactProduct, sc]
      rw [show q + r + (k + l) = q + k + (r + l) by omega]
theorem sc_negate (k : Int) (x : Datum) : sc k (negate x) = negate (sc k x) := by cases x <;> rfl
theorem sc_order (k : Int) (x y : Datum) : order (sc k x) (sc k y) = order x y := by
  cases x with
  | nan => rfl
  | inf s => cases y <;> rfl
  | fin s c q => cases y with
    | nan => rfl
    | inf t => rfl
    | fin t d r =>
      have e : min (q + k) (r + k) = min q r + k := by omega
      simp only [order, sc]
      rw [e, units_sc, units_sc]
theorem pow_cancel {c n a b : Nat} (h : c * 2 ^ a = n * 2 ^ b) : c * 2 ^ (a - b) = n * 2 ^ (b - a) := by
  rcases Nat.le_total a b with q | q
  · obtain ⟨t, rfl⟩ := Nat.exists_eq_add_of_le q
    rw [Nat.pow_add, show n * (2 ^ a * 2 ^ t) = n * 2 ^ t * 2 ^ a by ac_rfl] at h
    have := Nat.eq_of_mul_eq_mul_right (Nat.two_pow_pos a) h
    rw [show a - (a + t) = 0 by omega, show a + t - a = t by omega, this]; simp
  · obtain ⟨t, rfl⟩ := Nat.exists_eq_add_of_le q
    rw [Nat.pow_add, show c * (2 ^ b * 2 ^ t) = c * 2 ^ t * 2 ^ b by ac_rfl] at h
    have := Nat.eq_of_mul_eq_mul_right (Nat.two_pow_pos b) h
    rw [show b - (b + t) = 0 by omega, show b + t - b = t by omega, this]; simp
theorem signed_of {i : Int} {s : Bool} {c : Nat} {q : Int} (h : Whole i (.fin s c q)) : signed s i.natAbs = i := by
  by_cases hi : i = 0
  · rw [hi]; exact signed_zero s
  · rw [whole_sign h hi]
    unfold signed
    by_cases h : i < 0 <;> simp [h] <;> omega
/-- a rounded datum of the value (-1)^s * n / 2^k is that number, where n has at most 53 digits -/
theorem whole_of_round {s : Bool} {i k : Int} (hs : signed s i.natAbs = i) (hi : i.natAbs < 2 ^ 53) (h1 : k ≤ 1074) (h2 : -971 ≤ k) : Whole i (sc k (round b64 (.fin s i.natAbs (-k)))) := by
  obtain ⟨c', q', e2, e3⟩ := round_exact good_b64 s (c := i.natAbs) (q := -k) hi (by rw [qmin_b64]; omega) (by rw [show b64.qmax = 971 by decide]; omega)
  have hf := round_fits good_b64 (.fin s i.natAbs (-k))
  rw [e2] at hf
  have hq : b64.qmin ≤ q' := hf.2.1
  rw [e2]
  rw [qmin_b64] at hq
  unfold inUnits at e3
  rw [qmin_b64] at e3
  have h3 := pow_cancel e3
  show signed s (c' * 2 ^ (q' + k).toNat) = i * ((2 ^ (-(q' + k)).toNat : Nat) : Int)
  rw [show (q' + k).toNat = (q' - -1074).toNat - (-k - -1074).toNat by omega, show (-(q' + k)).toNat = (-k - -1074).toNat - (q' - -1074).toNat by omega, h3, signed_mul, hs]
theorem sc_round {i k : Int} {d : Datum} (h : Whole i (sc k d)) (hi : i.natAbs < 2 ^ 53) (h1 : k ≤ 1074) (h2 : -971 ≤ k) : Whole i (sc k (round b64 d)) := by
  cases d with
  | nan => exact h.elim
  | inf => exact h.elim
  | fin s c q =>
    have h' : Whole i (.fin s c (q + k)) := h
    have h0 := whole_natAbs h'
    have e1 : round b64 (.fin s c q) = round b64 (.fin s i.natAbs (-k)) := by
      refine roundRatio_congr (by decide) (by decide) ?_
      rw [show (q - -k).toNat = (q + k).toNat by omega, show (-k - q).toNat = (-(q + k)).toNat by omega]
      simpa using h0
    rw [e1]
    exact whole_of_round (signed_of h') hi h1 h2
theorem dadd_dy {i j k : Int} {a b : UInt64} (ha : DY i k a) (hb : DY j k b) (h : (i + j).natAbs < 2 ^ 53) (h1 : k ≤ 1074) (h2 : -971 ≤ k) : DY (i + j) k (FP.dadd a b) := by
  unfold DY at *
  rw [show val64 (FP.dadd a b) = round b64 (exactSum (val64 a) (val64 b)) from val64_dadd a b]
  exact sc_round (by rw [sc_sum]; exact whole_sum ha hb) h h1 h2
theorem dsub_dy {i j k : Int} {a b : UInt64} (ha : DY i k a) (hb : DY j k b) (h : (i - j).natAbs < 2 ^ 53) (h1 : k ≤ 1074) (h2 : -971 ≤ k) : DY (i - j) k (FP.dsub a b) := by
  unfold DY at *
  rw [show val64 (FP.dsub a b) = round b64 (exactSum (val64 a) (negate (val64 b))) from val64_dsub a b]
  exact sc_round (by rw [sc_sum, sc_negate]; exact whole_sum ha (whole_negate hb)) h h1 h2
theorem dmul_dy {i j k l : Int} {a b : UInt64} (ha : DY i k a) (hb : DY j l b) (h : (i * j).natAbs < 2 ^ 53) (h1 : k + l ≤ 1074) (h2 : -971 ≤ k + l) : DY (i * j) (k + l) (FP.dmul a b) := by
  unfold DY at *
  rw [show val64 (FP.dmul a b) = round b64 (exactProduct (val64 a) (val64 b)) from val64_dmul a b]
  exact sc_round (by rw [sc_prod]; exact whole_product ha hb) h h1 h2
theorem dcmp_dy {i j k : Int} {a b : UInt64} (ha : DY i k a) (hb : DY j k b) : FP.dcmp a b = some (compare i j) := by
  show order (val64 a) (val64 b) = _
  rw [← sc_order k]
  exact order_whole ha hb
theorem DY.ne_nan {i k : Int} {a : UInt64} (h : DY i k a) : val64 a ≠ .nan := fun q => by unfold DY at h; rw [q] at h; exact h.elim
theorem DY.nn {i k : Int} {a : UInt64} (h : DY i k a) : NoNaN64 a := val64_no.mpr h.ne_nan
theorem DY.fin {i k : Int} {a : UInt64} (h : DY i k a) : ∃ s c q, val64 a = .fin s c q ∧ Whole i (.fin s c (q + k)) := by
  unfold DY at h
  cases hv : val64 a with
  | nan => rw [hv] at h; exact h.elim
  | inf s => rw [hv] at h; exact h.elim
  | fin s c q => rw [hv] at h; exact ⟨s, c, q, rfl, h⟩
theorem dcmpZ_dy {i j k : Int} {a b : UInt64} (ha : DY i k a) (hb : DY j k b) {o : CmpOp} : cmpValue (FP.dcmp a b) o = cmpZ i j := by
  rw [dcmp_dy ha hb, compare_ite]
  unfold cmpZ
  split
  · rfl
  · split <;> rfl
/-- the magnitude in units of 2^-1074 -/
theorem DY.units {i k : Int} {a : UInt64} (h : DY i k a) (hk : k ≤ 1074) : ∃ s c q, val64 a = .fin s c q ∧ -1074 ≤ q ∧ c * 2 ^ (q + 1074).toNat = i.natAbs * 2 ^ (1074 - k).toNat ∧ signed s i.natAbs = i ∧ (i ≠ 0 → s = decide (i < 0)) ∧ (c = 0 ↔ i = 0) := by
  obtain ⟨s, c, q, e, w⟩ := h.fin
  have hf := val64_fits a
  rw [e] at hf
  have hq := hf.2.1
  rw [qmin_b64] at hq
  refine ⟨s, c, q, e, hq, ?_, signed_of w, fun hi => whole_sign w hi, whole_zero w⟩
  have h1 := whole_units w (e := -1074 + k) (by omega)
  have h2 := congrArg Int.natAbs h1
  rw [Int.natAbs_mul, Int.natAbs_mul, natAbs_signed, Int.natAbs_natCast, Int.natAbs_natCast] at h2
  unfold inUnits at h2
  rw [show (-1074 + k).toNat = 0 by omega, show (-(-1074 + k)).toNat = (1074 - k).toNat by omega, show q + k - (-1074 + k) = q + 1074 by omega, Nat.pow_zero, Nat.mul_one] at h2
  exact h2
theorem DY.zval {i k : Int} {a : UInt64} (h : DY i k a) (hk : k ≤ 1074) : zval b64 (val64 a) = i * ((2 ^ (1074 - k).toNat : Nat) : Int) := by
  obtain ⟨s, c, q, e, hq, h1, h2, -, -⟩ := h.units hk
  rw [e]
  show signed s (inUnits c q b64.qmin) = _
  unfold inUnits
  rw [qmin_b64, show q - -1074 = q + 1074 by omega, h1, signed_mul, h2]
/-- an exact quotient -/
theorem ddiv_dy {i j m : Int} {k l n : Nat} {x y : UInt64} (hx : DY i k x) (hy : DY j l y) (hj : j ≠ 0) (hm : m.natAbs < 2 ^ 53) (hk : k ≤ 1074) (hl : l ≤ 1074) (hn : n ≤ 1074) (he : i * (2 ^ (n + l) : Nat) = m * j * (2 ^ k : Nat)) : DY m n (FP.ddiv x y) := by
  obtain ⟨s, c, q, ex, hq, hx1, hx2, hx3, hx4⟩ := hx.units (by omega)
  obtain ⟨t, d, r, ey, hr, hy1, hy2, hy3, hy4⟩ := hy.units (by omega)
  have hd : d ≠ 0 := fun z => hj (hy4.mp z)
  unfold DY
  rw [show val64 (FP.ddiv x y) = quotient b64 (val64 x) (val64 y) from val64_ddiv x y, ex, ey]
  have hd' : 0 < d := Nat.pos_of_ne_zero hd
  have eq1 : quotient b64 (.fin s c q) (.fin t d r) = roundRatio b64 (s != t) c d (q - r) := by simp only [quotient, if_neg hd]
  have hA := congrArg Int.natAbs he
  rw [Int.natAbs_mul, Int.natAbs_mul, Int.natAbs_mul, Int.natAbs_natCast, Int.natAbs_natCast] at hA
  have eq2 : roundRatio b64 (s != t) c d (q - r) = round b64 (.fin (s != t) m.natAbs (-(n : Int))) := by
    refine roundRatio_congr hd' (by decide) ?_
    have hB : c * 2 ^ ((q + 1074).toNat + n) = m.natAbs * d * 2 ^ (r + 1074).toNat := by
      refine Nat.eq_of_mul_eq_mul_right (Nat.two_pow_pos (k + l)) ?_
      have e1 : (1074 - (k : Int)).toNat + k = 1074 := by omega
      have e2 : (1074 - (l : Int)).toNat + l = 1074 := by omega
      calc c * 2 ^ ((q + 1074).toNat + n) * 2 ^ (k + l) = c * 2 ^ (q + 1074).toNat * 2 ^ n * 2 ^ (k + l) := by rw [Nat.pow_add 2 _ n]; ac_rfl
        _ = i.natAbs * 2 ^ (1074 - (k : Int)).toNat * 2 ^ n * 2 ^ (k + l) := by rw [hx1]
        _ = i.natAbs * 2 ^ (n + l) * 2 ^ ((1074 - (k : Int)).toNat + k) := by simp only [Nat.pow_add]; ac_rfl
        _ = m.natAbs * j.natAbs * 2 ^ k * 2 ^ ((1074 - (l : Int)).toNat + l) := by rw [hA, e1, e2]
        _ = m.natAbs * (j.natAbs * 2 ^ (1074 - (l : Int)).toNat) * 2 ^ (k + l) := by simp only [Nat.pow_add]; ac_rfl
        _ = m.natAbs * d * 2 ^ (r + 1074).toNat * 2 ^ (k + l) := by rw [← hy1]; ac_rfl
    have hC := pow_cancel hB
    rw [show (q - r - -(n : Int)).toNat = (q + 1074).toNat + n - (r + 1074).toNat by omega, show (-(n : Int) - (q - r)).toNat = (r + 1074).toNat - ((q + 1074).toNat + n) by omega, Nat.mul_one]
    exact hC
  rw [eq1, eq2]
  refine whole_of_round ?_ hm (by omega) (by omega)
  by_cases hm0 : m = 0
  · rw [hm0]; exact signed_zero _
  have hs := congrArg Int.sign he
  rw [Int.sign_mul, Int.sign_mul, Int.sign_mul, Int.sign_eq_one_of_pos (a := ((2 ^ (n + l) : Nat) : Int)) (by have := Nat.two_pow_pos (n + l); omega), Int.sign_eq_one_of_pos (a := ((2 ^ k : Nat) : Int)) (by have := Nat.two_pow_pos k; omega), Int.mul_one, Int.mul_one] at hs
  have hi0 : i ≠ 0 := fun z => by
    rw [z, Int.zero_mul] at he
    have h3 := Int.mul_eq_zero.mp he.symm
    have h4 := Nat.two_pow_pos k
    rcases h3 with h3 | h3
    · rcases Int.mul_eq_zero.mp h3 with h5 | h5
      · exact hm0 h5
      · exact hj h5
    · omega
  have e1 := hx3 hi0
  have e2 := hy3 hj
  subst e1 e2
  have si : ∀ z : Int, z ≠ 0 → z.sign = if z < 0 then -1 else 1 := fun z hz => by
    rcases Int.lt_or_gt_of_ne hz with h | h
    · rw [if_pos h, Int.sign_eq_neg_one_of_neg h]
    · rw [if_neg (by omega), Int.sign_eq_one_of_pos h]
  rw [si i hi0, si m hm0, si j hj] at hs
  unfold signed
  by_cases a1 : i < 0 <;> by_cases a2 : j < 0 <;> by_cases a3 : m < 0 <;> simp [a1, a2, a3] at hs ⊢ <;> omega
theorem ddiv_int {i j m : Int} {x y : UInt64} (hx : DInt i x) (hy : DInt j y) (hj : j ≠ 0) (hm : m.natAbs < 2 ^ 53) (he : i = m * j) : DInt m (FP.ddiv x y) :=
  (ddiv_dy (k := 0) (l := 0) (n := 0) (DY.of_int hx) (DY.of_int hy) hj hm (by omega) (by omega) (by omega) (by rw [he]; first | done | simp)).to_int
/-- the same number, over a greater power of two -/
theorem DY.up {i k : Int} {a : UInt64} (h : DY i k a) (t : Nat) : DY (i * (2 ^ t : Nat)) (k + t) a := by
  obtain ⟨s, c, q, e, w⟩ := h.fin
  unfold DY
  rw [e]
  show signed s (c * 2 ^ (q + (k + t)).toNat) = i * (2 ^ t : Nat) * ((2 ^ (-(q + (k + t))).toNat : Nat) : Int)
  have w' : signed s (c * 2 ^ (q + k).toNat) = i * ((2 ^ (-(q + k)).toNat : Nat) : Int) := w
  have p2 : ((2 ^ (-(q + k)).toNat : Nat) : Int) ≠ 0 := by have := Nat.two_pow_pos (-(q + k)).toNat; omega
  refine Int.eq_of_mul_eq_mul_right p2 ?_
  have hx : (q + (k + t)).toNat + (-(q + k)).toNat = (q + k).toNat + t + (-(q + (k + t))).toNat := by omega
  rw [← signed_mul, Nat.mul_assoc c, ← Nat.pow_add, hx, show c * 2 ^ ((q + k).toNat + t + (-(q + (k + t))).toNat) = c * 2 ^ (q + k).toNat * (2 ^ t * 2 ^ (-(q + (k + t))).toNat) by simp only [Nat.pow_add]; ac_rfl, signed_mul, w', Int.natCast_mul]
  ac_rfl

/-- a quotient of whole numbers, the dividend not below 0, the divisor above it: how it is rounded -/
theorem ddiv_shape {i j : Int} {x y : UInt64} (hx : DInt i x) (hy : DInt j y) (hi : 0 ≤ i) (hj : 0 < j) : ∃ s c d q r, val64 (FP.ddiv x y) = roundRatio b64 s c d (q - r) ∧ 0 < d ∧ -1074 ≤ q ∧ -1074 ≤ r ∧ c * 2 ^ (q + 1074).toNat = i.natAbs * 2 ^ 1074 ∧ d * 2 ^ (r + 1074).toNat = j.natAbs * 2 ^ 1074 ∧ (i ≠ 0 → s = false) ∧ (i = 0 → c = 0) := by
  obtain ⟨s, c, q, ex, hq, hx1, hx2, hx3, hx4⟩ := (DY.of_int hx).units (by omega)
  obtain ⟨t, d, r, ey, hr, hy1, hy2, hy3, hy4⟩ := (DY.of_int hy).units (by omega)
  have hd : d ≠ 0 := fun z => by have := hy4.mp z; omega
  refine ⟨s != t, c, d, q, r, ?_, Nat.pos_of_ne_zero hd, hq, hr, hx1, hy1, fun h => ?_, fun h => hx4.mpr h⟩
  · rw [show val64 (FP.ddiv x y) = quotient b64 (val64 x) (val64 y) from val64_ddiv x y, ex, ey]; simp only [quotient, if_neg hd]
  · rw [hx3 h, hy3 (by omega)]; simp; omega
theorem units_le {E c d m q r i j : Nat} {A B : Nat} {n g f : Nat} (h1 : c * 2 ^ A = i * 2 ^ E) (h2 : d * 2 ^ B = j * 2 ^ E) (hn : n ≤ E) (hf : f + B = A + g + E) (h : i * 2 ^ n ≤ m * j) : c * 2 ^ f ≤ m * 2 ^ (E - n) * 2 ^ g * d := by
  refine Nat.le_of_mul_le_mul_right ?_ (Nat.two_pow_pos B)
  calc c * 2 ^ f * 2 ^ B = c * 2 ^ (f + B) := by rw [Nat.pow_add]; ac_rfl
    _ = c * 2 ^ A * 2 ^ g * 2 ^ E := by rw [hf]; simp only [Nat.pow_add]; ac_rfl
    _ = i * 2 ^ (n + (E - n)) * 2 ^ g * 2 ^ E := by rw [h1, show n + (E - n) = E by omega]
    _ = i * 2 ^ n * (2 ^ (E - n) * 2 ^ g * 2 ^ E) := by simp only [Nat.pow_add]; ac_rfl
    _ ≤ m * j * (2 ^ (E - n) * 2 ^ g * 2 ^ E) := Nat.mul_le_mul_right _ h
    _ = m * 2 ^ (E - n) * 2 ^ g * (j * 2 ^ E) := by ac_rfl
    _ = m * 2 ^ (E - n) * 2 ^ g * d * 2 ^ B := by rw [← h2]; ac_rfl
theorem units_ge {E c d m i j : Nat} {A B : Nat} {n g f : Nat} (h1 : c * 2 ^ A = i * 2 ^ E) (h2 : d * 2 ^ B = j * 2 ^ E) (hn : n ≤ E) (hf : f + B = A + g + E) (h : m * j ≤ i * 2 ^ n) : m * 2 ^ (E - n) * 2 ^ g * d ≤ c * 2 ^ f := by
  refine Nat.le_of_mul_le_mul_right ?_ (Nat.two_pow_pos B)
  calc m * 2 ^ (E - n) * 2 ^ g * d * 2 ^ B = m * 2 ^ (E - n) * 2 ^ g * (d * 2 ^ B) := by ac_rfl
    _ = m * j * (2 ^ (E - n) * 2 ^ g * 2 ^ E) := by rw [h2]; ac_rfl
    _ ≤ i * 2 ^ n * (2 ^ (E - n) * 2 ^ g * 2 ^ E) := Nat.mul_le_mul_right _ h
    _ = i * 2 ^ (n + (E - n)) * 2 ^ g * 2 ^ E := by simp only [Nat.pow_add]; ac_rfl
    _ = c * 2 ^ A * 2 ^ g * 2 ^ E := by rw [h1, show n + (E - n) = E by omega]
    _ = c * 2 ^ (f + B) := by rw [hf]; simp only [Nat.pow_add]; ac_rfl
    _ = c * 2 ^ f * 2 ^ B := by rw [Nat.pow_add]; ac_rfl
theorem units_one {E c d A B F G : Nat} (h : d * 2 ^ B ≤ c * 2 ^ A) (hf : F + B = A + G + E) : 2 ^ E * 2 ^ G * d ≤ c * 2 ^ F := by
  refine Nat.le_of_mul_le_mul_right ?_ (Nat.two_pow_pos B)
  calc 2 ^ E * 2 ^ G * d * 2 ^ B = d * 2 ^ B * (2 ^ G * 2 ^ E) := by ac_rfl
    _ ≤ c * 2 ^ A * (2 ^ G * 2 ^ E) := Nat.mul_le_mul_right _ h
    _ = c * 2 ^ F * 2 ^ B := by rw [Nat.mul_assoc c, Nat.mul_assoc c, ← Nat.pow_add 2 F, hf]; simp only [Nat.pow_add]; ac_rfl
theorem ddiv_le {i j m : Int} {n : Nat} {x y V : UInt64} (hx : DInt i x) (hy : DInt j y) (hV : DY m n V) (hi : 0 ≤ i) (hj : 0 < j) (hm : 0 ≤ m) (hn : n ≤ 1074) (h : i * (2 ^ n : Nat) ≤ m * j) : zval b64 (val64 (FP.ddiv x y)) ≤ zval b64 (val64 V) := by
  have zV := hV.zval (by omega)
  obtain ⟨s, c, d, q, r, e, hd, hq, hr, h1, h2, h3, h4⟩ := ddiv_shape hx hy hi hj
  rw [e, zV]
  by_cases h0 : i = 0
  · have : roundRatio b64 s c d (q - r) = .fin s 0 b64.qmin := by rw [h4 h0]; rfl
    rw [this]
    have z : zval b64 (.fin s 0 b64.qmin) = 0 := by show signed s (inUnits 0 _ _) = 0; unfold inUnits; rw [Nat.zero_mul]; exact signed_zero s
    rw [z]
    exact Int.mul_nonneg hm (Int.natCast_nonneg _)
  · rw [h3 h0]
    have hle : zmag b64 (roundRatio b64 false c d (q - r)) ≤ zmag b64 (val64 V) := by
      refine zmag_roundRatio_le good_b64 (e0 := min b64.qmin (q - r)) hd (val64_fits V) hV.ne_nan (by omega) (by omega) ?_
      have zm : zmag b64 (val64 V) = m.natAbs * 2 ^ (1074 - n) := by
        have := congrArg Int.natAbs zV
        rw [show zval b64 (val64 V) = signed (sgn (val64 V)) (zmag b64 (val64 V)) from rfl, natAbs_signed, Int.natAbs_mul, Int.natAbs_natCast, show (1074 - (n : Int)).toNat = 1074 - n by omega] at this
        exact this
      rw [zm]
      unfold inUnits
      refine units_le (q := 0) (r := 0) h1 h2 hn ?_ ?_
      · rw [qmin_b64]; omega
      · have := congrArg Int.toNat (show ((i.natAbs * 2 ^ n : Nat) : Int) = i * (2 ^ n : Nat) by rw [Int.natCast_mul]; congr 1; omega)
        have hh : ((i.natAbs * 2 ^ n : Nat) : Int) ≤ ((m.natAbs * j.natAbs : Nat) : Int) := by
          rw [Int.natCast_mul, Int.natCast_mul, show (i.natAbs : Int) = i by omega, show (m.natAbs : Int) = m by omega, show (j.natAbs : Int) = j by omega]; exact h
        omega
    have zs : ∀ D : Datum, zval b64 D = signed (sgn D) (zmag b64 D) := fun _ => rfl
    rw [zs, sgn_roundRatio]
    rw [zs] at zV
    show ((zmag b64 (roundRatio b64 false c d (q - r)) : Nat) : Int) ≤ _
    have : ((zmag b64 (val64 V) : Nat) : Int) = m * ((2 ^ (1074 - (n : Int)).toNat : Nat) : Int) := by
      have := congrArg Int.natAbs zV
      rw [natAbs_signed, Int.natAbs_mul, Int.natAbs_natCast] at this
      rw [this, Int.natCast_mul, show (m.natAbs : Int) = m by omega]
    omega
theorem ddiv_ge {i j m : Int} {n : Nat} {x y V : UInt64} (hx : DInt i x) (hy : DInt j y) (hV : DY m n V) (hi : 0 ≤ i) (hj : 0 < j) (hm : 0 ≤ m) (hn : n ≤ 1074) (h : m * j ≤ i * (2 ^ n : Nat)) : zval b64 (val64 V) ≤ zval b64 (val64 (FP.ddiv x y)) := by
  have zV := hV.zval (by omega)
  obtain ⟨s, c, d, q, r, e, hd, hq, hr, h1, h2, h3, h4⟩ := ddiv_shape hx hy hi hj
  rw [e, zV]
  by_cases h0 : i = 0
  · have : roundRatio b64 s c d (q - r) = .fin s 0 b64.qmin := by rw [h4 h0]; rfl
    rw [this]
    have z : zval b64 (.fin s 0 b64.qmin) = 0 := by show signed s (inUnits 0 _ _) = 0; unfold inUnits; rw [Nat.zero_mul]; exact signed_zero s
    rw [z]
    rw [h0, Int.zero_mul] at h
    have hm0 : m = 0 := by
      rcases Int.lt_or_eq_of_le hm with a | a
      · have := Int.mul_pos a hj; omega
      · omega
    rw [hm0]; simp
  · rw [h3 h0]
    have hle : zmag b64 (val64 V) ≤ zmag b64 (roundRatio b64 false c d (q - r)) := by
      refine zmag_roundRatio_ge good_b64 (e0 := min b64.qmin (q - r)) hd (val64_fits V) (by omega) (by omega) ?_
      have zm : zmag b64 (val64 V) = m.natAbs * 2 ^ (1074 - n) := by
        have := congrArg Int.natAbs zV
        rw [show zval b64 (val64 V) = signed (sgn (val64 V)) (zmag b64 (val64 V)) from rfl, natAbs_signed, Int.natAbs_mul, Int.natAbs_natCast, show (1074 - (n : Int)).toNat = 1074 - n by omega] at this
        exact this
      rw [zm]
      unfold inUnits
      refine units_ge h1 h2 hn ?_ ?_
      · rw [qmin_b64]; omega
      · have hh : ((m.natAbs * j.natAbs : Nat) : Int) ≤ ((i.natAbs * 2 ^ n : Nat) : Int) := by
          rw [Int.natCast_mul, Int.natCast_mul, show (i.natAbs : Int) = i by omega, show (m.natAbs : Int) = m by omega, show (j.natAbs : Int) = j by omega]; exact h
        omega
    have zs : ∀ D : Datum, zval b64 D = signed (sgn D) (zmag b64 D) := fun _ => rfl
    rw [zs, sgn_roundRatio]
    rw [zs] at zV
    show _ ≤ ((zmag b64 (roundRatio b64 false c d (q - r)) : Nat) : Int)
    have : ((zmag b64 (val64 V) : Nat) : Int) = m * ((2 ^ (1074 - (n : Int)).toNat : Nat) : Int) := by
      have := congrArg Int.natAbs zV
      rw [natAbs_signed, Int.natAbs_mul, Int.natAbs_natCast] at this
      rw [this, Int.natCast_mul, show (m.natAbs : Int) = m by omega]
    omega
theorem ddiv_nn {i j : Int} {x y : UInt64} (hx : DInt i x) (hy : DInt j y) (hj : j ≠ 0) : NoNaN64 (FP.ddiv x y) := by
  obtain ⟨s, c, q, ex, -, -, -, -, -⟩ := (DY.of_int hx).units (by omega)
  obtain ⟨t, d, r, ey, hr, hy1, hy2, hy3, hy4⟩ := (DY.of_int hy).units (by omega)
  have hd : d ≠ 0 := fun z => hj (hy4.mp z)
  refine val64_no.mpr ?_
  rw [show val64 (FP.ddiv x y) = quotient b64 (val64 x) (val64 y) from val64_ddiv x y, ex, ey]
  simp only [quotient, if_neg hd]
  exact roundRatio_ne_nan _ _ _ _ _
theorem DY.cast {i i' k k' : Int} {a : UInt64} (h : DY i k a) (hi : i = i') (hk : k = k') : DY i' k' a := by subst hi hk; exact h
theorem pow_i (t e : Nat) : ((2 ^ (t + e) : Nat) : Int) = ((2 ^ t : Nat) : Int) * ((2 ^ e : Nat) : Int) := by rw [Nat.pow_add, Int.natCast_mul]
theorem min_dy {i j k : Int} {x y : UInt64} (hx : DY i k x) (hy : DY j k y) : DY (if j < i then j else i) k (Jvm.Native.java_lang_Math.nans.pick64 false x y) := by
  have h := dcmp_dy hx hy
  rw [compare_ite] at h
  unfold Jvm.Native.java_lang_Math.nans.pick64
  rw [h]
  by_cases a : i < j
  · rw [if_pos a, if_neg (by omega)]; exact hx
  · by_cases b : i = j
    · subst b
      rw [if_neg a, if_pos rfl, if_neg a]
      simp only
      split <;> assumption
    · rw [if_neg a, if_neg b, if_pos (by omega)]; exact hy
theorem lit_dy {n : Int32} {b : UInt64} (h : Core.i2d n = b) : DInt n.toInt b := h ▸ i2d_int n
/-- a long not below 0, as a double -/
theorem l2d_pos {a : Int64} (h : 0 ≤ a.toInt) : ∃ c q, val64 (FP.l2d a) = .fin false c q ∧ -1074 ≤ q := by
  obtain ⟨c, q, e⟩ := l2d_shape a
  rw [show decide (a.toInt < 0) = false by simp; omega] at e
  have hf := val64_fits (FP.l2d a)
  rw [show FP.l2d a = Core.l2d a from rfl, e] at hf
  exact ⟨c, q, e, by have := hf.2.1; rw [qmin_b64] at this; exact this⟩
theorem zval_fin {c : Nat} {q : Int} (s : Bool) : zval b64 (.fin s c q) = signed s (c * 2 ^ (q + 1074).toNat) := by
  show signed s (inUnits c q b64.qmin) = _
  unfold inUnits
  rw [qmin_b64, show q - -1074 = q + 1074 by omega]
theorem l2d_mono {a b : Int64} (h : a.toInt ≤ b.toInt) (ha : 0 ≤ a.toInt) : zval b64 (val64 (FP.l2d a)) ≤ zval b64 (val64 (FP.l2d b)) := by
  rcases Int.lt_or_eq_of_le h with hlt | heq
  · obtain ⟨c, q, e1, hq⟩ := l2d_pos ha
    obtain ⟨c', q', e2, hq'⟩ := l2d_pos (a := b) (by omega)
    have f1 := val64_fits (FP.l2d a)
    have f2 := val64_fits (FP.l2d b)
    rw [e1] at f1
    rw [e2] at f2
    have r1 : roundRatio b64 false a.toInt.natAbs 1 0 = .fin false c q := by
      rw [← e1, show val64 (FP.l2d a) = round b64 (ofInt a.toInt) from val64_l2d a]
      unfold ofInt
      rw [show decide (a.toInt < 0) = false by simp; omega]; rfl
    have r2 : roundRatio b64 false b.toInt.natAbs 1 0 = .fin false c' q' := by
      rw [← e2, show val64 (FP.l2d b) = round b64 (ofInt b.toInt) from val64_l2d b]
      unfold ofInt
      rw [show decide (b.toInt < 0) = false by simp; omega]; rfl
    have n1 := roundRatio_nearest good_b64 (e0 := b64.qmin) (by decide) r1 f2.1 f2.2.1 (by omega) (by rw [qmin_b64]; omega)
    have n2 := roundRatio_nearest good_b64 (e0 := b64.qmin) (by decide) r2 f1.1 f1.2.1 (by omega) (by rw [qmin_b64]; omega)
    rw [e1, e2]
    show signed false (inUnits c q b64.qmin) ≤ signed false (inUnits c' q' b64.qmin)
    show ((inUnits c q b64.qmin : Nat) : Int) ≤ ((inUnits c' q' b64.qmin : Nat) : Int)
    have hs : inUnits a.toInt.natAbs 0 b64.qmin < inUnits b.toInt.natAbs 0 b64.qmin := by
      unfold inUnits
      exact Nat.mul_lt_mul_of_pos_right (by omega) (Nat.two_pow_pos _)
    unfold distance at n1 n2
    generalize inUnits a.toInt.natAbs 0 b64.qmin = A at *
    generalize inUnits b.toInt.natAbs 0 b64.qmin = B at *
    generalize inUnits c q b64.qmin = X at *
    generalize inUnits c' q' b64.qmin = Y at *
    omega
  · rw [show a = b from Int64.toInt_inj.mp heq]; exact Int.le_refl _
theorem quo_shape {x y : UInt64} {c d : Nat} {q r : Int} (hx : val64 x = .fin false c q) (hy : val64 y = .fin false d r) (hd : d ≠ 0) : val64 (FP.ddiv x y) = roundRatio b64 false c d (q - r) := by
  rw [show val64 (FP.ddiv x y) = quotient b64 (val64 x) (val64 y) from val64_ddiv x y, hx, hy]; simp only [quotient, if_neg hd]; rfl
theorem quo_nn {x y : UInt64} {c d : Nat} {q r : Int} (hx : val64 x = .fin false c q) (hy : val64 y = .fin false d r) (hd : d ≠ 0) : NoNaN64 (FP.ddiv x y) := by
  refine val64_no.mpr ?_; rw [quo_shape hx hy hd]; exact roundRatio_ne_nan _ _ _ _ _
theorem quo_ge0 {x y : UInt64} {c d : Nat} {q r : Int} (hx : val64 x = .fin false c q) (hy : val64 y = .fin false d r) (hd : d ≠ 0) : 0 ≤ zval b64 (val64 (FP.ddiv x y)) := by
  rw [quo_shape hx hy hd]
  show 0 ≤ signed (sgn _) _
  rw [sgn_roundRatio]
  exact Int.natCast_nonneg _
theorem quo_ge1 {x y : UInt64} {c d : Nat} {q r : Int} (hx : val64 x = .fin false c q) (hy : val64 y = .fin false d r) (hd : d ≠ 0) (hq : -1074 ≤ q) (hr : -1074 ≤ r) (h : d * 2 ^ (r + 1074).toNat ≤ c * 2 ^ (q + 1074).toNat) : zval b64 (val64 FP.dconst1) ≤ zval b64 (val64 (FP.ddiv x y)) := by
  have z1 : zval b64 (val64 FP.dconst1) = 1 * ((2 ^ (1074 - (0 : Int)).toNat : Nat) : Int) := (DY.of_int dint_c1).zval (by omega)
  have m1 : zmag b64 (val64 FP.dconst1) = 2 ^ 1074 := by
    have := congrArg Int.natAbs z1
    rw [show zval b64 (val64 FP.dconst1) = signed (sgn (val64 FP.dconst1)) (zmag b64 (val64 FP.dconst1)) from rfl, natAbs_signed, Int.one_mul, Int.natAbs_natCast] at this
    exact this
  rw [quo_shape hx hy hd]
  have hle : zmag b64 (val64 FP.dconst1) ≤ zmag b64 (roundRatio b64 false c d (q - r)) := by
    refine zmag_roundRatio_ge good_b64 (e0 := min b64.qmin (q - r)) (Nat.pos_of_ne_zero hd) (val64_fits _) (by omega) (by omega) ?_
    rw [m1]
    unfold inUnits
    have hf : (q - r - min b64.qmin (q - r)).toNat + (r + 1074).toNat = (q + 1074).toNat + (b64.qmin - min b64.qmin (q - r)).toNat + 1074 := by rw [qmin_b64]; omega
    exact units_one h hf
  show signed (sgn (val64 FP.dconst1)) (zmag b64 (val64 FP.dconst1)) ≤ signed (sgn _) _
  rw [sgn_roundRatio, show sgn (val64 FP.dconst1) = false by decide +kernel]
  show ((zmag b64 (val64 FP.dconst1) : Nat) : Int) ≤ ((zmag b64 (roundRatio b64 false c d (q - r)) : Nat) : Int)
  omega
/-- the quotient of a whole number by one above 0 is no greater, in magnitude, than m / 2^n, where the numbers are so -/
theorem ddiv_abs {i j m : Int} {n : Nat} {x y V : UInt64} (hx : DInt i x) (hy : DInt j y) (hV : DY m n V) (hj : 0 < j) (hm : 0 ≤ m) (hn : n ≤ 1074) (h : (i.natAbs : Int) * (2 ^ n : Nat) ≤ m * j) : zmag b64 (val64 (FP.ddiv x y)) ≤ zmag b64 (val64 V) ∧ val64 (FP.ddiv x y) ≠ .nan ∧ (0 < i → sgn (val64 (FP.ddiv x y)) = false) ∧ (i = 0 → zmag b64 (val64 (FP.ddiv x y)) = 0) := by
  have zV := hV.zval (by omega)
  obtain ⟨s, c, q, ex, hq, h1, hx2, hx3, hx4⟩ := (DY.of_int hx).units (by omega)
  obtain ⟨t, d, r, ey, hr, h2, hy2, hy3, hy4⟩ := (DY.of_int hy).units (by omega)
  have hd : d ≠ 0 := fun z => by have := hy4.mp z; omega
  have e : val64 (FP.ddiv x y) = roundRatio b64 (s != t) c d (q - r) := by rw [show val64 (FP.ddiv x y) = quotient b64 (val64 x) (val64 y) from val64_ddiv x y, ex, ey]; simp only [quotient, if_neg hd]
  rw [e]
  refine ⟨?_, roundRatio_ne_nan _ _ _ _ _, fun hi => ?_, fun hi => ?_⟩
  · refine zmag_roundRatio_le good_b64 (e0 := min b64.qmin (q - r)) (Nat.pos_of_ne_zero hd) (val64_fits V) hV.ne_nan (by omega) (by omega) ?_
    have zm : zmag b64 (val64 V) = m.natAbs * 2 ^ (1074 - n) := by
      have := congrArg Int.natAbs zV
      rw [show zval b64 (val64 V) = signed (sgn (val64 V)) (zmag b64 (val64 V)) from rfl, natAbs_signed, Int.natAbs_mul, Int.natAbs_natCast, show (1074 - (n : Int)).toNat = 1074 - n by omega] at this
      exact this
    rw [zm]
    unfold inUnits
    refine units_le (q := 0) (r := 0) h1 h2 hn ?_ ?_
    · rw [qmin_b64]; omega
    · have hh : ((i.natAbs * 2 ^ n : Nat) : Int) ≤ ((m.natAbs * j.natAbs : Nat) : Int) := by
        rw [Int.natCast_mul, Int.natCast_mul, show (m.natAbs : Int) = m by omega, show (j.natAbs : Int) = j by omega]; exact h
      omega
  · rw [sgn_roundRatio, hx3 (by omega), hy3 (by omega)]; simp; omega
  · rw [hx4.mpr hi]; show inUnits 0 _ _ = 0; unfold inUnits; exact Nat.zero_mul _
theorem fin_of_zmag {x V : UInt64} (hn : val64 x ≠ .nan) (hV : ∃ i k, DY i k V) (h : zmag b64 (val64 x) ≤ zmag b64 (val64 V)) : Fin64 x := by
  obtain ⟨i, k, hV⟩ := hV
  refine fin64_core.mpr ?_
  obtain ⟨s, c, q, e, -⟩ := hV.fin
  have h2 := zmag_lt_top good_b64 (e ▸ val64_fits V)
  rw [e] at h
  cases hx : val64 x with
  | nan => exact absurd hx hn
  | inf s' => rw [hx] at h; simp only [zmag] at h h2; omega
  | fin s' c' q' => exact ⟨s', c', q', hx⟩
theorem infin_no {v : UInt64} (h : Fin64 v) : ¬ ((0 : Int32) < cmpValue (FP.dcmp (v &&& 0x7fffffffffffffff) 9218868437227405311) .l) := by
  rcases (le_max (fin64_core.mp h).notNaN).mpr (fin64_core.mp h) with q | q
  · rw [show FP.dcmp (v &&& 0x7fffffffffffffff) 9218868437227405311 = some .lt from q]; decide
  · rw [show FP.dcmp (v &&& 0x7fffffffffffffff) 9218868437227405311 = some .eq from q]; decide
theorem cmpZv {x y : UInt64} (hx : NoNaN64 x) (hy : NoNaN64 y) (o : CmpOp) : cmpValue (FP.dcmp x y) o = cmpZ (zval b64 (val64 x)) (zval b64 (val64 y)) := by
  rw [show FP.dcmp x y = _ from dcmp_zval (val64_no.mp hx) (val64_no.mp hy), compare_ite]
  unfold cmpZ
  split
  · rfl
  · split <;> rfl
/-- a product of two doubles that are not below 0 is not below 0 -/
theorem dmul_ge0 {x y : UInt64} {c d : Nat} {q r : Int} (hx : val64 x = .fin false c q) (hy : val64 y = .fin false d r) : 0 ≤ zval b64 (val64 (FP.dmul x y)) := by
  rw [show val64 (FP.dmul x y) = round b64 (exactProduct (val64 x) (val64 y)) from val64_dmul x y, hx, hy]
  show 0 ≤ signed (sgn (roundRatio b64 (false != false) (c * d) 1 (q + r))) _
  rw [sgn_roundRatio]
  exact Int.natCast_nonneg _
theorem dneg_dy {i k : Int} {a : UInt64} (h : DY i k a) : DY (-i) k (FP.dneg a) := by
  have hn : Core.dIsNaN a = false := (notNaN_iff a).mpr h.ne_nan
  rw [Jvm.FP.dneg_core hn]
  unfold DY at *
  rw [show val64 (Core.dneg a) = negate (val64 a) from val64_dneg a, sc_negate]
  exact whole_negate h
theorem DY.fin64 {i k : Int} {a : UInt64} (h : DY i k a) : Fin64 a := by
  obtain ⟨s, c, q, e, -⟩ := h.fin
  exact fin64_core.mpr ⟨s, c, q, e⟩
end Fp
end Jvm.OwnW
namespace Jvm.Pilot.@@N@@
open Jvm Jvm.ClassFile Sem Op Lib Jvm.Free Jvm.Stand Jvm.LawKit Jvm.RoadKit Jvm.OwnW Bundle Jvm.Pilot.@@N@@.Jvm.D
open Jvm.FP.Core (DInt i2d_int l2d_int dadd_int dsub_int dmul_int dneg_int zval b64 val64 dcmp_zval compare_ite i2d_ne_zero DInt_ne_nan dcmp_int dcmp_l2d)

theorem own_ch (x : Int32) : ¬ ((255 : Int32) < (x &&& (255 : Int32)).toUInt32.toUInt16.toUInt32.toInt32) := by
  rw [i2c_mask]
  have h := c_and x 255 (by decide)
  rw [Int32.lt_iff_toInt_lt]
  have h4 : (255 : Int32).toInt = 255 := by decide
  omega
theorem own_m12 : DInt (-12) 13846317054350589952 := lit_dy (n := -12) (by decide +kernel)
theorem own_k (p : Int32) : ∃ k : Nat, k ≤ 31 ∧ (p &&& (31 : Int32)).toBitVec.toNat % 64 = k := by
  have h1 := c_and p 31 (by decide)
  have h4 : (31 : Int32).toInt = 31 := by decide
  refine ⟨_, ?_, rfl⟩
  have h5 : (p &&& 31).toInt = ((p &&& 31).toBitVec.toNat : Int) := by
    have := BitVec.toInt_eq_toNat_cond (p &&& 31).toBitVec
    have h6 : (p &&& 31).toInt = (p &&& 31).toBitVec.toInt := rfl
    rw [h6, this]
    split
    · rfl
    · rename_i q
      rw [h6, this, if_neg q] at h1
      have := (p &&& 31).toBitVec.isLt
      omega
  omega
theorem own_m0 (p0 : Int64) (p1 : Int32) : Jvm.Free.Fl.NoNaN64 (FP.ddiv (FP.l2d (((-12 : Int64) <<< ((p1 &&& (31 : Int32)) &&& 0x3f).toInt64 + (1 : Int64)) + (p0 &&& (4503599627370495 : Int64)))) (FP.l2d ((1 : Int64) <<< ((p1 &&& (31 : Int32)) &&& 0x3f).toInt64))) ∧ Jvm.Free.Fl.Fin64 (FP.ddiv (FP.l2d (((-12 : Int64) <<< ((p1 &&& (31 : Int32)) &&& 0x3f).toInt64 + (1 : Int64)) + (p0 &&& (4503599627370495 : Int64)))) (FP.l2d ((1 : Int64) <<< ((p1 &&& (31 : Int32)) &&& 0x3f).toInt64))) ∧ (0 : Int32) < cmpValue (FP.dcmp (FP.ddiv (FP.l2d (((-12 : Int64) <<< ((p1 &&& (31 : Int32)) &&& 0x3f).toInt64 + (1 : Int64)) + (p0 &&& (4503599627370495 : Int64)))) (FP.l2d ((1 : Int64) <<< ((p1 &&& (31 : Int32)) &&& 0x3f).toInt64))) 13846317054350589952) .l := by
  obtain ⟨k, hk, hk'⟩ := own_k p1
  have hP : ((2 ^ k : Nat) : Int) ≤ 2147483648 := by
    have := Nat.pow_le_pow_right (n := 2) (by decide) hk
    omega
  have hP0 : (0 : Int) < ((2 ^ k : Nat) : Int) := by have := Nat.two_pow_pos k; omega
  have a1 := c_lshl (-12) (p1 &&& 31) k hk'
  have a2 := rng64 ((-12 : Int64) <<< ((p1 &&& (31 : Int32)) &&& 0x3f).toInt64)
  have a3 := c_lshl 1 (p1 &&& 31) k hk'
  have a4 := rng64 ((1 : Int64) <<< ((p1 &&& (31 : Int32)) &&& 0x3f).toInt64)
  have e12 : (-12 : Int64).toInt = -12 := by decide
  have e1 : (1 : Int64).toInt = 1 := by decide
  rw [e12] at a1
  rw [e1] at a3
  have b1 : ((-12 : Int64) <<< ((p1 &&& (31 : Int32)) &&& 0x3f).toInt64).toInt = -12 * ((2 ^ k : Nat) : Int) := by omega
  have b2 : ((1 : Int64) <<< ((p1 &&& (31 : Int32)) &&& 0x3f).toInt64).toInt = ((2 ^ k : Nat) : Int) := by omega
  generalize hA : (-12 : Int64) <<< ((p1 &&& (31 : Int32)) &&& 0x3f).toInt64 = A at *
  generalize hB : (1 : Int64) <<< ((p1 &&& (31 : Int32)) &&& 0x3f).toInt64 = B at *
  have c0 := c_maskL p0 4503599627370495 52 (by decide) (by decide)
  have e52 : ((2 ^ 52 : Nat) : Int) = 4503599627370496 := by decide
  rw [e52] at c0
  have e1 : (1 : Int64).toInt = 1 := by decide
  have c1 := c_ladd A 1
  have c2 := rng64 (A + 1)
  have c3 := c_ladd (A + 1) (p0 &&& 4503599627370495)
  have c4 := rng64 (A + 1 + (p0 &&& 4503599627370495))
  generalize hM : A + 1 + (p0 &&& 4503599627370495) = M at *
  have x1 : (A + 1).toInt = A.toInt + 1 := by omega
  have x2 : M.toInt = (A + 1).toInt + (p0 &&& 4503599627370495).toInt := by omega
  have m1 : -12 * ((2 ^ k : Nat) : Int) < M.toInt ∧ M.toInt.natAbs < 9007199254740992 := by omega
  have dM : DInt M.toInt (FP.l2d M) := l2d_int (by omega)
  have dB : DInt ((2 ^ k : Nat) : Int) (FP.l2d B) := by rw [← b2]; exact l2d_int (by omega)
  have q := ddiv_dy (k := 0) (l := 0) (n := k) (m := M.toInt) (DY.of_int dM) (DY.of_int dB) (by omega) (by omega) (by omega) (by omega) (by omega) (by rw [Nat.add_zero]; simp)
  refine ⟨q.nn, q.fin64, ?_⟩
  have t := ((DY.of_int own_m12).up k).cast (k' := ((k : Nat) : Int)) rfl (by omega)
  rw [dcmpZ_dy q t, cmpZ_gt]
  exact m1.1
theorem own_t : DY 1 (-744) (7957860541563666432 : UInt64) := by
  have h1 : DY 1 (-62) 4886405595696988160 := by
    unfold DY
    rw [show val64 4886405595696988160 = .fin false 4503599627370496 10 by decide +kernel]
    show Jvm.FP.Core.signed false (4503599627370496 * 2 ^ (10 + -62 : Int).toNat) = 1 * ((2 ^ (-(10 + -62 : Int)).toNat : Nat) : Int)
    decide
  have h2 := dmul_dy h1 h1 (by decide) (by omega) (by omega)
  have h3 := dmul_dy h2 h2 (by decide) (by omega) (by omega)
  have h4 := dmul_dy h3 h3 (by decide) (by omega) (by omega)
  have h5 := dmul_dy h4 h3 (by decide) (by omega) (by omega)
  have e : FP.dmul (FP.dmul (FP.dmul (FP.dmul 4886405595696988160 4886405595696988160) (FP.dmul 4886405595696988160 4886405595696988160)) (FP.dmul (FP.dmul 4886405595696988160 4886405595696988160) (FP.dmul 4886405595696988160 4886405595696988160))) (FP.dmul (FP.dmul 4886405595696988160 4886405595696988160) (FP.dmul 4886405595696988160 4886405595696988160)) = (7957860541563666432 : UInt64) := by decide +kernel
  rw [e] at h5
  exact h5
theorem own_md1 (p0 : Int64) : Jvm.Free.Fl.NoNaN64 (FP.dmul (FP.l2d ((p0.toUInt64 >>> ((1 : Int32) &&& 0x3f).toInt64.toUInt64).toInt64)) (7957860541563666432 : UInt64)) ∧ Jvm.Free.Fl.Fin64 (FP.dmul (FP.l2d ((p0.toUInt64 >>> ((1 : Int32) &&& 0x3f).toInt64.toUInt64).toInt64)) (7957860541563666432 : UInt64)) ∧ (0 : Int32) < cmpValue (FP.dcmp (FP.dmul (FP.l2d ((p0.toUInt64 >>> ((1 : Int32) &&& 0x3f).toInt64.toUInt64).toInt64)) (7957860541563666432 : UInt64)) 13846317054350589952) .l := by
  have hx : 0 ≤ ((p0.toUInt64 >>> ((1 : Int32) &&& 0x3f).toInt64.toUInt64).toInt64).toInt := by
    have := c_lushr p0 1 1 (by decide) (by decide)
    rw [this]
    omega
  generalize ((p0.toUInt64 >>> ((1 : Int32) &&& 0x3f).toInt64.toUInt64).toInt64) = A at *
  have n := Jvm.Free.Fl.dmul_out (Jvm.Free.Fl.l2d_fin A) own_t.fin64
  obtain ⟨c, r, e1, -⟩ := l2d_pos hx
  have e2 : val64 (7957860541563666432 : UInt64) = .fin false 4503599627370496 692 := by decide +kernel
  have h0 := dmul_ge0 e1 e2
  refine ⟨n, ?_, ?_⟩
  · rw [Jvm.Free.Fl.fin64_iff]
    have := Jvm.FP.Core.dmul_mag (a := FP.l2d A) (b := (7957860541563666432 : UInt64)) (Ka := 1088) (Kb := 1768) (Jvm.FP.Core.l2d_mag _) (by decide +kernel) (by omega) (by omega)
    have e : (2 : Nat) ^ 52 = 4503599627370496 := by decide
    have e' : (2 : Nat) ^ 63 = 9223372036854775808 := by decide
    rw [e, e'] at this
    exact Nat.lt_of_lt_of_le this (by decide)
  · rw [cmpZv n (nnD own_m12), cmpZ_gt, (DY.of_int own_m12).zval (by omega)]
    have hp : (0 : Int) < ((2 ^ (1074 - (0 : Int)).toNat : Nat) : Int) := by have := Nat.two_pow_pos (1074 - (0 : Int)).toNat; omega
    omega
theorem own_md2 (p0 : Int64) : Jvm.Free.Fl.NoNaN64 (FP.ddiv (FP.l2d (p0 &&& (255 : Int64))) (4629700416936869888 : UInt64)) ∧ Jvm.Free.Fl.Fin64 (FP.dneg (FP.ddiv (FP.l2d (p0 &&& (255 : Int64))) (4629700416936869888 : UInt64))) ∧ (0 : Int32) < cmpValue (FP.dcmp (FP.dneg (FP.ddiv (FP.l2d (p0 &&& (255 : Int64))) (4629700416936869888 : UInt64))) 13846317054350589952) .l := by
  have c0 := c_maskL p0 255 8 (by decide) (by decide)
  have e8 : ((2 ^ 8 : Nat) : Int) = 256 := by decide
  rw [e8] at c0
  generalize p0 &&& 255 = A at *
  have dA : DInt A.toInt (FP.l2d A) := l2d_int (by omega)
  have d32 : DInt 32 4629700416936869888 := lit_dy (n := 32) (by decide +kernel)
  have q := ddiv_dy (k := 0) (l := 0) (n := 5) (m := A.toInt) (DY.of_int dA) (DY.of_int d32) (by decide) (by omega) (by omega) (by omega) (by omega) (by show A.toInt * 32 = A.toInt * 32 * 1; omega)
  have q2 := dneg_dy q
  refine ⟨q.nn, q2.fin64, ?_⟩
  have t := ((DY.of_int own_m12).up 5).cast (k' := ((5 : Nat) : Int)) rfl (by omega)
  rw [dcmpZ_dy q2 t, cmpZ_gt]
  show -12 * 32 < -A.toInt
  omega
theorem tw0 {a0 : Array Value} {Z : State} (hw : ∀ d ∈ tables_1, d.before a0 Z = true) : (Jvm.Cond.constant "com/example/late_harvest/lateharvest/pricing/LoanRequireMonthlyFactorPinLaw" (7 : Nat) (2147483647 : Int32)).before a0 Z = true := hw _ (List.mem_of_getElem? (i := 0) rfl)
theorem tw1 {a0 : Array Value} {Z : State} (hw : ∀ d ∈ tables_1, d.before a0 Z = true) : (Jvm.Cond.constantDouble "com/example/late_harvest/lateharvest/pricing/LoanRequireMonthlyFactorPinLaw" (12 : Nat) (4886405595696988160 : UInt64)).before a0 Z = true := hw _ (List.mem_of_getElem? (i := 1) rfl)
theorem tw2 {a0 : Array Value} {Z : State} (hw : ∀ d ∈ tables_1, d.before a0 Z = true) : (Jvm.Cond.methodLink "com/example/late_harvest/lateharvest/pricing/LoanRequireMonthlyFactorPinLaw" (18 : Nat) ({ cls := "java/lang/String", name := "valueOf", desc := "(C)Ljava/lang/String;" } : Jvm.MethodName)).before a0 Z = true := hw _ (List.mem_of_getElem? (i := 2) rfl)
theorem tw3 {a0 : Array Value} {Z : State} (hw : ∀ d ∈ tables_1, d.before a0 Z = true) : (Jvm.Cond.static ({ cls := "java/lang/String", name := "valueOf", desc := "(C)Ljava/lang/String;" } : Jvm.MethodName)).before a0 Z = true := hw _ (List.mem_of_getElem? (i := 3) rfl)
theorem tw4 {a0 : Array Value} {Z : State} (hw : ∀ d ∈ tables_1, d.before a0 Z = true) : (Jvm.Cond.initialized "java/lang/String").before a0 Z = true := hw _ (List.mem_of_getElem? (i := 4) rfl)
theorem tw5 {a0 : Array Value} {Z : State} (hw : ∀ d ∈ tables_1, d.before a0 Z = true) : (Jvm.Cond.code ({ cls := "java/lang/String", name := "valueOf", desc := "(C)Ljava/lang/String;" } : Jvm.MethodName) jdk_42_method_139_code (1 : Nat) (Option.some (Jvm.ClassFile.FieldType.object "java/lang/String"))).before a0 Z = true := hw _ (List.mem_of_getElem? (i := 5) rfl)
theorem tw6 {a0 : Array Value} {Z : State} (hw : ∀ d ∈ tables_1, d.before a0 Z = true) : (Jvm.Cond.fieldLink "java/lang/String" (38 : Nat) "java/lang/String" "COMPACT_STRINGS" "Z").before a0 Z = true := hw _ (List.mem_of_getElem? (i := 6) rfl)
theorem tw7 {a0 : Array Value} {Z : State} (hw : ∀ d ∈ tables_1, d.before a0 Z = true) : (Jvm.Cond.methodLink "java/lang/String" (1015 : Nat) ({ cls := "java/lang/StringLatin1", name := "canEncode", desc := "(C)Z" } : Jvm.MethodName)).before a0 Z = true := hw _ (List.mem_of_getElem? (i := 7) rfl)
theorem tw8 {a0 : Array Value} {Z : State} (hw : ∀ d ∈ tables_1, d.before a0 Z = true) : (Jvm.Cond.static ({ cls := "java/lang/StringLatin1", name := "canEncode", desc := "(C)Z" } : Jvm.MethodName)).before a0 Z = true := hw _ (List.mem_of_getElem? (i := 8) rfl)
theorem tw9 {a0 : Array Value} {Z : State} (hw : ∀ d ∈ tables_1, d.before a0 Z = true) : (Jvm.Cond.initialized "java/lang/StringLatin1").before a0 Z = true := hw _ (List.mem_of_getElem? (i := 9) rfl)
theorem tw10 {a0 : Array Value} {Z : State} (hw : ∀ d ∈ tables_1, d.before a0 Z = true) : (Jvm.Cond.code ({ cls := "java/lang/StringLatin1", name := "canEncode", desc := "(C)Z" } : Jvm.MethodName) jdk_43_method_3_code (1 : Nat) (Option.some Jvm.ClassFile.FieldType.boolean)).before a0 Z = true := hw _ (List.mem_of_getElem? (i := 10) rfl)
theorem tw11 {a0 : Array Value} {Z : State} (hw : ∀ d ∈ tables_1, d.before a0 Z = true) : (Jvm.Cond.classLink "java/lang/String" (10 : Nat) "java/lang/String").before a0 Z = true := hw _ (List.mem_of_getElem? (i := 11) rfl)
theorem tw12 {a0 : Array Value} {Z : State} (hw : ∀ d ∈ tables_1, d.before a0 Z = true) : (Jvm.Cond.instantiable "java/lang/String" (4 : Nat)).before a0 Z = true := hw _ (List.mem_of_getElem? (i := 12) rfl)
theorem tw13 {a0 : Array Value} {Z : State} (hw : ∀ d ∈ tables_1, d.before a0 Z = true) : (Jvm.Cond.methodLink "java/lang/String" (1018 : Nat) ({ cls := "java/lang/StringLatin1", name := "toBytes", desc := "(C)[B" } : Jvm.MethodName)).before a0 Z = true := hw _ (List.mem_of_getElem? (i := 13) rfl)
theorem tw14 {a0 : Array Value} {Z : State} (hw : ∀ d ∈ tables_1, d.before a0 Z = true) : (Jvm.Cond.static ({ cls := "java/lang/StringLatin1", name := "toBytes", desc := "(C)[B" } : Jvm.MethodName)).before a0 Z = true := hw _ (List.mem_of_getElem? (i := 14) rfl)
theorem tw15 {a0 : Array Value} {Z : State} (hw : ∀ d ∈ tables_1, d.before a0 Z = true) : (Jvm.Cond.code ({ cls := "java/lang/StringLatin1", name := "toBytes", desc := "(C)[B" } : Jvm.MethodName) jdk_43_method_46_code (1 : Nat) (Option.some (Jvm.ClassFile.FieldType.array Jvm.ClassFile.FieldType.byte))).before a0 Z = true := hw _ (List.mem_of_getElem? (i := 15) rfl)
theorem tw16 {a0 : Array Value} {Z : State} (hw : ∀ d ∈ tables_1, d.before a0 Z = true) : (Jvm.Cond.arrayClass Jvm.ClassFile.FieldType.byte).before a0 Z = true := hw _ (List.mem_of_getElem? (i := 16) rfl)
theorem tw17 {a0 : Array Value} {Z : State} (hw : ∀ d ∈ tables_1, d.before a0 Z = true) : (Jvm.Cond.methodLink "java/lang/String" (209 : Nat) ({ cls := "java/lang/String", name := "<init>", desc := "([BB)V" } : Jvm.MethodName)).before a0 Z = true := hw _ (List.mem_of_getElem? (i := 17) rfl)
theorem tw18 {a0 : Array Value} {Z : State} (hw : ∀ d ∈ tables_1, d.before a0 Z = true) : (Jvm.Cond.instanceMethod ({ cls := "java/lang/String", name := "<init>", desc := "([BB)V" } : Jvm.MethodName)).before a0 Z = true := hw _ (List.mem_of_getElem? (i := 18) rfl)
theorem tw20 {a0 : Array Value} {Z : State} (hw : ∀ d ∈ tables_1, d.before a0 Z = true) : (Jvm.Cond.code ({ cls := "java/lang/String", name := "<init>", desc := "([BB)V" } : Jvm.MethodName) jdk_42_method_151_code (3 : Nat) (Option.none : Option Jvm.ClassFile.FieldType)).before a0 Z = true := hw _ (List.mem_of_getElem? (i := 20) rfl)
theorem tw21 {a0 : Array Value} {Z : State} (hw : ∀ d ∈ tables_1, d.before a0 Z = true) : (Jvm.Cond.methodLink "java/lang/String" (1 : Nat) ({ cls := "java/lang/Object", name := "<init>", desc := "()V" } : Jvm.MethodName)).before a0 Z = true := hw _ (List.mem_of_getElem? (i := 21) rfl)
theorem tw22 {a0 : Array Value} {Z : State} (hw : ∀ d ∈ tables_1, d.before a0 Z = true) : (Jvm.Cond.instanceMethod ({ cls := "java/lang/Object", name := "<init>", desc := "()V" } : Jvm.MethodName)).before a0 Z = true := hw _ (List.mem_of_getElem? (i := 22) rfl)
theorem tw23 {a0 : Array Value} {Z : State} (hw : ∀ d ∈ tables_1, d.before a0 Z = true) : (Jvm.Cond.code ({ cls := "java/lang/Object", name := "<init>", desc := "()V" } : Jvm.MethodName) object_method_1_code (1 : Nat) (Option.none : Option Jvm.ClassFile.FieldType)).before a0 Z = true := hw _ (List.mem_of_getElem? (i := 23) rfl)
theorem tw24 {a0 : Array Value} {Z : State} (hw : ∀ d ∈ tables_1, d.before a0 Z = true) : (Jvm.Cond.fieldLink "java/lang/String" (9 : Nat) "java/lang/String" "value" "[B").before a0 Z = true := hw _ (List.mem_of_getElem? (i := 24) rfl)
theorem tw25 {a0 : Array Value} {Z : State} (hw : ∀ d ∈ tables_1, d.before a0 Z = true) : (Jvm.Cond.laysFinal "java/lang/String" "java/lang/String" "value" "[B").before a0 Z = true := hw _ (List.mem_of_getElem? (i := 25) rfl)
theorem tw26 {a0 : Array Value} {Z : State} (hw : ∀ d ∈ tables_1, d.before a0 Z = true) : (Jvm.Cond.fieldLink "java/lang/String" (15 : Nat) "java/lang/String" "coder" "B").before a0 Z = true := hw _ (List.mem_of_getElem? (i := 26) rfl)
theorem tw27 {a0 : Array Value} {Z : State} (hw : ∀ d ∈ tables_1, d.before a0 Z = true) : (Jvm.Cond.laysFinal "java/lang/String" "java/lang/String" "coder" "B").before a0 Z = true := hw _ (List.mem_of_getElem? (i := 27) rfl)
theorem tw28 {a0 : Array Value} {Z : State} (hw : ∀ d ∈ tables_1, d.before a0 Z = true) : (Jvm.Cond.methodLink "com/example/late_harvest/lateharvest/pricing/LoanRequireMonthlyFactorPinLaw" (24 : Nat) ({ cls := "com/example/late_harvest/lateharvest/pricing/Loan", name := "requireMonthlyFactor", desc := "(Ljava/lang/String;D)V" } : Jvm.MethodName)).before a0 Z = true := hw _ (List.mem_of_getElem? (i := 28) rfl)
theorem tw29 {a0 : Array Value} {Z : State} (hw : ∀ d ∈ tables_1, d.before a0 Z = true) : (Jvm.Cond.static ({ cls := "com/example/late_harvest/lateharvest/pricing/Loan", name := "requireMonthlyFactor", desc := "(Ljava/lang/String;D)V" } : Jvm.MethodName)).before a0 Z = true := hw _ (List.mem_of_getElem? (i := 29) rfl)
theorem tw30 {a0 : Array Value} {Z : State} (hw : ∀ d ∈ tables_1, d.before a0 Z = true) : (Jvm.Cond.initialized "com/example/late_harvest/lateharvest/pricing/Loan").before a0 Z = true := hw _ (List.mem_of_getElem? (i := 30) rfl)
theorem tw31 {a0 : Array Value} {Z : State} (hw : ∀ d ∈ tables_1, d.before a0 Z = true) : (Jvm.Cond.code ({ cls := "com/example/late_harvest/lateharvest/pricing/Loan", name := "requireMonthlyFactor", desc := "(Ljava/lang/String;D)V" } : Jvm.MethodName) prog_14_method_5_code (3 : Nat) (Option.none : Option Jvm.ClassFile.FieldType)).before a0 Z = true := hw _ (List.mem_of_getElem? (i := 31) rfl)
theorem tw32 {a0 : Array Value} {Z : State} (hw : ∀ d ∈ tables_1, d.before a0 Z = true) : (Jvm.Cond.constantDouble "com/example/late_harvest/lateharvest/pricing/Loan" (53 : Nat) (13846317054350589952 : UInt64)).before a0 Z = true := hw _ (List.mem_of_getElem? (i := 32) rfl)
theorem tw33 {a0 : Array Value} {Z : State} (hw : ∀ d ∈ tables_1, d.before a0 Z = true) : (Jvm.Cond.methodLink "com/example/late_harvest/lateharvest/pricing/Loan" (55 : Nat) ({ cls := "java/lang/Double", name := "isInfinite", desc := "(D)Z" } : Jvm.MethodName)).before a0 Z = true := hw _ (List.mem_of_getElem? (i := 33) rfl)
theorem tw34 {a0 : Array Value} {Z : State} (hw : ∀ d ∈ tables_1, d.before a0 Z = true) : (Jvm.Cond.static ({ cls := "java/lang/Double", name := "isInfinite", desc := "(D)Z" } : Jvm.MethodName)).before a0 Z = true := hw _ (List.mem_of_getElem? (i := 34) rfl)
theorem tw35 {a0 : Array Value} {Z : State} (hw : ∀ d ∈ tables_1, d.before a0 Z = true) : (Jvm.Cond.initialized "java/lang/Double").before a0 Z = true := hw _ (List.mem_of_getElem? (i := 35) rfl)
theorem tw36 {a0 : Array Value} {Z : State} (hw : ∀ d ∈ tables_1, d.before a0 Z = true) : (Jvm.Cond.code ({ cls := "java/lang/Double", name := "isInfinite", desc := "(D)Z" } : Jvm.MethodName) jdk_117_method_7_code (2 : Nat) (Option.some Jvm.ClassFile.FieldType.boolean)).before a0 Z = true := hw _ (List.mem_of_getElem? (i := 36) rfl)
theorem tw37 {a0 : Array Value} {Z : State} (hw : ∀ d ∈ tables_1, d.before a0 Z = true) : (Jvm.Cond.methodLink "java/lang/Double" (38 : Nat) ({ cls := "java/lang/Math", name := "abs", desc := "(D)D" } : Jvm.MethodName)).before a0 Z = true := hw _ (List.mem_of_getElem? (i := 37) rfl)
theorem tw38 {a0 : Array Value} {Z : State} (hw : ∀ d ∈ tables_1, d.before a0 Z = true) : (Jvm.Cond.static ({ cls := "java/lang/Math", name := "abs", desc := "(D)D" } : Jvm.MethodName)).before a0 Z = true := hw _ (List.mem_of_getElem? (i := 38) rfl)
theorem tw39 {a0 : Array Value} {Z : State} (hw : ∀ d ∈ tables_1, d.before a0 Z = true) : (Jvm.Cond.initialized "java/lang/Math").before a0 Z = true := hw _ (List.mem_of_getElem? (i := 39) rfl)
theorem tw40 {a0 : Array Value} {Z : State} (hw : ∀ d ∈ tables_1, d.before a0 Z = true) : (Jvm.Cond.code ({ cls := "java/lang/Math", name := "abs", desc := "(D)D" } : Jvm.MethodName) jdk_29_method_64_code (2 : Nat) (Option.some Jvm.ClassFile.FieldType.double)).before a0 Z = true := hw _ (List.mem_of_getElem? (i := 40) rfl)
theorem tw41 {a0 : Array Value} {Z : State} (hw : ∀ d ∈ tables_1, d.before a0 Z = true) : (Jvm.Cond.constantDouble "java/lang/Double" (111 : Nat) (9218868437227405311 : UInt64)).before a0 Z = true := hw _ (List.mem_of_getElem? (i := 41) rfl)
theorem tw42 {a0 : Array Value} {Z : State} (hw : ∀ d ∈ tables_1, d.before a0 Z = true) : (Jvm.Cond.constantLong "com/example/late_harvest/lateharvest/pricing/LoanRequireMonthlyFactorPinLaw" (8 : Nat) (-12 : Int64)).before a0 Z = true := hw _ (List.mem_of_getElem? (i := 42) rfl)
theorem tw43 {a0 : Array Value} {Z : State} (hw : ∀ d ∈ tables_1, d.before a0 Z = true) : (Jvm.Cond.constantLong "com/example/late_harvest/lateharvest/pricing/LoanRequireMonthlyFactorPinLaw" (10 : Nat) (4503599627370495 : Int64)).before a0 Z = true := hw _ (List.mem_of_getElem? (i := 43) rfl)
theorem tw44 {a0 : Array Value} {Z : State} (hw : ∀ d ∈ tables_1, d.before a0 Z = true) : (Jvm.Cond.constantLong "com/example/late_harvest/lateharvest/pricing/LoanRequireMonthlyFactorPinLaw" (14 : Nat) (255 : Int64)).before a0 Z = true := hw _ (List.mem_of_getElem? (i := 44) rfl)
theorem tw45 {a0 : Array Value} {Z : State} (hw : ∀ d ∈ tables_1, d.before a0 Z = true) : (Jvm.Cond.constantDouble "com/example/late_harvest/lateharvest/pricing/LoanRequireMonthlyFactorPinLaw" (16 : Nat) (4629700416936869888 : UInt64)).before a0 Z = true := hw _ (List.mem_of_getElem? (i := 45) rfl)
theorem pn_0 : plainName "java/lang/StringLatin1" = true := by first | (simp [plainName, overriddenIn]; done) | decide +kernel
theorem pn_1 : plainFor (⟨"java/lang/String", "<init>", "([BB)V"⟩ : MethodName) = true := by first | exact plainFor_of_name (by first | (simp [plainName, overriddenIn]; done) | decide +kernel) | decide +kernel
theorem pd_0 : parseMethodDescriptor "(C)Z" = some ⟨[.char], some .boolean⟩ := by decide +kernel
theorem pd_1 : parseMethodDescriptor "(C)[B" = some ⟨[.char], some (.array .byte)⟩ := by decide +kernel
theorem pd_2 : parseMethodDescriptor "([BB)V" = some ⟨[(.array .byte), .byte], none⟩ := by decide +kernel
theorem pn_2 : plainFor (⟨"java/lang/String", "valueOf", "(C)Ljava/lang/String;"⟩ : MethodName) = true := by first | exact plainFor_of_name (by first | (simp [plainName, overriddenIn]; done) | decide +kernel) | decide +kernel
theorem pd_3 : parseMethodDescriptor "(D)D" = some ⟨[.double], some .double⟩ := by decide +kernel
theorem pn_3 : plainFor (⟨"java/lang/Double", "isInfinite", "(D)Z"⟩ : MethodName) = true := by first | exact plainFor_of_name (by first | (simp [plainName, overriddenIn]; done) | decide +kernel) | decide +kernel
theorem pd_4 : parseMethodDescriptor "(D)Z" = some ⟨[.double], some .boolean⟩ := by decide +kernel
theorem pn_4 : plainName "com/example/late_harvest/lateharvest/pricing/Loan" = true := by first | (simp [plainName, overriddenIn]; done) | decide +kernel
theorem pd_5 : parseMethodDescriptor "(C)Ljava/lang/String;" = some ⟨[.char], some (.object "java/lang/String")⟩ := by decide +kernel
theorem pd_6 : parseMethodDescriptor "(Ljava/lang/String;D)V" = some ⟨[(.object "java/lang/String"), .double], none⟩ := by decide +kernel
theorem pn_5 : plainName "com/example/late_harvest/lateharvest/pricing/LoanRequireMonthlyFactorPinLaw" = true := by first | (simp [plainName, overriddenIn]; done) | decide +kernel
theorem ef_canEncode (m : MethodId) (x0 : Int32) : entryFrame m #[(.int x0)] 1 = mkF m 0 #[.val (.int x0)] [] := by first | (simp [entryFrame, mkF, argsToLocals, Value.category]; done) | rfl
theorem d_canEncode_0 : decode jdk_43_method_3_code 0 = .ok (.iload_n 0, 1) := by decide +kernel
theorem d_canEncode_1 : decode jdk_43_method_3_code 1 = .ok (.sipush 255, 3) := by decide +kernel
theorem d_canEncode_4 : decode jdk_43_method_3_code 4 = .ok (.if_icmp .gt 7, 3) := by decide +kernel
theorem d_canEncode_7 : decode jdk_43_method_3_code 7 = .ok (.iconst 1, 1) := by decide +kernel
theorem d_canEncode_8 : decode jdk_43_method_3_code 8 = .ok (.goto 4, 3) := by decide +kernel
theorem d_canEncode_12 : decode jdk_43_method_3_code 12 = .ok (.ireturn, 1) := by decide +kernel
set_option maxRecDepth 65536 in
set_option maxHeartbeats 4000000 in
theorem m_canEncode (l : Launch) (Z : State) (a0 : Array Value) (hw : ∀ d ∈ tables_1, d.before a0 Z = true) (hs : ∀ d ∈ jdkStatics_1, d.before a0 Z = true) (p0 : Int32) (h0 : Heap) (hp : ¬ ((255 : Int32) < p0)) :
    OMet l (⟨"java/lang/StringLatin1", "canEncode", "(C)Z"⟩ : MethodName) jdk_43_method_3_code 1 (Option.some FieldType.boolean) [] ({ frames := 0, cells := 0, slots := 0, locals := 0 } : Room) Z h0 [] #[(.int p0)] (fun v h' => v = some (.int 1) ∧ h0 = h') := by
  refine OMet.of (own := "java/lang/StringLatin1") (nm := "canEncode") (plainFor_of_name pn_0) rfl rfl ?_
  intro p e s m below meth c T0 P0 hby hml hret hnm
  refine Done.step (T' := T0) (g' := (mkF m 0 #[.val (.int p0)] [])) (fun t kk => castTop (ef_canEncode m p0) kk) ?_
  refine Done.step (T' := T0) (g' := (mkF m 12 #[.val (.int p0)] [(.int (1 : Int32))])) (fun t kk => ?_) ?_
  · show Steps p.tables e below (T0.setTop (mkF m 0 #[.val (.int p0)] [])) t
    refine XS.iloadN P0.here P0.x rfl (hb hby d_canEncode_0) rfl ?_
    show Steps p.tables e below (T0.setTop (mkF m 1 #[.val (.int p0)] [(.int p0)])) t
    refine XS.sipush P0.here P0.x rfl (hb hby d_canEncode_1) ?_
    show Steps p.tables e below (T0.setTop (mkF m 4 #[.val (.int p0)] [(.int (255 : Int32)), (.int p0)])) t
    refine XS.icmpNo P0.here P0.x rfl (hb hby d_canEncode_4) rfl (iiW_gt_f hp) ?_
    show Steps p.tables e below (T0.setTop (mkF m 7 #[.val (.int p0)] [])) t
    refine XS.iconst P0.here P0.x rfl (hb hby d_canEncode_7) ?_
    show Steps p.tables e below (T0.setTop (mkF m 8 #[.val (.int p0)] [(.int (1 : Int32))])) t
    refine XS.goto P0.here P0.x rfl (pc0 := 8) (pc' := 12) rfl (hb hby d_canEncode_8) (by decide) (by decide) ?_
    exact kk
  show Done _ _ _ _ _ _ _ _ _ _ _ _ _ _ _ T0 (mkF m 12 #[.val (.int p0)] [(.int (1 : Int32))])
  exact wRet P0 (t := .boolean) hret (narrow_01 (Or.inr rfl)) (Or.inl ⟨rfl, Or.inr (Or.inl rfl), _, rfl⟩) (hb hby d_canEncode_12) ⟨rfl, rfl⟩
theorem ef_toBytes (m : MethodId) (x0 : Int32) : entryFrame m #[(.int x0)] 1 = mkF m 0 #[.val (.int x0)] [] := by first | (simp [entryFrame, mkF, argsToLocals, Value.category]; done) | rfl
theorem d_toBytes_0 : decode jdk_43_method_46_code 0 = .ok (.iconst 1, 1) := by decide +kernel
theorem d_toBytes_1 : decode jdk_43_method_46_code 1 = .ok (.newarray .byte, 2) := by decide +kernel
theorem d_toBytes_3 : decode jdk_43_method_46_code 3 = .ok (.dup, 1) := by decide +kernel
theorem d_toBytes_4 : decode jdk_43_method_46_code 4 = .ok (.iconst 0, 1) := by decide +kernel
theorem d_toBytes_5 : decode jdk_43_method_46_code 5 = .ok (.iload_n 0, 1) := by decide +kernel
theorem d_toBytes_6 : decode jdk_43_method_46_code 6 = .ok (.i2b, 1) := by decide +kernel
theorem d_toBytes_7 : decode jdk_43_method_46_code 7 = .ok (.bastore, 1) := by decide +kernel
theorem d_toBytes_8 : decode jdk_43_method_46_code 8 = .ok (.areturn, 1) := by decide +kernel
set_option maxRecDepth 65536 in
set_option maxHeartbeats 4000000 in
theorem m_toBytes (l : Launch) (Z : State) (a0 : Array Value) (hw : ∀ d ∈ tables_1, d.before a0 Z = true) (hs : ∀ d ∈ jdkStatics_1, d.before a0 Z = true) (p0 : Int32) (h0 : Heap)  :
    OMet l (⟨"java/lang/StringLatin1", "toBytes", "(C)[B"⟩ : MethodName) jdk_43_method_46_code 1 (Option.some (FieldType.array FieldType.byte)) [] ({ frames := 0, cells := 1, slots := 1, locals := 0 } : Room) Z h0 [] #[(.int p0)] (fun v h' => ∃ b, v = some (.ref b) ∧ h0.size ≤ b ∧ b < h'.size ∧ Ar Z h' b .byte 1 (fun i => .int (oupd (fun _ => (0 : Int32)) 0 (nar .byte p0.toInt8.toInt32) i))) := by
  refine OMet.of (own := "java/lang/StringLatin1") (nm := "toBytes") (plainFor_of_name pn_0) rfl rfl ?_
  intro p e s m below meth c T0 P0 hby hml hret hnm
  refine Done.step (T' := T0) (g' := (mkF m 0 #[.val (.int p0)] [])) (fun t kk => castTop (ef_toBytes m p0) kk) ?_
  refine Done.step (T' := T0) (g' := (mkF m 1 #[.val (.int p0)] [(.int (1 : Int32))])) (fun t kk => ?_) ?_
  · show Steps p.tables e below (T0.setTop (mkF m 0 #[.val (.int p0)] [])) t
    refine XS.iconst P0.here P0.x rfl (hb hby d_toBytes_0) ?_
    exact kk
  show Done _ _ _ _ _ _ _ _ _ _ _ _ _ _ _ T0 (mkF m 1 #[.val (.int p0)] [(.int (1 : Int32))])
  refine wNewA (aty := .byte) P0 (tw16 hw) (hb hby d_toBytes_1) rfl (N := 1) rfl (cap := 1) (Nat.le_refl _) (by decide) (by decide) (by decide) (ad := "[B") (by decide) (ty := .byte) (dv := (.int (0 : Int32))) rfl rfl (k' := 1) (n' := 1) rfl rfl (fun T1 h3 b4 g5 lt6 P2 E7 A8 X9 => ?_)
  have ge_b4 : h0.size ≤ b4 := by have := P0.ge; omega
  show Done _ _ _ _ _ _ _ _ _ _ _ _ _ _ _ T1 (mkF m 3 #[.val (.int p0)] [(.ref b4)])
  refine Done.step (T' := T1) (g' := (mkF m 7 #[.val (.int p0)] [(.int p0.toInt8.toInt32), (.int (0 : Int32)), (.ref b4), (.ref b4)])) (fun t kk => ?_) ?_
  · show Steps p.tables e below (T1.setTop (mkF m 3 #[.val (.int p0)] [(.ref b4)])) t
    refine XS.dup P2.here P2.x rfl (hb hby d_toBytes_3) rfl rfl ?_
    show Steps p.tables e below (T1.setTop (mkF m 4 #[.val (.int p0)] [(.ref b4), (.ref b4)])) t
    refine XS.iconst P2.here P2.x rfl (hb hby d_toBytes_4) ?_
    show Steps p.tables e below (T1.setTop (mkF m 5 #[.val (.int p0)] [(.int (0 : Int32)), (.ref b4), (.ref b4)])) t
    refine XS.iloadN P2.here P2.x rfl (hb hby d_toBytes_5) rfl ?_
    show Steps p.tables e below (T1.setTop (mkF m 6 #[.val (.int p0)] [(.int p0), (.int (0 : Int32)), (.ref b4), (.ref b4)])) t
    refine XS.i2b P2.here P2.x rfl (hb hby d_toBytes_6) rfl ?_
    exact kk
  show Done _ _ _ _ _ _ _ _ _ _ _ _ _ _ _ T1 (mkF m 7 #[.val (.int p0)] [(.int p0.toInt8.toInt32), (.int (0 : Int32)), (.ref b4), (.ref b4)])
  refine wBastore P2 (f := (fun _ => (0 : Int32))) A8 (j := (0 : Int32)) (i := 0) rfl (by decide) (Or.inr ge_b4) (hb hby d_toBytes_7) rfl (fun T10 h12 P11 W13 A14 => ?_)
  have szh12 : h12.size = h3.size := W13.size
  show Done _ _ _ _ _ _ _ _ _ _ _ _ _ _ _ T10 (mkF m 8 #[.val (.int p0)] [(.ref b4)])
  show Done _ _ _ _ _ _ _ _ _ _ _ _ _ _ _ T10 (mkF m 8 #[.val (.int p0)] [(.ref b4)])
  exact wRetA P11 hret rfl rfl (hb hby d_toBytes_8) ⟨b4, rfl, ge_b4, A14.lt, A14⟩
theorem ef_strInit (m : MethodId) (x0 : Addr) (x1 : Addr) (x2 : Int32) : entryFrame m #[(.ref x0), (.ref x1), (.int x2)] 3 = mkF m 0 #[.val (.ref x0), .val (.ref x1), .val (.int x2)] [] := by first | (simp [entryFrame, mkF, argsToLocals, Value.category]; done) | rfl
theorem d_strInit_0 : decode jdk_42_method_151_code 0 = .ok (.aload_n 0, 1) := by decide +kernel
theorem d_strInit_1 : decode jdk_42_method_151_code 1 = .ok (.invokespecial 1, 3) := by decide +kernel
theorem d_strInit_4 : decode jdk_42_method_151_code 4 = .ok (.aload_n 0, 1) := by decide +kernel
theorem d_strInit_5 : decode jdk_42_method_151_code 5 = .ok (.aload_n 1, 1) := by decide +kernel
theorem d_strInit_6 : decode jdk_42_method_151_code 6 = .ok (.putfield 9, 3) := by decide +kernel
theorem d_strInit_9 : decode jdk_42_method_151_code 9 = .ok (.aload_n 0, 1) := by decide +kernel
theorem d_strInit_10 : decode jdk_42_method_151_code 10 = .ok (.iload_n 2, 1) := by decide +kernel
theorem d_strInit_11 : decode jdk_42_method_151_code 11 = .ok (.putfield 15, 3) := by decide +kernel
theorem d_strInit_14 : decode jdk_42_method_151_code 14 = .ok (.return_, 1) := by decide +kernel
set_option maxRecDepth 65536 in
set_option maxHeartbeats 4000000 in
theorem m_strInit (l : Launch) (Z : State) (a0 : Array Value) (hw : ∀ d ∈ tables_1, d.before a0 Z = true) (hs : ∀ d ∈ jdkStatics_1, d.before a0 Z = true) (a : Addr) (p0 : Addr) (p1 : Int32) (h0 : Heap) (E0 : Exa Z h0 a "java/lang/String") (F_value : Fld Z h0 a "java/lang/String" "value" "[B" .null) (F_coder : Fld Z h0 a "java/lang/String" "coder" "B" (.int (0 : Int32))) :
    OMet l (⟨"java/lang/String", "<init>", "([BB)V"⟩ : MethodName) jdk_42_method_151_code 3 (Option.none : Option FieldType) [] ({ frames := 1, cells := 0, slots := 0, locals := 12 } : Room) Z h0 [a] #[(.ref a), (.ref p0), (.int p1)] (fun v h' => v = none ∧ Fld Z h' a "java/lang/String" "value" "[B" (.ref p0) ∧ Fld Z h' a "java/lang/String" "coder" "B" (.int p1.toInt8.toInt32)) := by
  refine OMet.of (own := "java/lang/String") (nm := "<init>") pn_1 rfl rfl ?_
  intro p e s m below meth c T0 P0 hby hml hret hnm
  refine Done.step (T' := T0) (g' := (mkF m 0 #[.val (.ref a), .val (.ref p0), .val (.int p1)] [])) (fun t kk => castTop (ef_strInit m a p0 p1) kk) ?_
  refine Done.step (T' := T0) (g' := (mkF m 1 #[.val (.ref a), .val (.ref p0), .val (.int p1)] [(.ref a)])) (fun t kk => ?_) ?_
  · show Steps p.tables e below (T0.setTop (mkF m 0 #[.val (.ref a), .val (.ref p0), .val (.int p1)] [])) t
    refine XS.aloadN P0.here P0.x rfl (hb hby d_strInit_0) rfl rfl ?_
    exact kk
  show Done _ _ _ _ _ _ _ _ _ _ _ _ _ _ _ T0 (mkF m 1 #[.val (.ref a), .val (.ref p0), .val (.int p1)] [(.ref a)])
  refine wInit P0 (tw21 hw) (tw22 hw) (tw23 hw) (by rw [hml]; rfl) (hb hby d_strInit_1) (by decide) (W := 0) (Nat.le_of_eq rfl) (by decide) rfl (fun T1 P2 => ?_)
  show Done _ _ _ _ _ _ _ _ _ _ _ _ _ _ _ T1 (mkF m 4 #[.val (.ref a), .val (.ref p0), .val (.int p1)] [])
  refine Done.step (T' := T1) (g' := (mkF m 6 #[.val (.ref a), .val (.ref p0), .val (.int p1)] [(.ref p0), (.ref a)])) (fun t kk => ?_) ?_
  · show Steps p.tables e below (T1.setTop (mkF m 4 #[.val (.ref a), .val (.ref p0), .val (.int p1)] [])) t
    refine XS.aloadN P2.here P2.x rfl (hb hby d_strInit_4) rfl rfl ?_
    show Steps p.tables e below (T1.setTop (mkF m 5 #[.val (.ref a), .val (.ref p0), .val (.int p1)] [(.ref a)])) t
    refine XS.aloadN P2.here P2.x rfl (hb hby d_strInit_5) rfl rfl ?_
    exact kk
  show Done _ _ _ _ _ _ _ _ _ _ _ _ _ _ _ T1 (mkF m 6 #[.val (.ref a), .val (.ref p0), .val (.int p1)] [(.ref p0), (.ref a)])
  refine wPut P2 (host := "") (Or.inl (tw24 hw)) Via.refl F_value E0 (Or.inr ⟨(tw25 hw), rfl, hnm⟩) (tw12 hw) (ty := (.array .byte)) (by decide) rfl rfl (Or.inl (by simp)) (hb hby d_strInit_6) rfl (fun T3 h5 P4 W6 F7 => ?_)
  have szh5 : h5.size = h0.size := W6.size
  show Done _ _ _ _ _ _ _ _ _ _ _ _ _ _ _ T3 (mkF m 9 #[.val (.ref a), .val (.ref p0), .val (.int p1)] [])
  refine Done.step (T' := T3) (g' := (mkF m 11 #[.val (.ref a), .val (.ref p0), .val (.int p1)] [(.int p1), (.ref a)])) (fun t kk => ?_) ?_
  · show Steps p.tables e below (T3.setTop (mkF m 9 #[.val (.ref a), .val (.ref p0), .val (.int p1)] [])) t
    refine XS.aloadN P4.here P4.x rfl (hb hby d_strInit_9) rfl rfl ?_
    show Steps p.tables e below (T3.setTop (mkF m 10 #[.val (.ref a), .val (.ref p0), .val (.int p1)] [(.ref a)])) t
    refine XS.iloadN P4.here P4.x rfl (hb hby d_strInit_10) rfl ?_
    exact kk
  have f8 := (F_coder.other W6 (Or.inr (slot_ne (Or.inr (tw27 hw)) (Or.inr (tw25 hw)) (by decide) (t := .byte) (t' := (.array .byte)) (by decide) (by decide))))
  have f9 := (E0.wr W6)
  show Done _ _ _ _ _ _ _ _ _ _ _ _ _ _ _ T3 (mkF m 11 #[.val (.ref a), .val (.ref p0), .val (.int p1)] [(.int p1), (.ref a)])
  refine wPutN P4 (tw26 hw) Via.refl f8 f9 (Or.inr ⟨(tw27 hw), rfl, hnm⟩) (tw12 hw) (ty := .byte) (by decide) (x' := p1.toInt8.toInt32) rfl (fits_nar_byte _) (Or.inl (by simp)) (hb hby d_strInit_11) rfl (fun T10 h12 P11 W13 F14 => ?_)
  have szh12 : h12.size = h5.size := W13.size
  show Done _ _ _ _ _ _ _ _ _ _ _ _ _ _ _ T10 (mkF m 14 #[.val (.ref a), .val (.ref p0), .val (.int p1)] [])
  show Done _ _ _ _ _ _ _ _ _ _ _ _ _ _ _ T10 (mkF m 14 #[.val (.ref a), .val (.ref p0), .val (.int p1)] [])
  have f15 := (F7.other W13 (Or.inr (slot_ne (Or.inr (tw25 hw)) (Or.inr (tw27 hw)) (by decide) (t := (.array .byte)) (t' := .byte) (by decide) (by decide))))
  exact wRetV P11 hret (hb hby d_strInit_14) ⟨rfl, f15, F14⟩
theorem ef_valueOf (m : MethodId) (x0 : Int32) : entryFrame m #[(.int x0)] 1 = mkF m 0 #[.val (.int x0)] [] := by first | (simp [entryFrame, mkF, argsToLocals, Value.category]; done) | rfl
theorem d_valueOf_0 : decode jdk_42_method_139_code 0 = .ok (.getstatic 38, 3) := by decide +kernel
theorem d_valueOf_3 : decode jdk_42_method_139_code 3 = .ok (.ifCond .eq 23, 3) := by decide +kernel
theorem d_valueOf_6 : decode jdk_42_method_139_code 6 = .ok (.iload_n 0, 1) := by decide +kernel
theorem d_valueOf_7 : decode jdk_42_method_139_code 7 = .ok (.invokestatic 1015, 3) := by decide +kernel
theorem d_valueOf_10 : decode jdk_42_method_139_code 10 = .ok (.ifCond .eq 16, 3) := by decide +kernel
theorem d_valueOf_13 : decode jdk_42_method_139_code 13 = .ok (.new 10, 3) := by decide +kernel
theorem d_valueOf_16 : decode jdk_42_method_139_code 16 = .ok (.dup, 1) := by decide +kernel
theorem d_valueOf_17 : decode jdk_42_method_139_code 17 = .ok (.iload_n 0, 1) := by decide +kernel
theorem d_valueOf_18 : decode jdk_42_method_139_code 18 = .ok (.invokestatic 1018, 3) := by decide +kernel
theorem d_valueOf_21 : decode jdk_42_method_139_code 21 = .ok (.iconst 0, 1) := by decide +kernel
theorem d_valueOf_22 : decode jdk_42_method_139_code 22 = .ok (.invokespecial 209, 3) := by decide +kernel
theorem d_valueOf_25 : decode jdk_42_method_139_code 25 = .ok (.areturn, 1) := by decide +kernel
set_option maxRecDepth 65536 in
set_option maxHeartbeats 4000000 in
theorem m_valueOf (l : Launch) (Z : State) (a0 : Array Value) (hw : ∀ d ∈ tables_1, d.before a0 Z = true) (hs : ∀ d ∈ jdkStatics_1, d.before a0 Z = true) (p0 : Int32) (cs : Int32) (h0 : Heap) (S0 : Sta Z h0 "java/lang/String" "COMPACT_STRINGS" "Z" (.int cs)) (hcs : ¬ (cs = (0 : Int32))) (hp : ¬ ((255 : Int32) < p0)) :
    OMet l (⟨"java/lang/String", "valueOf", "(C)Ljava/lang/String;"⟩ : MethodName) jdk_42_method_139_code 1 (Option.some (FieldType.object "java/lang/String")) [] ({ frames := 2, cells := 2, slots := 5, locals := 27 } : Room) Z h0 [] #[(.int p0)] (fun v h' => ∃ b d, v = some (.ref b) ∧ h0.size ≤ b ∧ b < h'.size ∧ h0.size ≤ d ∧ d < h'.size ∧ b ≠ d ∧ Exa Z h' b "java/lang/String" ∧ Fld Z h' b "java/lang/String" "value" "[B" (.ref d) ∧ Fld Z h' b "java/lang/String" "coder" "B" (.int 0) ∧ Ar Z h' d .byte 1 (fun i => .int (oupd (fun _ => (0 : Int32)) 0 (nar .byte p0.toInt8.toInt32) i))) := by
  refine OMet.of (own := "java/lang/String") (nm := "valueOf") pn_2 rfl rfl ?_
  intro p e s m below meth c T0 P0 hby hml hret hnm
  refine Done.step (T' := T0) (g' := (mkF m 0 #[.val (.int p0)] [])) (fun t kk => castTop (ef_valueOf m p0) kk) ?_
  show Done _ _ _ _ _ _ _ _ _ _ _ _ _ _ _ T0 (mkF m 0 #[.val (.int p0)] [])
  refine wGetS P0 (host := "") (Or.inl (tw6 hw)) Via.refl S0 (hb hby d_valueOf_0) rfl (fun T1 P2 => ?_)
  show Done _ _ _ _ _ _ _ _ _ _ _ _ _ _ _ T1 (mkF m 3 #[.val (.int p0)] [(.int cs)])
  refine Done.step (T' := T1) (g' := (mkF m 7 #[.val (.int p0)] [(.int p0)])) (fun t kk => ?_) ?_
  · show Steps p.tables e below (T1.setTop (mkF m 3 #[.val (.int p0)] [(.int cs)])) t
    refine XS.ifNo P2.here P2.x rfl (hb hby d_valueOf_3) rfl (i0W_eq_f hcs) ?_
    show Steps p.tables e below (T1.setTop (mkF m 6 #[.val (.int p0)] [])) t
    refine XS.iloadN P2.here P2.x rfl (hb hby d_valueOf_6) rfl ?_
    exact kk
  show Done _ _ _ _ _ _ _ _ _ _ _ _ _ _ _ T1 (mkF m 7 #[.val (.int p0)] [(.int p0)])
  refine wCallS P2 (m_canEncode l Z a0 hw hs p0 h0 hp) (tw7 hw) (tw8 hw) (tw9 hw) (tw10 hw) (by decide) (by rw [hml]; rfl) (lenOf pd_0 rfl) (argsL := [(.int p0)]) (rest := []) rfl rfl (W := 0) (Nat.le_of_eq rfl) (by decide) (by decide) (by decide) (by decide) (by simp) (hb hby d_valueOf_7) rfl (k' := 0) (n' := 0) rfl rfl ?_
  rintro T3 _ _ P4 - ⟨rfl, rfl⟩
  show Done _ _ _ _ _ _ _ _ _ _ _ _ _ _ _ T3 (mkF m 10 #[.val (.int p0)] [(.int (1 : Int32))])
  refine Done.step (T' := T3) (g' := (mkF m 13 #[.val (.int p0)] [])) (fun t kk => ?_) ?_
  · show Steps p.tables e below (T3.setTop (mkF m 10 #[.val (.int p0)] [(.int (1 : Int32))])) t
    refine XS.ifNo P4.here P4.x rfl (hb hby d_valueOf_10) rfl (i0W_eq_f (by decide)) ?_
    exact kk
  show Done _ _ _ _ _ _ _ _ _ _ _ _ _ _ _ T3 (mkF m 13 #[.val (.int p0)] [])
  refine wNew P4 (tw11 hw) (tw12 hw) (tw4 hw) (hb hby d_valueOf_13) rfl (by decide) (by decide) (k' := 1) (n' := 4) rfl rfl (fun T5 h7 b8 g9 lt10 P6 E11 X12 D13 => ?_)
  have ge_b8 : h0.size ≤ b8 := by have := P4.ge; omega
  have F14 : Fld Z h7 b8 "java/lang/String" "value" "[B" .null := D13 (Or.inr (tw25 hw)) (ty := (.array .byte)) (by decide)
  have F15 : Fld Z h7 b8 "java/lang/String" "coder" "B" (.int (0 : Int32)) := D13 (Or.inr (tw27 hw)) (ty := .byte) (by decide)
  show Done _ _ _ _ _ _ _ _ _ _ _ _ _ _ _ T5 (mkF m 16 #[.val (.int p0)] [(.ref b8)])
  refine Done.step (T' := T5) (g' := (mkF m 18 #[.val (.int p0)] [(.int p0), (.ref b8), (.ref b8)])) (fun t kk => ?_) ?_
  · show Steps p.tables e below (T5.setTop (mkF m 16 #[.val (.int p0)] [(.ref b8)])) t
    refine XS.dup P6.here P6.x rfl (hb hby d_valueOf_16) rfl rfl ?_
    show Steps p.tables e below (T5.setTop (mkF m 17 #[.val (.int p0)] [(.ref b8), (.ref b8)])) t
    refine XS.iloadN P6.here P6.x rfl (hb hby d_valueOf_17) rfl ?_
    exact kk
  show Done _ _ _ _ _ _ _ _ _ _ _ _ _ _ _ T5 (mkF m 18 #[.val (.int p0)] [(.int p0), (.ref b8), (.ref b8)])
  refine wCallS P6 (m_toBytes l Z a0 hw hs p0 h7) (tw13 hw) (tw14 hw) (tw9 hw) (tw15 hw) (by decide) (by rw [hml]; rfl) (lenOf pd_1 rfl) (argsL := [(.int p0)]) (rest := [(.ref b8), (.ref b8)]) rfl rfl (W := 2) (Nat.le_of_eq rfl) (by decide) (by decide) (by decide) (by decide) (by simp) (hb hby d_valueOf_18) rfl (k' := 2) (n' := 5) rfl rfl ?_
  rintro T16 h22 _ P17 K23 ⟨b18, rfl, ge19, lt20, A21⟩
  have szh22 : h7.size ≤ h22.size := K23.1
  show Done _ _ _ _ _ _ _ _ _ _ _ _ _ _ _ T16 (mkF m 21 #[.val (.int p0)] [(.ref b18), (.ref b8), (.ref b8)])
  refine Done.step (T' := T16) (g' := (mkF m 22 #[.val (.int p0)] [(.int (0 : Int32)), (.ref b18), (.ref b8), (.ref b8)])) (fun t kk => ?_) ?_
  · show Steps p.tables e below (T16.setTop (mkF m 21 #[.val (.int p0)] [(.ref b18), (.ref b8), (.ref b8)])) t
    refine XS.iconst P17.here P17.x rfl (hb hby d_valueOf_21) ?_
    exact kk
  have f28 := (X12.keep K23)
  have f29 := (F14.keep K23 nin0)
  have f30 := (F15.keep K23 nin0)
  show Done _ _ _ _ _ _ _ _ _ _ _ _ _ _ _ T16 (mkF m 22 #[.val (.int p0)] [(.int (0 : Int32)), (.ref b18), (.ref b8), (.ref b8)])
  refine wCallI P17 (m_strInit l Z a0 hw hs b8 b18 (0 : Int32) h22 f28  f29 f30) rfl (tw17 hw) (tw18 hw) (tw4 hw) (tw20 hw) (by decide) (a := b8) (by rw [hml]; rfl) (lenOf pd_2 rfl) (argsL := [(.ref b18), (.int (0 : Int32))]) (rest := [(.ref b8)]) rfl rfl (W := 1) (Nat.le_of_eq rfl) (by decide) (by decide) (by decide) (by decide) (allS (Or.inr ge_b8) all0) (hb hby d_valueOf_22) rfl (k' := 2) (n' := 5) rfl rfl ?_
  rintro T24 h31 _ P25 K32 ⟨rfl, F26, F27⟩
  have szh31 : h22.size ≤ h31.size := K32.1
  show Done _ _ _ _ _ _ _ _ _ _ _ _ _ _ _ T24 (mkF m 25 #[.val (.int p0)] [(.ref b8)])
  show Done _ _ _ _ _ _ _ _ _ _ _ _ _ _ _ T24 (mkF m 25 #[.val (.int p0)] [(.ref b8)])
  have f33 := (f28.keep K32)
  have f34 := (A21.keep K32 (ninS (by first | assumption | exact Ne.symm (by assumption) | exact adr_ne (by omega) | omega) nin0))
  exact wRetA P25 hret rfl rfl (hb hby d_valueOf_25) ⟨b8, b18, rfl, ge_b8, f33.lt, (by have := ge_b8; omega), f34.lt, (by first | exact adr_ne (by omega) | omega), f33, F26, F27, f34⟩
theorem ef_isInfinite (m : MethodId) (x0 : UInt64) : entryFrame m #[(.double x0)] 2 = mkF m 0 #[.val (.double x0), .second] [] := by first | (simp [entryFrame, mkF, argsToLocals, Value.category]; done) | rfl
theorem d_isInfinite_0 : decode jdk_117_method_7_code 0 = .ok (.dload_n 0, 1) := by decide +kernel
theorem d_isInfinite_1 : decode jdk_117_method_7_code 1 = .ok (.invokestatic 38, 3) := by decide +kernel
theorem d_isInfinite_4 : decode jdk_117_method_7_code 4 = .ok (.ldc2_w 111, 3) := by decide +kernel
theorem d_isInfinite_7 : decode jdk_117_method_7_code 7 = .ok (.dcmp .l, 1) := by decide +kernel
theorem d_isInfinite_8 : decode jdk_117_method_7_code 8 = .ok (.ifCond .le 7, 3) := by decide +kernel
theorem d_isInfinite_15 : decode jdk_117_method_7_code 15 = .ok (.iconst 0, 1) := by decide +kernel
theorem d_isInfinite_16 : decode jdk_117_method_7_code 16 = .ok (.ireturn, 1) := by decide +kernel
set_option maxRecDepth 65536 in
set_option maxHeartbeats 4000000 in
theorem m_isInfinite (l : Launch) (Z : State) (a0 : Array Value) (hw : ∀ d ∈ tables_1, d.before a0 Z = true) (hs : ∀ d ∈ jdkStatics_1, d.before a0 Z = true) (x0 : UInt64) (h0 : Heap) (hf : Jvm.Free.Fl.Fin64 x0) :
    OMet l (⟨"java/lang/Double", "isInfinite", "(D)Z"⟩ : MethodName) jdk_117_method_7_code 2 (Option.some FieldType.boolean) [] ({ frames := 1, cells := 0, slots := 0, locals := 13 } : Room) Z h0 [] #[(.double x0)] (fun v h' => v = some (.int 0) ∧ h0 = h') := by
  refine OMet.of (own := "java/lang/Double") (nm := "isInfinite") pn_3 rfl rfl ?_
  intro p e s m below meth c T0 P0 hby hml hret hnm
  refine Done.step (T' := T0) (g' := (mkF m 0 #[.val (.double x0), .second] [])) (fun t kk => castTop (ef_isInfinite m x0) kk) ?_
  refine Done.step (T' := T0) (g' := (mkF m 1 #[.val (.double x0), .second] [(.double x0)])) (fun t kk => ?_) ?_
  · show Steps p.tables e below (T0.setTop (mkF m 0 #[.val (.double x0), .second] [])) t
    refine XS.dloadN P0.here P0.x rfl (hb hby d_isInfinite_0) rfl ?_
    exact kk
  show Done _ _ _ _ _ _ _ _ _ _ _ _ _ _ _ T0 (mkF m 1 #[.val (.double x0), .second] [(.double x0)])
  refine wNat P0 (y := (⟨"java/lang/Math", "abs", "(D)D"⟩ : MethodName)) (by0 := Jvm.Free.Fl.Abs.absDCode) (ml := 2) (rt := (Option.some FieldType.double)) (tw37 hw) (tw38 hw) (tw39 hw) (tw40 hw) (by decide) (F := (fun a' => a' = #[.double x0] ∧ Jvm.Free.Fl.NoNaN64 x0)) (val := (.double (x0 &&& 0x7fffffffffffffff))) (fun cw => Jvm.Free.Fl.Abs.absD_pays x0 cw (by decide) (by decide)) (by rw [hml]; rfl) (lenOf pd_3 rfl) (argsL := [(.double x0)]) (rest := []) rfl (W := 0) (Nat.le_of_eq rfl) (hb hby d_isInfinite_1) rfl ⟨rfl, hf.noNaN⟩ (fun T1 P2 => ?_)
  show Done _ _ _ _ _ _ _ _ _ _ _ _ _ _ _ T1 (mkF m 4 #[.val (.double x0), .second] [(.double (x0 &&& 0x7fffffffffffffff))])
  refine Done.step (T' := T1) (g' := (mkF m 16 #[.val (.double x0), .second] [(.int (0 : Int32))])) (fun t kk => ?_) ?_
  · show Steps p.tables e below (T1.setTop (mkF m 4 #[.val (.double x0), .second] [(.double (x0 &&& 0x7fffffffffffffff))])) t
    refine pLdcD P2 (tw41 hw) (hb hby d_isInfinite_4) rfl ?_
    show Steps p.tables e below (T1.setTop (mkF m 7 #[.val (.double x0), .second] [(.double (9218868437227405311 : UInt64)), (.double (x0 &&& 0x7fffffffffffffff))])) t
    refine XS.dcmpS P2.here P2.x rfl (hb hby d_isInfinite_7) rfl rfl ?_
    show Steps p.tables e below (T1.setTop (mkF m 8 #[.val (.double x0), .second] [(.int (cmpValue (FP.dcmp (x0 &&& 0x7fffffffffffffff) (9218868437227405311 : UInt64)) .l))])) t
    refine XS.ifYes P2.here P2.x rfl (pc0 := 8) (pc' := 15) rfl (hb hby d_isInfinite_8) rfl (i0W_le_t (infin_no hf)) (by decide) (by decide) ?_
    show Steps p.tables e below (T1.setTop (mkF m 15 #[.val (.double x0), .second] [])) t
    refine XS.iconst P2.here P2.x rfl (hb hby d_isInfinite_15) ?_
    exact kk
  show Done _ _ _ _ _ _ _ _ _ _ _ _ _ _ _ T1 (mkF m 16 #[.val (.double x0), .second] [(.int (0 : Int32))])
  exact wRet P2 (t := .boolean) hret (narrow_01 (Or.inl rfl)) (Or.inl ⟨rfl, Or.inr (Or.inl rfl), _, rfl⟩) (hb hby d_isInfinite_16) ⟨rfl, rfl⟩
theorem ef_require (m : MethodId) (x0 : Addr) (x1 : UInt64) : entryFrame m #[(.ref x0), (.double x1)] 3 = mkF m 0 #[.val (.ref x0), .val (.double x1), .second] [] := by first | (simp [entryFrame, mkF, argsToLocals, Value.category]; done) | rfl
theorem d_require_0 : decode prog_14_method_5_code 0 = .ok (.dload_n 1, 1) := by decide +kernel
theorem d_require_1 : decode prog_14_method_5_code 1 = .ok (.ldc2_w 53, 3) := by decide +kernel
theorem d_require_4 : decode prog_14_method_5_code 4 = .ok (.dcmp .l, 1) := by decide +kernel
theorem d_require_5 : decode prog_14_method_5_code 5 = .ok (.ifCond .le 10, 3) := by decide +kernel
theorem d_require_8 : decode prog_14_method_5_code 8 = .ok (.dload_n 1, 1) := by decide +kernel
theorem d_require_9 : decode prog_14_method_5_code 9 = .ok (.invokestatic 55, 3) := by decide +kernel
theorem d_require_12 : decode prog_14_method_5_code 12 = .ok (.ifCond .eq 18, 3) := by decide +kernel
theorem d_require_30 : decode prog_14_method_5_code 30 = .ok (.return_, 1) := by decide +kernel
set_option maxRecDepth 65536 in
set_option maxHeartbeats 4000000 in
theorem m_require (l : Launch) (Z : State) (a0 : Array Value) (hw : ∀ d ∈ tables_1, d.before a0 Z = true) (hs : ∀ d ∈ jdkStatics_1, d.before a0 Z = true) (sa : Addr) (x0 : UInt64) (h0 : Heap) (hf : Jvm.Free.Fl.Fin64 x0) (hg : (0 : Int32) < cmpValue (FP.dcmp x0 (13846317054350589952 : UInt64)) .l) :
    OMet l (⟨"com/example/late_harvest/lateharvest/pricing/Loan", "requireMonthlyFactor", "(Ljava/lang/String;D)V"⟩ : MethodName) prog_14_method_5_code 3 (Option.none : Option FieldType) [] ({ frames := 2, cells := 0, slots := 0, locals := 26 } : Room) Z h0 [] #[(.ref sa), (.double x0)] (fun v h' => v = none ∧ h0 = h') := by
  refine OMet.of (own := "com/example/late_harvest/lateharvest/pricing/Loan") (nm := "requireMonthlyFactor") (plainFor_of_name pn_4) rfl rfl ?_
  intro p e s m below meth c T0 P0 hby hml hret hnm
  refine Done.step (T' := T0) (g' := (mkF m 0 #[.val (.ref sa), .val (.double x0), .second] [])) (fun t kk => castTop (ef_require m sa x0) kk) ?_
  refine Done.step (T' := T0) (g' := (mkF m 9 #[.val (.ref sa), .val (.double x0), .second] [(.double x0)])) (fun t kk => ?_) ?_
  · show Steps p.tables e below (T0.setTop (mkF m 0 #[.val (.ref sa), .val (.double x0), .second] [])) t
    refine XS.dloadN P0.here P0.x rfl (hb hby d_require_0) rfl ?_
    show Steps p.tables e below (T0.setTop (mkF m 1 #[.val (.ref sa), .val (.double x0), .second] [(.double x0)])) t
    refine pLdcD P0 (tw32 hw) (hb hby d_require_1) rfl ?_
    show Steps p.tables e below (T0.setTop (mkF m 4 #[.val (.ref sa), .val (.double x0), .second] [(.double (13846317054350589952 : UInt64)), (.double x0)])) t
    refine XS.dcmpS P0.here P0.x rfl (hb hby d_require_4) rfl rfl ?_
    show Steps p.tables e below (T0.setTop (mkF m 5 #[.val (.ref sa), .val (.double x0), .second] [(.int (cmpValue (FP.dcmp x0 (13846317054350589952 : UInt64)) .l))])) t
    refine XS.ifNo P0.here P0.x rfl (hb hby d_require_5) rfl (i0W_le_f (not_not_intro hg)) ?_
    show Steps p.tables e below (T0.setTop (mkF m 8 #[.val (.ref sa), .val (.double x0), .second] [])) t
    refine XS.dloadN P0.here P0.x rfl (hb hby d_require_8) rfl ?_
    exact kk
  show Done _ _ _ _ _ _ _ _ _ _ _ _ _ _ _ T0 (mkF m 9 #[.val (.ref sa), .val (.double x0), .second] [(.double x0)])
  refine wCallS P0 (m_isInfinite l Z a0 hw hs x0 h0 hf) (tw33 hw) (tw34 hw) (tw35 hw) (tw36 hw) (by decide) (by rw [hml]; rfl) (lenOf pd_4 rfl) (argsL := [(.double x0)]) (rest := []) rfl rfl (W := 0) (Nat.le_of_eq rfl) (by decide) (by decide) (by decide) (by decide) (by simp) (hb hby d_require_9) rfl (k' := 0) (n' := 0) rfl rfl ?_
  rintro T1 _ _ P2 - ⟨rfl, rfl⟩
  show Done _ _ _ _ _ _ _ _ _ _ _ _ _ _ _ T1 (mkF m 12 #[.val (.ref sa), .val (.double x0), .second] [(.int (0 : Int32))])
  refine Done.step (T' := T1) (g' := (mkF m 30 #[.val (.ref sa), .val (.double x0), .second] [])) (fun t kk => ?_) ?_
  · show Steps p.tables e below (T1.setTop (mkF m 12 #[.val (.ref sa), .val (.double x0), .second] [(.int (0 : Int32))])) t
    refine XS.ifYes P2.here P2.x rfl (pc0 := 12) (pc' := 30) rfl (hb hby d_require_12) rfl (i0W_eq_t (by decide)) (by decide) (by decide) ?_
    exact kk
  show Done _ _ _ _ _ _ _ _ _ _ _ _ _ _ _ T1 (mkF m 30 #[.val (.ref sa), .val (.double x0), .second] [])
  exact wRetV P2 hret (hb hby d_require_30) ⟨rfl, rfl⟩
theorem ef_law (m : MethodId) (x0 : Int64) (x1 : Int32) (x2 : Int32) (x3 : Int32) : entryFrame m #[(.long x0), (.int x1), (.int x2), (.int x3)] maxLocals = mkF m 0 #[.val (.long x0), .second, .val (.int x1), .val (.int x2), .val (.int x3), .unset, .unset, .unset, .unset, .unset, .unset, .unset, .unset, .unset, .unset, .unset, .unset, .unset, .unset] [] := by first | (simp [entryFrame, mkF, argsToLocals, Value.category, maxLocals]; done) | rfl
set_option maxRecDepth 65536 in
set_option maxHeartbeats 4000000 in
theorem m_law (l : Launch) (Z : State) (a0 : Array Value) (hw : ∀ d ∈ tables_1, d.before a0 Z = true) (hs : ∀ d ∈ jdkStatics_1, d.before a0 Z = true) (p0 : Int64) (p1 p2 p3 : Int32) (cs : Int32) (h0 : Heap)  (S0 : Sta Z h0 "java/lang/String" "COMPACT_STRINGS" "Z" (.int cs)) (hcs : ¬ (cs = (0 : Int32))) :
    OMet l x code maxLocals ret tables_1 room_1 Z h0 [] #[(.long p0), (.int p1), (.int p2), (.int p3)] (fun v h' => v = some (.int 1)) := by
  refine OMet.of (own := "com/example/late_harvest/lateharvest/pricing/LoanRequireMonthlyFactorPinLaw") (nm := "law") (plainFor_of_name pn_5) rfl rfl ?_
  intro p e s m below meth c T0 P0 hby hml hret hnm
  refine Done.step (T' := T0) (g' := (mkF m 0 #[.val (.long p0), .second, .val (.int p1), .val (.int p2), .val (.int p3), .unset, .unset, .unset, .unset, .unset, .unset, .unset, .unset, .unset, .unset, .unset, .unset, .unset, .unset] [])) (fun t kk => castTop (ef_law m p0 p1 p2 p3) kk) ?_
  refine Done.step (T' := T0) (g' := (mkF m 16 #[.val (.long p0), .second, .val (.int p1), .val (.int p2), .val (.int p3), .val (.int ((p2 &&& (2147483647 : Int32)) - ((p2 &&& (2147483647 : Int32)) / (3 : Int32)) * (3 : Int32))), .val (.int (p1 &&& (31 : Int32))), .unset, .unset, .unset, .unset, .unset, .unset, .unset, .unset, .unset, .unset, .unset, .unset] [(.int ((p2 &&& (2147483647 : Int32)) - ((p2 &&& (2147483647 : Int32)) / (3 : Int32)) * (3 : Int32)))])) (fun t kk => ?_) ?_
  · show Steps p.tables e below (T0.setTop (mkF m 0 #[.val (.long p0), .second, .val (.int p1), .val (.int p2), .val (.int p3), .unset, .unset, .unset, .unset, .unset, .unset, .unset, .unset, .unset, .unset, .unset, .unset, .unset, .unset] [])) t
    refine XS.iloadN P0.here P0.x rfl (hb hby at_0) rfl ?_
    show Steps p.tables e below (T0.setTop (mkF m 1 #[.val (.long p0), .second, .val (.int p1), .val (.int p2), .val (.int p3), .unset, .unset, .unset, .unset, .unset, .unset, .unset, .unset, .unset, .unset, .unset, .unset, .unset, .unset] [(.int p2)])) t
    refine pLdcI P0 (tw0 hw) (hb hby at_1) rfl ?_
    show Steps p.tables e below (T0.setTop (mkF m 3 #[.val (.long p0), .second, .val (.int p1), .val (.int p2), .val (.int p3), .unset, .unset, .unset, .unset, .unset, .unset, .unset, .unset, .unset, .unset, .unset, .unset, .unset, .unset] [(.int (2147483647 : Int32)), (.int p2)])) t
    refine XS.iand P0.here P0.x rfl (hb hby at_3) rfl ?_
    show Steps p.tables e below (T0.setTop (mkF m 4 #[.val (.long p0), .second, .val (.int p1), .val (.int p2), .val (.int p3), .unset, .unset, .unset, .unset, .unset, .unset, .unset, .unset, .unset, .unset, .unset, .unset, .unset, .unset] [(.int (p2 &&& (2147483647 : Int32)))])) t
    refine XS.iconst P0.here P0.x rfl (hb hby at_4) ?_
    show Steps p.tables e below (T0.setTop (mkF m 5 #[.val (.long p0), .second, .val (.int p1), .val (.int p2), .val (.int p3), .unset, .unset, .unset, .unset, .unset, .unset, .unset, .unset, .unset, .unset, .unset, .unset, .unset, .unset] [(.int (3 : Int32)), (.int (p2 &&& (2147483647 : Int32)))])) t
    refine XS.irem P0.here P0.x rfl (hb hby at_5) rfl (by decide) ?_
    show Steps p.tables e below (T0.setTop (mkF m 6 #[.val (.long p0), .second, .val (.int p1), .val (.int p2), .val (.int p3), .unset, .unset, .unset, .unset, .unset, .unset, .unset, .unset, .unset, .unset, .unset, .unset, .unset, .unset] [(.int ((p2 &&& (2147483647 : Int32)) - ((p2 &&& (2147483647 : Int32)) / (3 : Int32)) * (3 : Int32)))])) t
    refine XS.istore P0.here P0.x rfl (hb hby at_6) rfl (l' := #[.val (.long p0), .second, .val (.int p1), .val (.int p2), .val (.int p3), .val (.int ((p2 &&& (2147483647 : Int32)) - ((p2 &&& (2147483647 : Int32)) / (3 : Int32)) * (3 : Int32))), .unset, .unset, .unset, .unset, .unset, .unset, .unset, .unset, .unset, .unset, .unset, .unset, .unset]) rfl ?_
    show Steps p.tables e below (T0.setTop (mkF m 8 #[.val (.long p0), .second, .val (.int p1), .val (.int p2), .val (.int p3), .val (.int ((p2 &&& (2147483647 : Int32)) - ((p2 &&& (2147483647 : Int32)) / (3 : Int32)) * (3 : Int32))), .unset, .unset, .unset, .unset, .unset, .unset, .unset, .unset, .unset, .unset, .unset, .unset, .unset] [])) t
    refine XS.iloadN P0.here P0.x rfl (hb hby at_8) rfl ?_
    show Steps p.tables e below (T0.setTop (mkF m 9 #[.val (.long p0), .second, .val (.int p1), .val (.int p2), .val (.int p3), .val (.int ((p2 &&& (2147483647 : Int32)) - ((p2 &&& (2147483647 : Int32)) / (3 : Int32)) * (3 : Int32))), .unset, .unset, .unset, .unset, .unset, .unset, .unset, .unset, .unset, .unset, .unset, .unset, .unset] [(.int p1)])) t
    refine XS.bipush P0.here P0.x rfl (hb hby at_9) ?_
    show Steps p.tables e below (T0.setTop (mkF m 11 #[.val (.long p0), .second, .val (.int p1), .val (.int p2), .val (.int p3), .val (.int ((p2 &&& (2147483647 : Int32)) - ((p2 &&& (2147483647 : Int32)) / (3 : Int32)) * (3 : Int32))), .unset, .unset, .unset, .unset, .unset, .unset, .unset, .unset, .unset, .unset, .unset, .unset, .unset] [(.int (31 : Int32)), (.int p1)])) t
    refine XS.iand P0.here P0.x rfl (hb hby at_11) rfl ?_
    show Steps p.tables e below (T0.setTop (mkF m 12 #[.val (.long p0), .second, .val (.int p1), .val (.int p2), .val (.int p3), .val (.int ((p2 &&& (2147483647 : Int32)) - ((p2 &&& (2147483647 : Int32)) / (3 : Int32)) * (3 : Int32))), .unset, .unset, .unset, .unset, .unset, .unset, .unset, .unset, .unset, .unset, .unset, .unset, .unset] [(.int (p1 &&& (31 : Int32)))])) t
    refine XS.istore P0.here P0.x rfl (hb hby at_12) rfl (l' := #[.val (.long p0), .second, .val (.int p1), .val (.int p2), .val (.int p3), .val (.int ((p2 &&& (2147483647 : Int32)) - ((p2 &&& (2147483647 : Int32)) / (3 : Int32)) * (3 : Int32))), .val (.int (p1 &&& (31 : Int32))), .unset, .unset, .unset, .unset, .unset, .unset, .unset, .unset, .unset, .unset, .unset, .unset]) rfl ?_
    show Steps p.tables e below (T0.setTop (mkF m 14 #[.val (.long p0), .second, .val (.int p1), .val (.int p2), .val (.int p3), .val (.int ((p2 &&& (2147483647 : Int32)) - ((p2 &&& (2147483647 : Int32)) / (3 : Int32)) * (3 : Int32))), .val (.int (p1 &&& (31 : Int32))), .unset, .unset, .unset, .unset, .unset, .unset, .unset, .unset, .unset, .unset, .unset, .unset] [])) t
    refine XS.iload P0.here P0.x rfl (hb hby at_14) rfl ?_
    exact kk
  by_cases hc : ¬ (((p2 &&& (2147483647 : Int32)) - ((p2 &&& (2147483647 : Int32)) / (3 : Int32)) * (3 : Int32)) = (0 : Int32))
  · refine Done.step (T' := T0) (g' := (mkF m 56 #[.val (.long p0), .second, .val (.int p1), .val (.int p2), .val (.int p3), .val (.int ((p2 &&& (2147483647 : Int32)) - ((p2 &&& (2147483647 : Int32)) / (3 : Int32)) * (3 : Int32))), .val (.int (p1 &&& (31 : Int32))), .unset, .unset, .unset, .unset, .unset, .unset, .unset, .unset, .unset, .unset, .unset, .unset] [(.int (1 : Int32)), (.int ((p2 &&& (2147483647 : Int32)) - ((p2 &&& (2147483647 : Int32)) / (3 : Int32)) * (3 : Int32)))])) (fun t kk => ?_) ?_
    · show Steps p.tables e below (T0.setTop (mkF m 16 #[.val (.long p0), .second, .val (.int p1), .val (.int p2), .val (.int p3), .val (.int ((p2 &&& (2147483647 : Int32)) - ((p2 &&& (2147483647 : Int32)) / (3 : Int32)) * (3 : Int32))), .val (.int (p1 &&& (31 : Int32))), .unset, .unset, .unset, .unset, .unset, .unset, .unset, .unset, .unset, .unset, .unset, .unset] [(.int ((p2 &&& (2147483647 : Int32)) - ((p2 &&& (2147483647 : Int32)) / (3 : Int32)) * (3 : Int32)))])) t
      refine XS.ifYes P0.here P0.x rfl (pc0 := 16) (pc' := 53) rfl (hb hby at_16) rfl (i0W_ne_t hc) (by decide) (by decide) ?_
      show Steps p.tables e below (T0.setTop (mkF m 53 #[.val (.long p0), .second, .val (.int p1), .val (.int p2), .val (.int p3), .val (.int ((p2 &&& (2147483647 : Int32)) - ((p2 &&& (2147483647 : Int32)) / (3 : Int32)) * (3 : Int32))), .val (.int (p1 &&& (31 : Int32))), .unset, .unset, .unset, .unset, .unset, .unset, .unset, .unset, .unset, .unset, .unset, .unset] [])) t
      refine XS.iload P0.here P0.x rfl (hb hby at_53) rfl ?_
      show Steps p.tables e below (T0.setTop (mkF m 55 #[.val (.long p0), .second, .val (.int p1), .val (.int p2), .val (.int p3), .val (.int ((p2 &&& (2147483647 : Int32)) - ((p2 &&& (2147483647 : Int32)) / (3 : Int32)) * (3 : Int32))), .val (.int (p1 &&& (31 : Int32))), .unset, .unset, .unset, .unset, .unset, .unset, .unset, .unset, .unset, .unset, .unset, .unset] [(.int ((p2 &&& (2147483647 : Int32)) - ((p2 &&& (2147483647 : Int32)) / (3 : Int32)) * (3 : Int32)))])) t
      refine XS.iconst P0.here P0.x rfl (hb hby at_55) ?_
      exact kk
    by_cases hd : ¬ (((p2 &&& (2147483647 : Int32)) - ((p2 &&& (2147483647 : Int32)) / (3 : Int32)) * (3 : Int32)) = (1 : Int32))
    · obtain ⟨n1, f1, g1⟩ := own_md2 p0
      refine Done.step (T' := T0) (g' := (mkF m 124 #[.val (.long p0), .second, .val (.int p1), .val (.int p2), .val (.int p3), .val (.int ((p2 &&& (2147483647 : Int32)) - ((p2 &&& (2147483647 : Int32)) / (3 : Int32)) * (3 : Int32))), .val (.int (p1 &&& (31 : Int32))), .val (.double (FP.dneg (FP.ddiv (FP.l2d (p0 &&& (255 : Int64))) (4629700416936869888 : UInt64)))), .second, .unset, .unset, .unset, .unset, .unset, .unset, .unset, .unset, .unset, .unset] [(.int (p3 &&& (255 : Int32)).toUInt32.toUInt16.toUInt32.toInt32)])) (fun t kk => ?_) ?_
      · show Steps p.tables e below (T0.setTop (mkF m 56 #[.val (.long p0), .second, .val (.int p1), .val (.int p2), .val (.int p3), .val (.int ((p2 &&& (2147483647 : Int32)) - ((p2 &&& (2147483647 : Int32)) / (3 : Int32)) * (3 : Int32))), .val (.int (p1 &&& (31 : Int32))), .unset, .unset, .unset, .unset, .unset, .unset, .unset, .unset, .unset, .unset, .unset, .unset] [(.int (1 : Int32)), (.int ((p2 &&& (2147483647 : Int32)) - ((p2 &&& (2147483647 : Int32)) / (3 : Int32)) * (3 : Int32)))])) t
        refine XS.icmpYes P0.here P0.x rfl (pc0 := 56) (pc' := 104) rfl (hb hby at_56) rfl (iiW_ne_t hd) (by decide) (by decide) ?_
        show Steps p.tables e below (T0.setTop (mkF m 104 #[.val (.long p0), .second, .val (.int p1), .val (.int p2), .val (.int p3), .val (.int ((p2 &&& (2147483647 : Int32)) - ((p2 &&& (2147483647 : Int32)) / (3 : Int32)) * (3 : Int32))), .val (.int (p1 &&& (31 : Int32))), .unset, .unset, .unset, .unset, .unset, .unset, .unset, .unset, .unset, .unset, .unset, .unset] [])) t
        refine XS.lloadN P0.here P0.x rfl (hb hby at_104) rfl ?_
        show Steps p.tables e below (T0.setTop (mkF m 105 #[.val (.long p0), .second, .val (.int p1), .val (.int p2), .val (.int p3), .val (.int ((p2 &&& (2147483647 : Int32)) - ((p2 &&& (2147483647 : Int32)) / (3 : Int32)) * (3 : Int32))), .val (.int (p1 &&& (31 : Int32))), .unset, .unset, .unset, .unset, .unset, .unset, .unset, .unset, .unset, .unset, .unset, .unset] [(.long p0)])) t
        refine pLdcJ P0 (tw44 hw) (hb hby at_105) rfl ?_
        show Steps p.tables e below (T0.setTop (mkF m 108 #[.val (.long p0), .second, .val (.int p1), .val (.int p2), .val (.int p3), .val (.int ((p2 &&& (2147483647 : Int32)) - ((p2 &&& (2147483647 : Int32)) / (3 : Int32)) * (3 : Int32))), .val (.int (p1 &&& (31 : Int32))), .unset, .unset, .unset, .unset, .unset, .unset, .unset, .unset, .unset, .unset, .unset, .unset] [(.long (255 : Int64)), (.long p0)])) t
        refine XS.land P0.here P0.x rfl (hb hby at_108) rfl ?_
        show Steps p.tables e below (T0.setTop (mkF m 109 #[.val (.long p0), .second, .val (.int p1), .val (.int p2), .val (.int p3), .val (.int ((p2 &&& (2147483647 : Int32)) - ((p2 &&& (2147483647 : Int32)) / (3 : Int32)) * (3 : Int32))), .val (.int (p1 &&& (31 : Int32))), .unset, .unset, .unset, .unset, .unset, .unset, .unset, .unset, .unset, .unset, .unset, .unset] [(.long (p0 &&& (255 : Int64)))])) t
        refine XS.l2dS P0.here P0.x rfl (hb hby at_109) rfl rfl ?_
        show Steps p.tables e below (T0.setTop (mkF m 110 #[.val (.long p0), .second, .val (.int p1), .val (.int p2), .val (.int p3), .val (.int ((p2 &&& (2147483647 : Int32)) - ((p2 &&& (2147483647 : Int32)) / (3 : Int32)) * (3 : Int32))), .val (.int (p1 &&& (31 : Int32))), .unset, .unset, .unset, .unset, .unset, .unset, .unset, .unset, .unset, .unset, .unset, .unset] [(.double (FP.l2d (p0 &&& (255 : Int64))))])) t
        refine pLdcD P0 (tw45 hw) (hb hby at_110) rfl ?_
        show Steps p.tables e below (T0.setTop (mkF m 113 #[.val (.long p0), .second, .val (.int p1), .val (.int p2), .val (.int p3), .val (.int ((p2 &&& (2147483647 : Int32)) - ((p2 &&& (2147483647 : Int32)) / (3 : Int32)) * (3 : Int32))), .val (.int (p1 &&& (31 : Int32))), .unset, .unset, .unset, .unset, .unset, .unset, .unset, .unset, .unset, .unset, .unset, .unset] [(.double (4629700416936869888 : UInt64)), (.double (FP.l2d (p0 &&& (255 : Int64))))])) t
        refine XS.ddivS P0.here P0.x rfl (hb hby at_113) rfl n1 rfl ?_
        show Steps p.tables e below (T0.setTop (mkF m 114 #[.val (.long p0), .second, .val (.int p1), .val (.int p2), .val (.int p3), .val (.int ((p2 &&& (2147483647 : Int32)) - ((p2 &&& (2147483647 : Int32)) / (3 : Int32)) * (3 : Int32))), .val (.int (p1 &&& (31 : Int32))), .unset, .unset, .unset, .unset, .unset, .unset, .unset, .unset, .unset, .unset, .unset, .unset] [(.double (FP.ddiv (FP.l2d (p0 &&& (255 : Int64))) (4629700416936869888 : UInt64)))])) t
        refine XS.dnegS P0.here P0.x rfl (hb hby at_114) rfl rfl ?_
        show Steps p.tables e below (T0.setTop (mkF m 115 #[.val (.long p0), .second, .val (.int p1), .val (.int p2), .val (.int p3), .val (.int ((p2 &&& (2147483647 : Int32)) - ((p2 &&& (2147483647 : Int32)) / (3 : Int32)) * (3 : Int32))), .val (.int (p1 &&& (31 : Int32))), .unset, .unset, .unset, .unset, .unset, .unset, .unset, .unset, .unset, .unset, .unset, .unset] [(.double (FP.dneg (FP.ddiv (FP.l2d (p0 &&& (255 : Int64))) (4629700416936869888 : UInt64))))])) t
        refine XS.dstore P0.here P0.x rfl (hb hby at_115) rfl (l' := #[.val (.long p0), .second, .val (.int p1), .val (.int p2), .val (.int p3), .val (.int ((p2 &&& (2147483647 : Int32)) - ((p2 &&& (2147483647 : Int32)) / (3 : Int32)) * (3 : Int32))), .val (.int (p1 &&& (31 : Int32))), .val (.double (FP.dneg (FP.ddiv (FP.l2d (p0 &&& (255 : Int64))) (4629700416936869888 : UInt64)))), .second, .unset, .unset, .unset, .unset, .unset, .unset, .unset, .unset, .unset, .unset]) rfl ?_
        show Steps p.tables e below (T0.setTop (mkF m 117 #[.val (.long p0), .second, .val (.int p1), .val (.int p2), .val (.int p3), .val (.int ((p2 &&& (2147483647 : Int32)) - ((p2 &&& (2147483647 : Int32)) / (3 : Int32)) * (3 : Int32))), .val (.int (p1 &&& (31 : Int32))), .val (.double (FP.dneg (FP.ddiv (FP.l2d (p0 &&& (255 : Int64))) (4629700416936869888 : UInt64)))), .second, .unset, .unset, .unset, .unset, .unset, .unset, .unset, .unset, .unset, .unset] [])) t
        refine XS.iload P0.here P0.x rfl (hb hby at_117) rfl ?_
        show Steps p.tables e below (T0.setTop (mkF m 119 #[.val (.long p0), .second, .val (.int p1), .val (.int p2), .val (.int p3), .val (.int ((p2 &&& (2147483647 : Int32)) - ((p2 &&& (2147483647 : Int32)) / (3 : Int32)) * (3 : Int32))), .val (.int (p1 &&& (31 : Int32))), .val (.double (FP.dneg (FP.ddiv (FP.l2d (p0 &&& (255 : Int64))) (4629700416936869888 : UInt64)))), .second, .unset, .unset, .unset, .unset, .unset, .unset, .unset, .unset, .unset, .unset] [(.int p3)])) t
        refine XS.sipush P0.here P0.x rfl (hb hby at_119) ?_
        show Steps p.tables e below (T0.setTop (mkF m 122 #[.val (.long p0), .second, .val (.int p1), .val (.int p2), .val (.int p3), .val (.int ((p2 &&& (2147483647 : Int32)) - ((p2 &&& (2147483647 : Int32)) / (3 : Int32)) * (3 : Int32))), .val (.int (p1 &&& (31 : Int32))), .val (.double (FP.dneg (FP.ddiv (FP.l2d (p0 &&& (255 : Int64))) (4629700416936869888 : UInt64)))), .second, .unset, .unset, .unset, .unset, .unset, .unset, .unset, .unset, .unset, .unset] [(.int (255 : Int32)), (.int p3)])) t
        refine XS.iand P0.here P0.x rfl (hb hby at_122) rfl ?_
        show Steps p.tables e below (T0.setTop (mkF m 123 #[.val (.long p0), .second, .val (.int p1), .val (.int p2), .val (.int p3), .val (.int ((p2 &&& (2147483647 : Int32)) - ((p2 &&& (2147483647 : Int32)) / (3 : Int32)) * (3 : Int32))), .val (.int (p1 &&& (31 : Int32))), .val (.double (FP.dneg (FP.ddiv (FP.l2d (p0 &&& (255 : Int64))) (4629700416936869888 : UInt64)))), .second, .unset, .unset, .unset, .unset, .unset, .unset, .unset, .unset, .unset, .unset] [(.int (p3 &&& (255 : Int32)))])) t
        refine XS.i2c P0.here P0.x rfl (hb hby at_123) rfl ?_
        exact kk
      show Done _ _ _ _ _ _ _ _ _ _ _ _ _ _ _ T0 (mkF m 124 #[.val (.long p0), .second, .val (.int p1), .val (.int p2), .val (.int p3), .val (.int ((p2 &&& (2147483647 : Int32)) - ((p2 &&& (2147483647 : Int32)) / (3 : Int32)) * (3 : Int32))), .val (.int (p1 &&& (31 : Int32))), .val (.double (FP.dneg (FP.ddiv (FP.l2d (p0 &&& (255 : Int64))) (4629700416936869888 : UInt64)))), .second, .unset, .unset, .unset, .unset, .unset, .unset, .unset, .unset, .unset, .unset] [(.int (p3 &&& (255 : Int32)).toUInt32.toUInt16.toUInt32.toInt32)])
      generalize g_ch : (p3 &&& (255 : Int32)).toUInt32.toUInt16.toUInt32.toInt32 = ch
      have hch : ¬ ((255 : Int32) < ch) := by rw [← g_ch]; exact own_ch _
      show Done _ _ _ _ _ _ _ _ _ _ _ _ _ _ _ T0 (mkF m 124 #[.val (.long p0), .second, .val (.int p1), .val (.int p2), .val (.int p3), .val (.int ((p2 &&& (2147483647 : Int32)) - ((p2 &&& (2147483647 : Int32)) / (3 : Int32)) * (3 : Int32))), .val (.int (p1 &&& (31 : Int32))), .val (.double (FP.dneg (FP.ddiv (FP.l2d (p0 &&& (255 : Int64))) (4629700416936869888 : UInt64)))), .second, .unset, .unset, .unset, .unset, .unset, .unset, .unset, .unset, .unset, .unset] [(.int ch)])
      show Done _ _ _ _ _ _ _ _ _ _ _ _ _ _ _ T0 (mkF m 124 #[.val (.long p0), .second, .val (.int p1), .val (.int p2), .val (.int p3), .val (.int ((p2 &&& (2147483647 : Int32)) - ((p2 &&& (2147483647 : Int32)) / (3 : Int32)) * (3 : Int32))), .val (.int (p1 &&& (31 : Int32))), .val (.double (FP.dneg (FP.ddiv (FP.l2d (p0 &&& (255 : Int64))) (4629700416936869888 : UInt64)))), .second, .unset, .unset, .unset, .unset, .unset, .unset, .unset, .unset, .unset, .unset] [(.int ch)])
      refine wCallS P0 (m_valueOf l Z a0 hw hs ch cs h0 S0 hcs hch) (tw2 hw) (tw3 hw) (tw4 hw) (tw5 hw) (by decide) (by rw [hml]; rfl) (lenOf pd_5 rfl) (argsL := [(.int ch)]) (rest := []) rfl rfl (W := 0) (Nat.le_of_eq rfl) (by decide) (by decide) (by decide) (by decide) (by simp) (hb hby at_124) rfl (k' := 2) (n' := 5) rfl rfl ?_
      rintro T1 h14 _ P2 K15 ⟨b3, b4, rfl, q5, q6, q7, q8, q9, q10, q11, q12, q13⟩
      have szh14 : h0.size ≤ h14.size := K15.1
      show Done _ _ _ _ _ _ _ _ _ _ _ _ _ _ _ T1 (mkF m 127 #[.val (.long p0), .second, .val (.int p1), .val (.int p2), .val (.int p3), .val (.int ((p2 &&& (2147483647 : Int32)) - ((p2 &&& (2147483647 : Int32)) / (3 : Int32)) * (3 : Int32))), .val (.int (p1 &&& (31 : Int32))), .val (.double (FP.dneg (FP.ddiv (FP.l2d (p0 &&& (255 : Int64))) (4629700416936869888 : UInt64)))), .second, .unset, .unset, .unset, .unset, .unset, .unset, .unset, .unset, .unset, .unset] [(.ref b3)])
      refine Done.step (T' := T1) (g' := (mkF m 129 #[.val (.long p0), .second, .val (.int p1), .val (.int p2), .val (.int p3), .val (.int ((p2 &&& (2147483647 : Int32)) - ((p2 &&& (2147483647 : Int32)) / (3 : Int32)) * (3 : Int32))), .val (.int (p1 &&& (31 : Int32))), .val (.double (FP.dneg (FP.ddiv (FP.l2d (p0 &&& (255 : Int64))) (4629700416936869888 : UInt64)))), .second, .unset, .unset, .unset, .unset, .unset, .unset, .unset, .unset, .unset, .unset] [(.double (FP.dneg (FP.ddiv (FP.l2d (p0 &&& (255 : Int64))) (4629700416936869888 : UInt64)))), (.ref b3)])) (fun t kk => ?_) ?_
      · show Steps p.tables e below (T1.setTop (mkF m 127 #[.val (.long p0), .second, .val (.int p1), .val (.int p2), .val (.int p3), .val (.int ((p2 &&& (2147483647 : Int32)) - ((p2 &&& (2147483647 : Int32)) / (3 : Int32)) * (3 : Int32))), .val (.int (p1 &&& (31 : Int32))), .val (.double (FP.dneg (FP.ddiv (FP.l2d (p0 &&& (255 : Int64))) (4629700416936869888 : UInt64)))), .second, .unset, .unset, .unset, .unset, .unset, .unset, .unset, .unset, .unset, .unset] [(.ref b3)])) t
        refine XS.dload P2.here P2.x rfl (hb hby at_127) rfl ?_
        exact kk
      show Done _ _ _ _ _ _ _ _ _ _ _ _ _ _ _ T1 (mkF m 129 #[.val (.long p0), .second, .val (.int p1), .val (.int p2), .val (.int p3), .val (.int ((p2 &&& (2147483647 : Int32)) - ((p2 &&& (2147483647 : Int32)) / (3 : Int32)) * (3 : Int32))), .val (.int (p1 &&& (31 : Int32))), .val (.double (FP.dneg (FP.ddiv (FP.l2d (p0 &&& (255 : Int64))) (4629700416936869888 : UInt64)))), .second, .unset, .unset, .unset, .unset, .unset, .unset, .unset, .unset, .unset, .unset] [(.double (FP.dneg (FP.ddiv (FP.l2d (p0 &&& (255 : Int64))) (4629700416936869888 : UInt64)))), (.ref b3)])
      refine wCallS P2 (m_require l Z a0 hw hs b3 (FP.dneg (FP.ddiv (FP.l2d (p0 &&& (255 : Int64))) (4629700416936869888 : UInt64))) h14 f1 g1) (tw28 hw) (tw29 hw) (tw30 hw) (tw31 hw) (by decide) (by rw [hml]; rfl) (lenOf pd_6 rfl) (argsL := [(.ref b3), (.double (FP.dneg (FP.ddiv (FP.l2d (p0 &&& (255 : Int64))) (4629700416936869888 : UInt64))))]) (rest := []) rfl rfl (W := 0) (Nat.le_of_eq rfl) (by decide) (by decide) (by decide) (by decide) (by simp) (hb hby at_129) rfl (k' := 2) (n' := 5) rfl rfl ?_
      rintro T16 _ _ P17 - ⟨rfl, rfl⟩
      show Done _ _ _ _ _ _ _ _ _ _ _ _ _ _ _ T16 (mkF m 132 #[.val (.long p0), .second, .val (.int p1), .val (.int p2), .val (.int p3), .val (.int ((p2 &&& (2147483647 : Int32)) - ((p2 &&& (2147483647 : Int32)) / (3 : Int32)) * (3 : Int32))), .val (.int (p1 &&& (31 : Int32))), .val (.double (FP.dneg (FP.ddiv (FP.l2d (p0 &&& (255 : Int64))) (4629700416936869888 : UInt64)))), .second, .unset, .unset, .unset, .unset, .unset, .unset, .unset, .unset, .unset, .unset] [])
      refine Done.step (T' := T16) (g' := (mkF m 133 #[.val (.long p0), .second, .val (.int p1), .val (.int p2), .val (.int p3), .val (.int ((p2 &&& (2147483647 : Int32)) - ((p2 &&& (2147483647 : Int32)) / (3 : Int32)) * (3 : Int32))), .val (.int (p1 &&& (31 : Int32))), .val (.double (FP.dneg (FP.ddiv (FP.l2d (p0 &&& (255 : Int64))) (4629700416936869888 : UInt64)))), .second, .unset, .unset, .unset, .unset, .unset, .unset, .unset, .unset, .unset, .unset] [(.int (1 : Int32))])) (fun t kk => ?_) ?_
      · show Steps p.tables e below (T16.setTop (mkF m 132 #[.val (.long p0), .second, .val (.int p1), .val (.int p2), .val (.int p3), .val (.int ((p2 &&& (2147483647 : Int32)) - ((p2 &&& (2147483647 : Int32)) / (3 : Int32)) * (3 : Int32))), .val (.int (p1 &&& (31 : Int32))), .val (.double (FP.dneg (FP.ddiv (FP.l2d (p0 &&& (255 : Int64))) (4629700416936869888 : UInt64)))), .second, .unset, .unset, .unset, .unset, .unset, .unset, .unset, .unset, .unset, .unset] [])) t
        refine XS.iconst P17.here P17.x rfl (hb hby at_132) ?_
        exact kk
      show Done _ _ _ _ _ _ _ _ _ _ _ _ _ _ _ T16 (mkF m 133 #[.val (.long p0), .second, .val (.int p1), .val (.int p2), .val (.int p3), .val (.int ((p2 &&& (2147483647 : Int32)) - ((p2 &&& (2147483647 : Int32)) / (3 : Int32)) * (3 : Int32))), .val (.int (p1 &&& (31 : Int32))), .val (.double (FP.dneg (FP.ddiv (FP.l2d (p0 &&& (255 : Int64))) (4629700416936869888 : UInt64)))), .second, .unset, .unset, .unset, .unset, .unset, .unset, .unset, .unset, .unset, .unset] [(.int (1 : Int32))])
      exact wRet P17 (t := .boolean) hret (narrow_01 (Or.inr rfl)) (Or.inl ⟨rfl, Or.inr (Or.inl rfl), _, rfl⟩) (hb hby at_133) rfl
    · obtain ⟨n1, f1, g1⟩ := own_md1 p0
      refine Done.step (T' := T0) (g' := (mkF m 124 #[.val (.long p0), .second, .val (.int p1), .val (.int p2), .val (.int p3), .val (.int ((p2 &&& (2147483647 : Int32)) - ((p2 &&& (2147483647 : Int32)) / (3 : Int32)) * (3 : Int32))), .val (.int (p1 &&& (31 : Int32))), .val (.double (FP.dmul (FP.l2d ((p0.toUInt64 >>> ((1 : Int32) &&& 0x3f).toInt64.toUInt64).toInt64)) (7957860541563666432 : UInt64))), .second, .val (.double (4886405595696988160 : UInt64)), .second, .val (.double (5165628772593958912 : UInt64)), .second, .val (.double (5724075126387900416 : UInt64)), .second, .val (.double (6840967833975783424 : UInt64)), .second, .val (.double (7957860541563666432 : UInt64)), .second] [(.int (p3 &&& (255 : Int32)).toUInt32.toUInt16.toUInt32.toInt32)])) (fun t kk => ?_) ?_
      · show Steps p.tables e below (T0.setTop (mkF m 56 #[.val (.long p0), .second, .val (.int p1), .val (.int p2), .val (.int p3), .val (.int ((p2 &&& (2147483647 : Int32)) - ((p2 &&& (2147483647 : Int32)) / (3 : Int32)) * (3 : Int32))), .val (.int (p1 &&& (31 : Int32))), .unset, .unset, .unset, .unset, .unset, .unset, .unset, .unset, .unset, .unset, .unset, .unset] [(.int (1 : Int32)), (.int ((p2 &&& (2147483647 : Int32)) - ((p2 &&& (2147483647 : Int32)) / (3 : Int32)) * (3 : Int32)))])) t
        refine XS.icmpNo P0.here P0.x rfl (hb hby at_56) rfl (iiW_ne_f (show ¬ (¬ (((p2 &&& (2147483647 : Int32)) - ((p2 &&& (2147483647 : Int32)) / (3 : Int32)) * (3 : Int32)) = (1 : Int32))) from hd)) ?_
        show Steps p.tables e below (T0.setTop (mkF m 59 #[.val (.long p0), .second, .val (.int p1), .val (.int p2), .val (.int p3), .val (.int ((p2 &&& (2147483647 : Int32)) - ((p2 &&& (2147483647 : Int32)) / (3 : Int32)) * (3 : Int32))), .val (.int (p1 &&& (31 : Int32))), .unset, .unset, .unset, .unset, .unset, .unset, .unset, .unset, .unset, .unset, .unset, .unset] [])) t
        refine pLdcD P0 (tw1 hw) (hb hby at_59) rfl ?_
        show Steps p.tables e below (T0.setTop (mkF m 62 #[.val (.long p0), .second, .val (.int p1), .val (.int p2), .val (.int p3), .val (.int ((p2 &&& (2147483647 : Int32)) - ((p2 &&& (2147483647 : Int32)) / (3 : Int32)) * (3 : Int32))), .val (.int (p1 &&& (31 : Int32))), .unset, .unset, .unset, .unset, .unset, .unset, .unset, .unset, .unset, .unset, .unset, .unset] [(.double (4886405595696988160 : UInt64))])) t
        refine XS.dstore P0.here P0.x rfl (hb hby at_62) rfl (l' := #[.val (.long p0), .second, .val (.int p1), .val (.int p2), .val (.int p3), .val (.int ((p2 &&& (2147483647 : Int32)) - ((p2 &&& (2147483647 : Int32)) / (3 : Int32)) * (3 : Int32))), .val (.int (p1 &&& (31 : Int32))), .unset, .unset, .val (.double (4886405595696988160 : UInt64)), .second, .unset, .unset, .unset, .unset, .unset, .unset, .unset, .unset]) rfl ?_
        show Steps p.tables e below (T0.setTop (mkF m 64 #[.val (.long p0), .second, .val (.int p1), .val (.int p2), .val (.int p3), .val (.int ((p2 &&& (2147483647 : Int32)) - ((p2 &&& (2147483647 : Int32)) / (3 : Int32)) * (3 : Int32))), .val (.int (p1 &&& (31 : Int32))), .unset, .unset, .val (.double (4886405595696988160 : UInt64)), .second, .unset, .unset, .unset, .unset, .unset, .unset, .unset, .unset] [])) t
        refine XS.dload P0.here P0.x rfl (hb hby at_64) rfl ?_
        show Steps p.tables e below (T0.setTop (mkF m 66 #[.val (.long p0), .second, .val (.int p1), .val (.int p2), .val (.int p3), .val (.int ((p2 &&& (2147483647 : Int32)) - ((p2 &&& (2147483647 : Int32)) / (3 : Int32)) * (3 : Int32))), .val (.int (p1 &&& (31 : Int32))), .unset, .unset, .val (.double (4886405595696988160 : UInt64)), .second, .unset, .unset, .unset, .unset, .unset, .unset, .unset, .unset] [(.double (4886405595696988160 : UInt64))])) t
        refine XS.dload P0.here P0.x rfl (hb hby at_66) rfl ?_
        show Steps p.tables e below (T0.setTop (mkF m 68 #[.val (.long p0), .second, .val (.int p1), .val (.int p2), .val (.int p3), .val (.int ((p2 &&& (2147483647 : Int32)) - ((p2 &&& (2147483647 : Int32)) / (3 : Int32)) * (3 : Int32))), .val (.int (p1 &&& (31 : Int32))), .unset, .unset, .val (.double (4886405595696988160 : UInt64)), .second, .unset, .unset, .unset, .unset, .unset, .unset, .unset, .unset] [(.double (4886405595696988160 : UInt64)), (.double (4886405595696988160 : UInt64))])) t
        refine XS.dmulS P0.here P0.x rfl (hb hby at_68) rfl (by unfold Jvm.Free.Fl.NoNaN64; decide +kernel) (show (FP.dmul (4886405595696988160 : UInt64) (4886405595696988160 : UInt64)) = (5165628772593958912 : UInt64) from (by decide +kernel)) ?_
        show Steps p.tables e below (T0.setTop (mkF m 69 #[.val (.long p0), .second, .val (.int p1), .val (.int p2), .val (.int p3), .val (.int ((p2 &&& (2147483647 : Int32)) - ((p2 &&& (2147483647 : Int32)) / (3 : Int32)) * (3 : Int32))), .val (.int (p1 &&& (31 : Int32))), .unset, .unset, .val (.double (4886405595696988160 : UInt64)), .second, .unset, .unset, .unset, .unset, .unset, .unset, .unset, .unset] [(.double (5165628772593958912 : UInt64))])) t
        refine XS.dstore P0.here P0.x rfl (hb hby at_69) rfl (l' := #[.val (.long p0), .second, .val (.int p1), .val (.int p2), .val (.int p3), .val (.int ((p2 &&& (2147483647 : Int32)) - ((p2 &&& (2147483647 : Int32)) / (3 : Int32)) * (3 : Int32))), .val (.int (p1 &&& (31 : Int32))), .unset, .unset, .val (.double (4886405595696988160 : UInt64)), .second, .val (.double (5165628772593958912 : UInt64)), .second, .unset, .unset, .unset, .unset, .unset, .unset]) rfl ?_
        show Steps p.tables e below (T0.setTop (mkF m 71 #[.val (.long p0), .second, .val (.int p1), .val (.int p2), .val (.int p3), .val (.int ((p2 &&& (2147483647 : Int32)) - ((p2 &&& (2147483647 : Int32)) / (3 : Int32)) * (3 : Int32))), .val (.int (p1 &&& (31 : Int32))), .unset, .unset, .val (.double (4886405595696988160 : UInt64)), .second, .val (.double (5165628772593958912 : UInt64)), .second, .unset, .unset, .unset, .unset, .unset, .unset] [])) t
        refine XS.dload P0.here P0.x rfl (hb hby at_71) rfl ?_
        show Steps p.tables e below (T0.setTop (mkF m 73 #[.val (.long p0), .second, .val (.int p1), .val (.int p2), .val (.int p3), .val (.int ((p2 &&& (2147483647 : Int32)) - ((p2 &&& (2147483647 : Int32)) / (3 : Int32)) * (3 : Int32))), .val (.int (p1 &&& (31 : Int32))), .unset, .unset, .val (.double (4886405595696988160 : UInt64)), .second, .val (.double (5165628772593958912 : UInt64)), .second, .unset, .unset, .unset, .unset, .unset, .unset] [(.double (5165628772593958912 : UInt64))])) t
        refine XS.dload P0.here P0.x rfl (hb hby at_73) rfl ?_
        show Steps p.tables e below (T0.setTop (mkF m 75 #[.val (.long p0), .second, .val (.int p1), .val (.int p2), .val (.int p3), .val (.int ((p2 &&& (2147483647 : Int32)) - ((p2 &&& (2147483647 : Int32)) / (3 : Int32)) * (3 : Int32))), .val (.int (p1 &&& (31 : Int32))), .unset, .unset, .val (.double (4886405595696988160 : UInt64)), .second, .val (.double (5165628772593958912 : UInt64)), .second, .unset, .unset, .unset, .unset, .unset, .unset] [(.double (5165628772593958912 : UInt64)), (.double (5165628772593958912 : UInt64))])) t
        refine XS.dmulS P0.here P0.x rfl (hb hby at_75) rfl (by unfold Jvm.Free.Fl.NoNaN64; decide +kernel) (show (FP.dmul (5165628772593958912 : UInt64) (5165628772593958912 : UInt64)) = (5724075126387900416 : UInt64) from (by decide +kernel)) ?_
        show Steps p.tables e below (T0.setTop (mkF m 76 #[.val (.long p0), .second, .val (.int p1), .val (.int p2), .val (.int p3), .val (.int ((p2 &&& (2147483647 : Int32)) - ((p2 &&& (2147483647 : Int32)) / (3 : Int32)) * (3 : Int32))), .val (.int (p1 &&& (31 : Int32))), .unset, .unset, .val (.double (4886405595696988160 : UInt64)), .second, .val (.double (5165628772593958912 : UInt64)), .second, .unset, .unset, .unset, .unset, .unset, .unset] [(.double (5724075126387900416 : UInt64))])) t
        refine XS.dstore P0.here P0.x rfl (hb hby at_76) rfl (l' := #[.val (.long p0), .second, .val (.int p1), .val (.int p2), .val (.int p3), .val (.int ((p2 &&& (2147483647 : Int32)) - ((p2 &&& (2147483647 : Int32)) / (3 : Int32)) * (3 : Int32))), .val (.int (p1 &&& (31 : Int32))), .unset, .unset, .val (.double (4886405595696988160 : UInt64)), .second, .val (.double (5165628772593958912 : UInt64)), .second, .val (.double (5724075126387900416 : UInt64)), .second, .unset, .unset, .unset, .unset]) rfl ?_
        show Steps p.tables e below (T0.setTop (mkF m 78 #[.val (.long p0), .second, .val (.int p1), .val (.int p2), .val (.int p3), .val (.int ((p2 &&& (2147483647 : Int32)) - ((p2 &&& (2147483647 : Int32)) / (3 : Int32)) * (3 : Int32))), .val (.int (p1 &&& (31 : Int32))), .unset, .unset, .val (.double (4886405595696988160 : UInt64)), .second, .val (.double (5165628772593958912 : UInt64)), .second, .val (.double (5724075126387900416 : UInt64)), .second, .unset, .unset, .unset, .unset] [])) t
        refine XS.dload P0.here P0.x rfl (hb hby at_78) rfl ?_
        show Steps p.tables e below (T0.setTop (mkF m 80 #[.val (.long p0), .second, .val (.int p1), .val (.int p2), .val (.int p3), .val (.int ((p2 &&& (2147483647 : Int32)) - ((p2 &&& (2147483647 : Int32)) / (3 : Int32)) * (3 : Int32))), .val (.int (p1 &&& (31 : Int32))), .unset, .unset, .val (.double (4886405595696988160 : UInt64)), .second, .val (.double (5165628772593958912 : UInt64)), .second, .val (.double (5724075126387900416 : UInt64)), .second, .unset, .unset, .unset, .unset] [(.double (5724075126387900416 : UInt64))])) t
        refine XS.dload P0.here P0.x rfl (hb hby at_80) rfl ?_
        show Steps p.tables e below (T0.setTop (mkF m 82 #[.val (.long p0), .second, .val (.int p1), .val (.int p2), .val (.int p3), .val (.int ((p2 &&& (2147483647 : Int32)) - ((p2 &&& (2147483647 : Int32)) / (3 : Int32)) * (3 : Int32))), .val (.int (p1 &&& (31 : Int32))), .unset, .unset, .val (.double (4886405595696988160 : UInt64)), .second, .val (.double (5165628772593958912 : UInt64)), .second, .val (.double (5724075126387900416 : UInt64)), .second, .unset, .unset, .unset, .unset] [(.double (5724075126387900416 : UInt64)), (.double (5724075126387900416 : UInt64))])) t
        refine XS.dmulS P0.here P0.x rfl (hb hby at_82) rfl (by unfold Jvm.Free.Fl.NoNaN64; decide +kernel) (show (FP.dmul (5724075126387900416 : UInt64) (5724075126387900416 : UInt64)) = (6840967833975783424 : UInt64) from (by decide +kernel)) ?_
        show Steps p.tables e below (T0.setTop (mkF m 83 #[.val (.long p0), .second, .val (.int p1), .val (.int p2), .val (.int p3), .val (.int ((p2 &&& (2147483647 : Int32)) - ((p2 &&& (2147483647 : Int32)) / (3 : Int32)) * (3 : Int32))), .val (.int (p1 &&& (31 : Int32))), .unset, .unset, .val (.double (4886405595696988160 : UInt64)), .second, .val (.double (5165628772593958912 : UInt64)), .second, .val (.double (5724075126387900416 : UInt64)), .second, .unset, .unset, .unset, .unset] [(.double (6840967833975783424 : UInt64))])) t
        refine XS.dstore P0.here P0.x rfl (hb hby at_83) rfl (l' := #[.val (.long p0), .second, .val (.int p1), .val (.int p2), .val (.int p3), .val (.int ((p2 &&& (2147483647 : Int32)) - ((p2 &&& (2147483647 : Int32)) / (3 : Int32)) * (3 : Int32))), .val (.int (p1 &&& (31 : Int32))), .unset, .unset, .val (.double (4886405595696988160 : UInt64)), .second, .val (.double (5165628772593958912 : UInt64)), .second, .val (.double (5724075126387900416 : UInt64)), .second, .val (.double (6840967833975783424 : UInt64)), .second, .unset, .unset]) rfl ?_
        show Steps p.tables e below (T0.setTop (mkF m 85 #[.val (.long p0), .second, .val (.int p1), .val (.int p2), .val (.int p3), .val (.int ((p2 &&& (2147483647 : Int32)) - ((p2 &&& (2147483647 : Int32)) / (3 : Int32)) * (3 : Int32))), .val (.int (p1 &&& (31 : Int32))), .unset, .unset, .val (.double (4886405595696988160 : UInt64)), .second, .val (.double (5165628772593958912 : UInt64)), .second, .val (.double (5724075126387900416 : UInt64)), .second, .val (.double (6840967833975783424 : UInt64)), .second, .unset, .unset] [])) t
        refine XS.dload P0.here P0.x rfl (hb hby at_85) rfl ?_
        show Steps p.tables e below (T0.setTop (mkF m 87 #[.val (.long p0), .second, .val (.int p1), .val (.int p2), .val (.int p3), .val (.int ((p2 &&& (2147483647 : Int32)) - ((p2 &&& (2147483647 : Int32)) / (3 : Int32)) * (3 : Int32))), .val (.int (p1 &&& (31 : Int32))), .unset, .unset, .val (.double (4886405595696988160 : UInt64)), .second, .val (.double (5165628772593958912 : UInt64)), .second, .val (.double (5724075126387900416 : UInt64)), .second, .val (.double (6840967833975783424 : UInt64)), .second, .unset, .unset] [(.double (6840967833975783424 : UInt64))])) t
        refine XS.dload P0.here P0.x rfl (hb hby at_87) rfl ?_
        show Steps p.tables e below (T0.setTop (mkF m 89 #[.val (.long p0), .second, .val (.int p1), .val (.int p2), .val (.int p3), .val (.int ((p2 &&& (2147483647 : Int32)) - ((p2 &&& (2147483647 : Int32)) / (3 : Int32)) * (3 : Int32))), .val (.int (p1 &&& (31 : Int32))), .unset, .unset, .val (.double (4886405595696988160 : UInt64)), .second, .val (.double (5165628772593958912 : UInt64)), .second, .val (.double (5724075126387900416 : UInt64)), .second, .val (.double (6840967833975783424 : UInt64)), .second, .unset, .unset] [(.double (5724075126387900416 : UInt64)), (.double (6840967833975783424 : UInt64))])) t
        refine XS.dmulS P0.here P0.x rfl (hb hby at_89) rfl (by unfold Jvm.Free.Fl.NoNaN64; decide +kernel) (show (FP.dmul (6840967833975783424 : UInt64) (5724075126387900416 : UInt64)) = (7957860541563666432 : UInt64) from (by decide +kernel)) ?_
        show Steps p.tables e below (T0.setTop (mkF m 90 #[.val (.long p0), .second, .val (.int p1), .val (.int p2), .val (.int p3), .val (.int ((p2 &&& (2147483647 : Int32)) - ((p2 &&& (2147483647 : Int32)) / (3 : Int32)) * (3 : Int32))), .val (.int (p1 &&& (31 : Int32))), .unset, .unset, .val (.double (4886405595696988160 : UInt64)), .second, .val (.double (5165628772593958912 : UInt64)), .second, .val (.double (5724075126387900416 : UInt64)), .second, .val (.double (6840967833975783424 : UInt64)), .second, .unset, .unset] [(.double (7957860541563666432 : UInt64))])) t
        refine XS.dstore P0.here P0.x rfl (hb hby at_90) rfl (l' := #[.val (.long p0), .second, .val (.int p1), .val (.int p2), .val (.int p3), .val (.int ((p2 &&& (2147483647 : Int32)) - ((p2 &&& (2147483647 : Int32)) / (3 : Int32)) * (3 : Int32))), .val (.int (p1 &&& (31 : Int32))), .unset, .unset, .val (.double (4886405595696988160 : UInt64)), .second, .val (.double (5165628772593958912 : UInt64)), .second, .val (.double (5724075126387900416 : UInt64)), .second, .val (.double (6840967833975783424 : UInt64)), .second, .val (.double (7957860541563666432 : UInt64)), .second]) rfl ?_
        show Steps p.tables e below (T0.setTop (mkF m 92 #[.val (.long p0), .second, .val (.int p1), .val (.int p2), .val (.int p3), .val (.int ((p2 &&& (2147483647 : Int32)) - ((p2 &&& (2147483647 : Int32)) / (3 : Int32)) * (3 : Int32))), .val (.int (p1 &&& (31 : Int32))), .unset, .unset, .val (.double (4886405595696988160 : UInt64)), .second, .val (.double (5165628772593958912 : UInt64)), .second, .val (.double (5724075126387900416 : UInt64)), .second, .val (.double (6840967833975783424 : UInt64)), .second, .val (.double (7957860541563666432 : UInt64)), .second] [])) t
        refine XS.lloadN P0.here P0.x rfl (hb hby at_92) rfl ?_
        show Steps p.tables e below (T0.setTop (mkF m 93 #[.val (.long p0), .second, .val (.int p1), .val (.int p2), .val (.int p3), .val (.int ((p2 &&& (2147483647 : Int32)) - ((p2 &&& (2147483647 : Int32)) / (3 : Int32)) * (3 : Int32))), .val (.int (p1 &&& (31 : Int32))), .unset, .unset, .val (.double (4886405595696988160 : UInt64)), .second, .val (.double (5165628772593958912 : UInt64)), .second, .val (.double (5724075126387900416 : UInt64)), .second, .val (.double (6840967833975783424 : UInt64)), .second, .val (.double (7957860541563666432 : UInt64)), .second] [(.long p0)])) t
        refine XS.iconst P0.here P0.x rfl (hb hby at_93) ?_
        show Steps p.tables e below (T0.setTop (mkF m 94 #[.val (.long p0), .second, .val (.int p1), .val (.int p2), .val (.int p3), .val (.int ((p2 &&& (2147483647 : Int32)) - ((p2 &&& (2147483647 : Int32)) / (3 : Int32)) * (3 : Int32))), .val (.int (p1 &&& (31 : Int32))), .unset, .unset, .val (.double (4886405595696988160 : UInt64)), .second, .val (.double (5165628772593958912 : UInt64)), .second, .val (.double (5724075126387900416 : UInt64)), .second, .val (.double (6840967833975783424 : UInt64)), .second, .val (.double (7957860541563666432 : UInt64)), .second] [(.int (1 : Int32)), (.long p0)])) t
        refine XS.lushr P0.here P0.x rfl (hb hby at_94) rfl ?_
        show Steps p.tables e below (T0.setTop (mkF m 95 #[.val (.long p0), .second, .val (.int p1), .val (.int p2), .val (.int p3), .val (.int ((p2 &&& (2147483647 : Int32)) - ((p2 &&& (2147483647 : Int32)) / (3 : Int32)) * (3 : Int32))), .val (.int (p1 &&& (31 : Int32))), .unset, .unset, .val (.double (4886405595696988160 : UInt64)), .second, .val (.double (5165628772593958912 : UInt64)), .second, .val (.double (5724075126387900416 : UInt64)), .second, .val (.double (6840967833975783424 : UInt64)), .second, .val (.double (7957860541563666432 : UInt64)), .second] [(.long ((p0.toUInt64 >>> ((1 : Int32) &&& 0x3f).toInt64.toUInt64).toInt64))])) t
        refine XS.l2dS P0.here P0.x rfl (hb hby at_95) rfl rfl ?_
        show Steps p.tables e below (T0.setTop (mkF m 96 #[.val (.long p0), .second, .val (.int p1), .val (.int p2), .val (.int p3), .val (.int ((p2 &&& (2147483647 : Int32)) - ((p2 &&& (2147483647 : Int32)) / (3 : Int32)) * (3 : Int32))), .val (.int (p1 &&& (31 : Int32))), .unset, .unset, .val (.double (4886405595696988160 : UInt64)), .second, .val (.double (5165628772593958912 : UInt64)), .second, .val (.double (5724075126387900416 : UInt64)), .second, .val (.double (6840967833975783424 : UInt64)), .second, .val (.double (7957860541563666432 : UInt64)), .second] [(.double (FP.l2d ((p0.toUInt64 >>> ((1 : Int32) &&& 0x3f).toInt64.toUInt64).toInt64)))])) t
        refine XS.dload P0.here P0.x rfl (hb hby at_96) rfl ?_
        show Steps p.tables e below (T0.setTop (mkF m 98 #[.val (.long p0), .second, .val (.int p1), .val (.int p2), .val (.int p3), .val (.int ((p2 &&& (2147483647 : Int32)) - ((p2 &&& (2147483647 : Int32)) / (3 : Int32)) * (3 : Int32))), .val (.int (p1 &&& (31 : Int32))), .unset, .unset, .val (.double (4886405595696988160 : UInt64)), .second, .val (.double (5165628772593958912 : UInt64)), .second, .val (.double (5724075126387900416 : UInt64)), .second, .val (.double (6840967833975783424 : UInt64)), .second, .val (.double (7957860541563666432 : UInt64)), .second] [(.double (7957860541563666432 : UInt64)), (.double (FP.l2d ((p0.toUInt64 >>> ((1 : Int32) &&& 0x3f).toInt64.toUInt64).toInt64)))])) t
        refine XS.dmulS P0.here P0.x rfl (hb hby at_98) rfl n1 rfl ?_
        show Steps p.tables e below (T0.setTop (mkF m 99 #[.val (.long p0), .second, .val (.int p1), .val (.int p2), .val (.int p3), .val (.int ((p2 &&& (2147483647 : Int32)) - ((p2 &&& (2147483647 : Int32)) / (3 : Int32)) * (3 : Int32))), .val (.int (p1 &&& (31 : Int32))), .unset, .unset, .val (.double (4886405595696988160 : UInt64)), .second, .val (.double (5165628772593958912 : UInt64)), .second, .val (.double (5724075126387900416 : UInt64)), .second, .val (.double (6840967833975783424 : UInt64)), .second, .val (.double (7957860541563666432 : UInt64)), .second] [(.double (FP.dmul (FP.l2d ((p0.toUInt64 >>> ((1 : Int32) &&& 0x3f).toInt64.toUInt64).toInt64)) (7957860541563666432 : UInt64)))])) t
        refine XS.dstore P0.here P0.x rfl (hb hby at_99) rfl (l' := #[.val (.long p0), .second, .val (.int p1), .val (.int p2), .val (.int p3), .val (.int ((p2 &&& (2147483647 : Int32)) - ((p2 &&& (2147483647 : Int32)) / (3 : Int32)) * (3 : Int32))), .val (.int (p1 &&& (31 : Int32))), .val (.double (FP.dmul (FP.l2d ((p0.toUInt64 >>> ((1 : Int32) &&& 0x3f).toInt64.toUInt64).toInt64)) (7957860541563666432 : UInt64))), .second, .val (.double (4886405595696988160 : UInt64)), .second, .val (.double (5165628772593958912 : UInt64)), .second, .val (.double (5724075126387900416 : UInt64)), .second, .val (.double (6840967833975783424 : UInt64)), .second, .val (.double (7957860541563666432 : UInt64)), .second]) rfl ?_
        show Steps p.tables e below (T0.setTop (mkF m 101 #[.val (.long p0), .second, .val (.int p1), .val (.int p2), .val (.int p3), .val (.int ((p2 &&& (2147483647 : Int32)) - ((p2 &&& (2147483647 : Int32)) / (3 : Int32)) * (3 : Int32))), .val (.int (p1 &&& (31 : Int32))), .val (.double (FP.dmul (FP.l2d ((p0.toUInt64 >>> ((1 : Int32) &&& 0x3f).toInt64.toUInt64).toInt64)) (7957860541563666432 : UInt64))), .second, .val (.double (4886405595696988160 : UInt64)), .second, .val (.double (5165628772593958912 : UInt64)), .second, .val (.double (5724075126387900416 : UInt64)), .second, .val (.double (6840967833975783424 : UInt64)), .second, .val (.double (7957860541563666432 : UInt64)), .second] [])) t
        refine XS.goto P0.here P0.x rfl (pc0 := 101) (pc' := 117) rfl (hb hby at_101) (by decide) (by decide) ?_
        show Steps p.tables e below (T0.setTop (mkF m 117 #[.val (.long p0), .second, .val (.int p1), .val (.int p2), .val (.int p3), .val (.int ((p2 &&& (2147483647 : Int32)) - ((p2 &&& (2147483647 : Int32)) / (3 : Int32)) * (3 : Int32))), .val (.int (p1 &&& (31 : Int32))), .val (.double (FP.dmul (FP.l2d ((p0.toUInt64 >>> ((1 : Int32) &&& 0x3f).toInt64.toUInt64).toInt64)) (7957860541563666432 : UInt64))), .second, .val (.double (4886405595696988160 : UInt64)), .second, .val (.double (5165628772593958912 : UInt64)), .second, .val (.double (5724075126387900416 : UInt64)), .second, .val (.double (6840967833975783424 : UInt64)), .second, .val (.double (7957860541563666432 : UInt64)), .second] [])) t
        refine XS.iload P0.here P0.x rfl (hb hby at_117) rfl ?_
        show Steps p.tables e below (T0.setTop (mkF m 119 #[.val (.long p0), .second, .val (.int p1), .val (.int p2), .val (.int p3), .val (.int ((p2 &&& (2147483647 : Int32)) - ((p2 &&& (2147483647 : Int32)) / (3 : Int32)) * (3 : Int32))), .val (.int (p1 &&& (31 : Int32))), .val (.double (FP.dmul (FP.l2d ((p0.toUInt64 >>> ((1 : Int32) &&& 0x3f).toInt64.toUInt64).toInt64)) (7957860541563666432 : UInt64))), .second, .val (.double (4886405595696988160 : UInt64)), .second, .val (.double (5165628772593958912 : UInt64)), .second, .val (.double (5724075126387900416 : UInt64)), .second, .val (.double (6840967833975783424 : UInt64)), .second, .val (.double (7957860541563666432 : UInt64)), .second] [(.int p3)])) t
        refine XS.sipush P0.here P0.x rfl (hb hby at_119) ?_
        show Steps p.tables e below (T0.setTop (mkF m 122 #[.val (.long p0), .second, .val (.int p1), .val (.int p2), .val (.int p3), .val (.int ((p2 &&& (2147483647 : Int32)) - ((p2 &&& (2147483647 : Int32)) / (3 : Int32)) * (3 : Int32))), .val (.int (p1 &&& (31 : Int32))), .val (.double (FP.dmul (FP.l2d ((p0.toUInt64 >>> ((1 : Int32) &&& 0x3f).toInt64.toUInt64).toInt64)) (7957860541563666432 : UInt64))), .second, .val (.double (4886405595696988160 : UInt64)), .second, .val (.double (5165628772593958912 : UInt64)), .second, .val (.double (5724075126387900416 : UInt64)), .second, .val (.double (6840967833975783424 : UInt64)), .second, .val (.double (7957860541563666432 : UInt64)), .second] [(.int (255 : Int32)), (.int p3)])) t
        refine XS.iand P0.here P0.x rfl (hb hby at_122) rfl ?_
        show Steps p.tables e below (T0.setTop (mkF m 123 #[.val (.long p0), .second, .val (.int p1), .val (.int p2), .val (.int p3), .val (.int ((p2 &&& (2147483647 : Int32)) - ((p2 &&& (2147483647 : Int32)) / (3 : Int32)) * (3 : Int32))), .val (.int (p1 &&& (31 : Int32))), .val (.double (FP.dmul (FP.l2d ((p0.toUInt64 >>> ((1 : Int32) &&& 0x3f).toInt64.toUInt64).toInt64)) (7957860541563666432 : UInt64))), .second, .val (.double (4886405595696988160 : UInt64)), .second, .val (.double (5165628772593958912 : UInt64)), .second, .val (.double (5724075126387900416 : UInt64)), .second, .val (.double (6840967833975783424 : UInt64)), .second, .val (.double (7957860541563666432 : UInt64)), .second] [(.int (p3 &&& (255 : Int32)))])) t
        refine XS.i2c P0.here P0.x rfl (hb hby at_123) rfl ?_
        exact kk
      show Done _ _ _ _ _ _ _ _ _ _ _ _ _ _ _ T0 (mkF m 124 #[.val (.long p0), .second, .val (.int p1), .val (.int p2), .val (.int p3), .val (.int ((p2 &&& (2147483647 : Int32)) - ((p2 &&& (2147483647 : Int32)) / (3 : Int32)) * (3 : Int32))), .val (.int (p1 &&& (31 : Int32))), .val (.double (FP.dmul (FP.l2d ((p0.toUInt64 >>> ((1 : Int32) &&& 0x3f).toInt64.toUInt64).toInt64)) (7957860541563666432 : UInt64))), .second, .val (.double (4886405595696988160 : UInt64)), .second, .val (.double (5165628772593958912 : UInt64)), .second, .val (.double (5724075126387900416 : UInt64)), .second, .val (.double (6840967833975783424 : UInt64)), .second, .val (.double (7957860541563666432 : UInt64)), .second] [(.int (p3 &&& (255 : Int32)).toUInt32.toUInt16.toUInt32.toInt32)])
      generalize g_ch : (p3 &&& (255 : Int32)).toUInt32.toUInt16.toUInt32.toInt32 = ch
      have hch : ¬ ((255 : Int32) < ch) := by rw [← g_ch]; exact own_ch _
      show Done _ _ _ _ _ _ _ _ _ _ _ _ _ _ _ T0 (mkF m 124 #[.val (.long p0), .second, .val (.int p1), .val (.int p2), .val (.int p3), .val (.int ((p2 &&& (2147483647 : Int32)) - ((p2 &&& (2147483647 : Int32)) / (3 : Int32)) * (3 : Int32))), .val (.int (p1 &&& (31 : Int32))), .val (.double (FP.dmul (FP.l2d ((p0.toUInt64 >>> ((1 : Int32) &&& 0x3f).toInt64.toUInt64).toInt64)) (7957860541563666432 : UInt64))), .second, .val (.double (4886405595696988160 : UInt64)), .second, .val (.double (5165628772593958912 : UInt64)), .second, .val (.double (5724075126387900416 : UInt64)), .second, .val (.double (6840967833975783424 : UInt64)), .second, .val (.double (7957860541563666432 : UInt64)), .second] [(.int ch)])
      show Done _ _ _ _ _ _ _ _ _ _ _ _ _ _ _ T0 (mkF m 124 #[.val (.long p0), .second, .val (.int p1), .val (.int p2), .val (.int p3), .val (.int ((p2 &&& (2147483647 : Int32)) - ((p2 &&& (2147483647 : Int32)) / (3 : Int32)) * (3 : Int32))), .val (.int (p1 &&& (31 : Int32))), .val (.double (FP.dmul (FP.l2d ((p0.toUInt64 >>> ((1 : Int32) &&& 0x3f).toInt64.toUInt64).toInt64)) (7957860541563666432 : UInt64))), .second, .val (.double (4886405595696988160 : UInt64)), .second, .val (.double (5165628772593958912 : UInt64)), .second, .val (.double (5724075126387900416 : UInt64)), .second, .val (.double (6840967833975783424 : UInt64)), .second, .val (.double (7957860541563666432 : UInt64)), .second] [(.int ch)])
      refine wCallS P0 (m_valueOf l Z a0 hw hs ch cs h0 S0 hcs hch) (tw2 hw) (tw3 hw) (tw4 hw) (tw5 hw) (by decide) (by rw [hml]; rfl) (lenOf pd_5 rfl) (argsL := [(.int ch)]) (rest := []) rfl rfl (W := 0) (Nat.le_of_eq rfl) (by decide) (by decide) (by decide) (by decide) (by simp) (hb hby at_124) rfl (k' := 2) (n' := 5) rfl rfl ?_
      rintro T18 h31 _ P19 K32 ⟨b20, b21, rfl, q22, q23, q24, q25, q26, q27, q28, q29, q30⟩
      have szh31 : h0.size ≤ h31.size := K32.1
      show Done _ _ _ _ _ _ _ _ _ _ _ _ _ _ _ T18 (mkF m 127 #[.val (.long p0), .second, .val (.int p1), .val (.int p2), .val (.int p3), .val (.int ((p2 &&& (2147483647 : Int32)) - ((p2 &&& (2147483647 : Int32)) / (3 : Int32)) * (3 : Int32))), .val (.int (p1 &&& (31 : Int32))), .val (.double (FP.dmul (FP.l2d ((p0.toUInt64 >>> ((1 : Int32) &&& 0x3f).toInt64.toUInt64).toInt64)) (7957860541563666432 : UInt64))), .second, .val (.double (4886405595696988160 : UInt64)), .second, .val (.double (5165628772593958912 : UInt64)), .second, .val (.double (5724075126387900416 : UInt64)), .second, .val (.double (6840967833975783424 : UInt64)), .second, .val (.double (7957860541563666432 : UInt64)), .second] [(.ref b20)])
      refine Done.step (T' := T18) (g' := (mkF m 129 #[.val (.long p0), .second, .val (.int p1), .val (.int p2), .val (.int p3), .val (.int ((p2 &&& (2147483647 : Int32)) - ((p2 &&& (2147483647 : Int32)) / (3 : Int32)) * (3 : Int32))), .val (.int (p1 &&& (31 : Int32))), .val (.double (FP.dmul (FP.l2d ((p0.toUInt64 >>> ((1 : Int32) &&& 0x3f).toInt64.toUInt64).toInt64)) (7957860541563666432 : UInt64))), .second, .val (.double (4886405595696988160 : UInt64)), .second, .val (.double (5165628772593958912 : UInt64)), .second, .val (.double (5724075126387900416 : UInt64)), .second, .val (.double (6840967833975783424 : UInt64)), .second, .val (.double (7957860541563666432 : UInt64)), .second] [(.double (FP.dmul (FP.l2d ((p0.toUInt64 >>> ((1 : Int32) &&& 0x3f).toInt64.toUInt64).toInt64)) (7957860541563666432 : UInt64))), (.ref b20)])) (fun t kk => ?_) ?_
      · show Steps p.tables e below (T18.setTop (mkF m 127 #[.val (.long p0), .second, .val (.int p1), .val (.int p2), .val (.int p3), .val (.int ((p2 &&& (2147483647 : Int32)) - ((p2 &&& (2147483647 : Int32)) / (3 : Int32)) * (3 : Int32))), .val (.int (p1 &&& (31 : Int32))), .val (.double (FP.dmul (FP.l2d ((p0.toUInt64 >>> ((1 : Int32) &&& 0x3f).toInt64.toUInt64).toInt64)) (7957860541563666432 : UInt64))), .second, .val (.double (4886405595696988160 : UInt64)), .second, .val (.double (5165628772593958912 : UInt64)), .second, .val (.double (5724075126387900416 : UInt64)), .second, .val (.double (6840967833975783424 : UInt64)), .second, .val (.double (7957860541563666432 : UInt64)), .second] [(.ref b20)])) t
        refine XS.dload P19.here P19.x rfl (hb hby at_127) rfl ?_
        exact kk
      show Done _ _ _ _ _ _ _ _ _ _ _ _ _ _ _ T18 (mkF m 129 #[.val (.long p0), .second, .val (.int p1), .val (.int p2), .val (.int p3), .val (.int ((p2 &&& (2147483647 : Int32)) - ((p2 &&& (2147483647 : Int32)) / (3 : Int32)) * (3 : Int32))), .val (.int (p1 &&& (31 : Int32))), .val (.double (FP.dmul (FP.l2d ((p0.toUInt64 >>> ((1 : Int32) &&& 0x3f).toInt64.toUInt64).toInt64)) (7957860541563666432 : UInt64))), .second, .val (.double (4886405595696988160 : UInt64)), .second, .val (.double (5165628772593958912 : UInt64)), .second, .val (.double (5724075126387900416 : UInt64)), .second, .val (.double (6840967833975783424 : UInt64)), .second, .val (.double (7957860541563666432 : UInt64)), .second] [(.double (FP.dmul (FP.l2d ((p0.toUInt64 >>> ((1 : Int32) &&& 0x3f).toInt64.toUInt64).toInt64)) (7957860541563666432 : UInt64))), (.ref b20)])
      refine wCallS P19 (m_require l Z a0 hw hs b20 (FP.dmul (FP.l2d ((p0.toUInt64 >>> ((1 : Int32) &&& 0x3f).toInt64.toUInt64).toInt64)) (7957860541563666432 : UInt64)) h31 f1 g1) (tw28 hw) (tw29 hw) (tw30 hw) (tw31 hw) (by decide) (by rw [hml]; rfl) (lenOf pd_6 rfl) (argsL := [(.ref b20), (.double (FP.dmul (FP.l2d ((p0.toUInt64 >>> ((1 : Int32) &&& 0x3f).toInt64.toUInt64).toInt64)) (7957860541563666432 : UInt64)))]) (rest := []) rfl rfl (W := 0) (Nat.le_of_eq rfl) (by decide) (by decide) (by decide) (by decide) (by simp) (hb hby at_129) rfl (k' := 2) (n' := 5) rfl rfl ?_
      rintro T33 _ _ P34 - ⟨rfl, rfl⟩
      show Done _ _ _ _ _ _ _ _ _ _ _ _ _ _ _ T33 (mkF m 132 #[.val (.long p0), .second, .val (.int p1), .val (.int p2), .val (.int p3), .val (.int ((p2 &&& (2147483647 : Int32)) - ((p2 &&& (2147483647 : Int32)) / (3 : Int32)) * (3 : Int32))), .val (.int (p1 &&& (31 : Int32))), .val (.double (FP.dmul (FP.l2d ((p0.toUInt64 >>> ((1 : Int32) &&& 0x3f).toInt64.toUInt64).toInt64)) (7957860541563666432 : UInt64))), .second, .val (.double (4886405595696988160 : UInt64)), .second, .val (.double (5165628772593958912 : UInt64)), .second, .val (.double (5724075126387900416 : UInt64)), .second, .val (.double (6840967833975783424 : UInt64)), .second, .val (.double (7957860541563666432 : UInt64)), .second] [])
      refine Done.step (T' := T33) (g' := (mkF m 133 #[.val (.long p0), .second, .val (.int p1), .val (.int p2), .val (.int p3), .val (.int ((p2 &&& (2147483647 : Int32)) - ((p2 &&& (2147483647 : Int32)) / (3 : Int32)) * (3 : Int32))), .val (.int (p1 &&& (31 : Int32))), .val (.double (FP.dmul (FP.l2d ((p0.toUInt64 >>> ((1 : Int32) &&& 0x3f).toInt64.toUInt64).toInt64)) (7957860541563666432 : UInt64))), .second, .val (.double (4886405595696988160 : UInt64)), .second, .val (.double (5165628772593958912 : UInt64)), .second, .val (.double (5724075126387900416 : UInt64)), .second, .val (.double (6840967833975783424 : UInt64)), .second, .val (.double (7957860541563666432 : UInt64)), .second] [(.int (1 : Int32))])) (fun t kk => ?_) ?_
      · show Steps p.tables e below (T33.setTop (mkF m 132 #[.val (.long p0), .second, .val (.int p1), .val (.int p2), .val (.int p3), .val (.int ((p2 &&& (2147483647 : Int32)) - ((p2 &&& (2147483647 : Int32)) / (3 : Int32)) * (3 : Int32))), .val (.int (p1 &&& (31 : Int32))), .val (.double (FP.dmul (FP.l2d ((p0.toUInt64 >>> ((1 : Int32) &&& 0x3f).toInt64.toUInt64).toInt64)) (7957860541563666432 : UInt64))), .second, .val (.double (4886405595696988160 : UInt64)), .second, .val (.double (5165628772593958912 : UInt64)), .second, .val (.double (5724075126387900416 : UInt64)), .second, .val (.double (6840967833975783424 : UInt64)), .second, .val (.double (7957860541563666432 : UInt64)), .second] [])) t
        refine XS.iconst P34.here P34.x rfl (hb hby at_132) ?_
        exact kk
      show Done _ _ _ _ _ _ _ _ _ _ _ _ _ _ _ T33 (mkF m 133 #[.val (.long p0), .second, .val (.int p1), .val (.int p2), .val (.int p3), .val (.int ((p2 &&& (2147483647 : Int32)) - ((p2 &&& (2147483647 : Int32)) / (3 : Int32)) * (3 : Int32))), .val (.int (p1 &&& (31 : Int32))), .val (.double (FP.dmul (FP.l2d ((p0.toUInt64 >>> ((1 : Int32) &&& 0x3f).toInt64.toUInt64).toInt64)) (7957860541563666432 : UInt64))), .second, .val (.double (4886405595696988160 : UInt64)), .second, .val (.double (5165628772593958912 : UInt64)), .second, .val (.double (5724075126387900416 : UInt64)), .second, .val (.double (6840967833975783424 : UInt64)), .second, .val (.double (7957860541563666432 : UInt64)), .second] [(.int (1 : Int32))])
      exact wRet P34 (t := .boolean) hret (narrow_01 (Or.inr rfl)) (Or.inl ⟨rfl, Or.inr (Or.inl rfl), _, rfl⟩) (hb hby at_133) rfl
  · obtain ⟨n1, f1, g1⟩ := own_m0 p0 p1
    refine Done.step (T' := T0) (g' := (mkF m 124 #[.val (.long p0), .second, .val (.int p1), .val (.int p2), .val (.int p3), .val (.int ((p2 &&& (2147483647 : Int32)) - ((p2 &&& (2147483647 : Int32)) / (3 : Int32)) * (3 : Int32))), .val (.int (p1 &&& (31 : Int32))), .val (.double (FP.ddiv (FP.l2d ((((-12 : Int64) <<< ((p1 &&& (31 : Int32)) &&& 0x3f).toInt64) + (1 : Int64)) + (p0 &&& (4503599627370495 : Int64)))) (FP.l2d ((1 : Int64) <<< ((p1 &&& (31 : Int32)) &&& 0x3f).toInt64)))), .second, .val (.long ((-12 : Int64) <<< ((p1 &&& (31 : Int32)) &&& 0x3f).toInt64)), .second, .val (.long ((((-12 : Int64) <<< ((p1 &&& (31 : Int32)) &&& 0x3f).toInt64) + (1 : Int64)) + (p0 &&& (4503599627370495 : Int64)))), .second, .unset, .unset, .unset, .unset, .unset, .unset] [(.int (p3 &&& (255 : Int32)).toUInt32.toUInt16.toUInt32.toInt32)])) (fun t kk => ?_) ?_
    · show Steps p.tables e below (T0.setTop (mkF m 16 #[.val (.long p0), .second, .val (.int p1), .val (.int p2), .val (.int p3), .val (.int ((p2 &&& (2147483647 : Int32)) - ((p2 &&& (2147483647 : Int32)) / (3 : Int32)) * (3 : Int32))), .val (.int (p1 &&& (31 : Int32))), .unset, .unset, .unset, .unset, .unset, .unset, .unset, .unset, .unset, .unset, .unset, .unset] [(.int ((p2 &&& (2147483647 : Int32)) - ((p2 &&& (2147483647 : Int32)) / (3 : Int32)) * (3 : Int32)))])) t
      refine XS.ifNo P0.here P0.x rfl (hb hby at_16) rfl (i0W_ne_f (show ¬ (¬ (((p2 &&& (2147483647 : Int32)) - ((p2 &&& (2147483647 : Int32)) / (3 : Int32)) * (3 : Int32)) = (0 : Int32))) from hc)) ?_
      show Steps p.tables e below (T0.setTop (mkF m 19 #[.val (.long p0), .second, .val (.int p1), .val (.int p2), .val (.int p3), .val (.int ((p2 &&& (2147483647 : Int32)) - ((p2 &&& (2147483647 : Int32)) / (3 : Int32)) * (3 : Int32))), .val (.int (p1 &&& (31 : Int32))), .unset, .unset, .unset, .unset, .unset, .unset, .unset, .unset, .unset, .unset, .unset, .unset] [])) t
      refine pLdcJ P0 (tw42 hw) (hb hby at_19) rfl ?_
      show Steps p.tables e below (T0.setTop (mkF m 22 #[.val (.long p0), .second, .val (.int p1), .val (.int p2), .val (.int p3), .val (.int ((p2 &&& (2147483647 : Int32)) - ((p2 &&& (2147483647 : Int32)) / (3 : Int32)) * (3 : Int32))), .val (.int (p1 &&& (31 : Int32))), .unset, .unset, .unset, .unset, .unset, .unset, .unset, .unset, .unset, .unset, .unset, .unset] [(.long (-12 : Int64))])) t
      refine XS.iload P0.here P0.x rfl (hb hby at_22) rfl ?_
      show Steps p.tables e below (T0.setTop (mkF m 24 #[.val (.long p0), .second, .val (.int p1), .val (.int p2), .val (.int p3), .val (.int ((p2 &&& (2147483647 : Int32)) - ((p2 &&& (2147483647 : Int32)) / (3 : Int32)) * (3 : Int32))), .val (.int (p1 &&& (31 : Int32))), .unset, .unset, .unset, .unset, .unset, .unset, .unset, .unset, .unset, .unset, .unset, .unset] [(.int (p1 &&& (31 : Int32))), (.long (-12 : Int64))])) t
      refine XS.lshl P0.here P0.x rfl (hb hby at_24) rfl ?_
      show Steps p.tables e below (T0.setTop (mkF m 25 #[.val (.long p0), .second, .val (.int p1), .val (.int p2), .val (.int p3), .val (.int ((p2 &&& (2147483647 : Int32)) - ((p2 &&& (2147483647 : Int32)) / (3 : Int32)) * (3 : Int32))), .val (.int (p1 &&& (31 : Int32))), .unset, .unset, .unset, .unset, .unset, .unset, .unset, .unset, .unset, .unset, .unset, .unset] [(.long ((-12 : Int64) <<< ((p1 &&& (31 : Int32)) &&& 0x3f).toInt64))])) t
      refine XS.lstore P0.here P0.x rfl (hb hby at_25) rfl (l' := #[.val (.long p0), .second, .val (.int p1), .val (.int p2), .val (.int p3), .val (.int ((p2 &&& (2147483647 : Int32)) - ((p2 &&& (2147483647 : Int32)) / (3 : Int32)) * (3 : Int32))), .val (.int (p1 &&& (31 : Int32))), .unset, .unset, .val (.long ((-12 : Int64) <<< ((p1 &&& (31 : Int32)) &&& 0x3f).toInt64)), .second, .unset, .unset, .unset, .unset, .unset, .unset, .unset, .unset]) rfl ?_
      show Steps p.tables e below (T0.setTop (mkF m 27 #[.val (.long p0), .second, .val (.int p1), .val (.int p2), .val (.int p3), .val (.int ((p2 &&& (2147483647 : Int32)) - ((p2 &&& (2147483647 : Int32)) / (3 : Int32)) * (3 : Int32))), .val (.int (p1 &&& (31 : Int32))), .unset, .unset, .val (.long ((-12 : Int64) <<< ((p1 &&& (31 : Int32)) &&& 0x3f).toInt64)), .second, .unset, .unset, .unset, .unset, .unset, .unset, .unset, .unset] [])) t
      refine XS.lload P0.here P0.x rfl (hb hby at_27) rfl ?_
      show Steps p.tables e below (T0.setTop (mkF m 29 #[.val (.long p0), .second, .val (.int p1), .val (.int p2), .val (.int p3), .val (.int ((p2 &&& (2147483647 : Int32)) - ((p2 &&& (2147483647 : Int32)) / (3 : Int32)) * (3 : Int32))), .val (.int (p1 &&& (31 : Int32))), .unset, .unset, .val (.long ((-12 : Int64) <<< ((p1 &&& (31 : Int32)) &&& 0x3f).toInt64)), .second, .unset, .unset, .unset, .unset, .unset, .unset, .unset, .unset] [(.long ((-12 : Int64) <<< ((p1 &&& (31 : Int32)) &&& 0x3f).toInt64))])) t
      refine XS.lconst P0.here P0.x rfl (hb hby at_29) ?_
      show Steps p.tables e below (T0.setTop (mkF m 30 #[.val (.long p0), .second, .val (.int p1), .val (.int p2), .val (.int p3), .val (.int ((p2 &&& (2147483647 : Int32)) - ((p2 &&& (2147483647 : Int32)) / (3 : Int32)) * (3 : Int32))), .val (.int (p1 &&& (31 : Int32))), .unset, .unset, .val (.long ((-12 : Int64) <<< ((p1 &&& (31 : Int32)) &&& 0x3f).toInt64)), .second, .unset, .unset, .unset, .unset, .unset, .unset, .unset, .unset] [(.long (1 : Int64)), (.long ((-12 : Int64) <<< ((p1 &&& (31 : Int32)) &&& 0x3f).toInt64))])) t
      refine XS.ladd P0.here P0.x rfl (hb hby at_30) rfl ?_
      show Steps p.tables e below (T0.setTop (mkF m 31 #[.val (.long p0), .second, .val (.int p1), .val (.int p2), .val (.int p3), .val (.int ((p2 &&& (2147483647 : Int32)) - ((p2 &&& (2147483647 : Int32)) / (3 : Int32)) * (3 : Int32))), .val (.int (p1 &&& (31 : Int32))), .unset, .unset, .val (.long ((-12 : Int64) <<< ((p1 &&& (31 : Int32)) &&& 0x3f).toInt64)), .second, .unset, .unset, .unset, .unset, .unset, .unset, .unset, .unset] [(.long (((-12 : Int64) <<< ((p1 &&& (31 : Int32)) &&& 0x3f).toInt64) + (1 : Int64)))])) t
      refine XS.lloadN P0.here P0.x rfl (hb hby at_31) rfl ?_
      show Steps p.tables e below (T0.setTop (mkF m 32 #[.val (.long p0), .second, .val (.int p1), .val (.int p2), .val (.int p3), .val (.int ((p2 &&& (2147483647 : Int32)) - ((p2 &&& (2147483647 : Int32)) / (3 : Int32)) * (3 : Int32))), .val (.int (p1 &&& (31 : Int32))), .unset, .unset, .val (.long ((-12 : Int64) <<< ((p1 &&& (31 : Int32)) &&& 0x3f).toInt64)), .second, .unset, .unset, .unset, .unset, .unset, .unset, .unset, .unset] [(.long p0), (.long (((-12 : Int64) <<< ((p1 &&& (31 : Int32)) &&& 0x3f).toInt64) + (1 : Int64)))])) t
      refine pLdcJ P0 (tw43 hw) (hb hby at_32) rfl ?_
      show Steps p.tables e below (T0.setTop (mkF m 35 #[.val (.long p0), .second, .val (.int p1), .val (.int p2), .val (.int p3), .val (.int ((p2 &&& (2147483647 : Int32)) - ((p2 &&& (2147483647 : Int32)) / (3 : Int32)) * (3 : Int32))), .val (.int (p1 &&& (31 : Int32))), .unset, .unset, .val (.long ((-12 : Int64) <<< ((p1 &&& (31 : Int32)) &&& 0x3f).toInt64)), .second, .unset, .unset, .unset, .unset, .unset, .unset, .unset, .unset] [(.long (4503599627370495 : Int64)), (.long p0), (.long (((-12 : Int64) <<< ((p1 &&& (31 : Int32)) &&& 0x3f).toInt64) + (1 : Int64)))])) t
      refine XS.land P0.here P0.x rfl (hb hby at_35) rfl ?_
      show Steps p.tables e below (T0.setTop (mkF m 36 #[.val (.long p0), .second, .val (.int p1), .val (.int p2), .val (.int p3), .val (.int ((p2 &&& (2147483647 : Int32)) - ((p2 &&& (2147483647 : Int32)) / (3 : Int32)) * (3 : Int32))), .val (.int (p1 &&& (31 : Int32))), .unset, .unset, .val (.long ((-12 : Int64) <<< ((p1 &&& (31 : Int32)) &&& 0x3f).toInt64)), .second, .unset, .unset, .unset, .unset, .unset, .unset, .unset, .unset] [(.long (p0 &&& (4503599627370495 : Int64))), (.long (((-12 : Int64) <<< ((p1 &&& (31 : Int32)) &&& 0x3f).toInt64) + (1 : Int64)))])) t
      refine XS.ladd P0.here P0.x rfl (hb hby at_36) rfl ?_
      show Steps p.tables e below (T0.setTop (mkF m 37 #[.val (.long p0), .second, .val (.int p1), .val (.int p2), .val (.int p3), .val (.int ((p2 &&& (2147483647 : Int32)) - ((p2 &&& (2147483647 : Int32)) / (3 : Int32)) * (3 : Int32))), .val (.int (p1 &&& (31 : Int32))), .unset, .unset, .val (.long ((-12 : Int64) <<< ((p1 &&& (31 : Int32)) &&& 0x3f).toInt64)), .second, .unset, .unset, .unset, .unset, .unset, .unset, .unset, .unset] [(.long ((((-12 : Int64) <<< ((p1 &&& (31 : Int32)) &&& 0x3f).toInt64) + (1 : Int64)) + (p0 &&& (4503599627370495 : Int64))))])) t
      refine XS.lstore P0.here P0.x rfl (hb hby at_37) rfl (l' := #[.val (.long p0), .second, .val (.int p1), .val (.int p2), .val (.int p3), .val (.int ((p2 &&& (2147483647 : Int32)) - ((p2 &&& (2147483647 : Int32)) / (3 : Int32)) * (3 : Int32))), .val (.int (p1 &&& (31 : Int32))), .unset, .unset, .val (.long ((-12 : Int64) <<< ((p1 &&& (31 : Int32)) &&& 0x3f).toInt64)), .second, .val (.long ((((-12 : Int64) <<< ((p1 &&& (31 : Int32)) &&& 0x3f).toInt64) + (1 : Int64)) + (p0 &&& (4503599627370495 : Int64)))), .second, .unset, .unset, .unset, .unset, .unset, .unset]) rfl ?_
      show Steps p.tables e below (T0.setTop (mkF m 39 #[.val (.long p0), .second, .val (.int p1), .val (.int p2), .val (.int p3), .val (.int ((p2 &&& (2147483647 : Int32)) - ((p2 &&& (2147483647 : Int32)) / (3 : Int32)) * (3 : Int32))), .val (.int (p1 &&& (31 : Int32))), .unset, .unset, .val (.long ((-12 : Int64) <<< ((p1 &&& (31 : Int32)) &&& 0x3f).toInt64)), .second, .val (.long ((((-12 : Int64) <<< ((p1 &&& (31 : Int32)) &&& 0x3f).toInt64) + (1 : Int64)) + (p0 &&& (4503599627370495 : Int64)))), .second, .unset, .unset, .unset, .unset, .unset, .unset] [])) t
      refine XS.lload P0.here P0.x rfl (hb hby at_39) rfl ?_
      show Steps p.tables e below (T0.setTop (mkF m 41 #[.val (.long p0), .second, .val (.int p1), .val (.int p2), .val (.int p3), .val (.int ((p2 &&& (2147483647 : Int32)) - ((p2 &&& (2147483647 : Int32)) / (3 : Int32)) * (3 : Int32))), .val (.int (p1 &&& (31 : Int32))), .unset, .unset, .val (.long ((-12 : Int64) <<< ((p1 &&& (31 : Int32)) &&& 0x3f).toInt64)), .second, .val (.long ((((-12 : Int64) <<< ((p1 &&& (31 : Int32)) &&& 0x3f).toInt64) + (1 : Int64)) + (p0 &&& (4503599627370495 : Int64)))), .second, .unset, .unset, .unset, .unset, .unset, .unset] [(.long ((((-12 : Int64) <<< ((p1 &&& (31 : Int32)) &&& 0x3f).toInt64) + (1 : Int64)) + (p0 &&& (4503599627370495 : Int64))))])) t
      refine XS.l2dS P0.here P0.x rfl (hb hby at_41) rfl rfl ?_
      show Steps p.tables e below (T0.setTop (mkF m 42 #[.val (.long p0), .second, .val (.int p1), .val (.int p2), .val (.int p3), .val (.int ((p2 &&& (2147483647 : Int32)) - ((p2 &&& (2147483647 : Int32)) / (3 : Int32)) * (3 : Int32))), .val (.int (p1 &&& (31 : Int32))), .unset, .unset, .val (.long ((-12 : Int64) <<< ((p1 &&& (31 : Int32)) &&& 0x3f).toInt64)), .second, .val (.long ((((-12 : Int64) <<< ((p1 &&& (31 : Int32)) &&& 0x3f).toInt64) + (1 : Int64)) + (p0 &&& (4503599627370495 : Int64)))), .second, .unset, .unset, .unset, .unset, .unset, .unset] [(.double (FP.l2d ((((-12 : Int64) <<< ((p1 &&& (31 : Int32)) &&& 0x3f).toInt64) + (1 : Int64)) + (p0 &&& (4503599627370495 : Int64)))))])) t
      refine XS.lconst P0.here P0.x rfl (hb hby at_42) ?_
      show Steps p.tables e below (T0.setTop (mkF m 43 #[.val (.long p0), .second, .val (.int p1), .val (.int p2), .val (.int p3), .val (.int ((p2 &&& (2147483647 : Int32)) - ((p2 &&& (2147483647 : Int32)) / (3 : Int32)) * (3 : Int32))), .val (.int (p1 &&& (31 : Int32))), .unset, .unset, .val (.long ((-12 : Int64) <<< ((p1 &&& (31 : Int32)) &&& 0x3f).toInt64)), .second, .val (.long ((((-12 : Int64) <<< ((p1 &&& (31 : Int32)) &&& 0x3f).toInt64) + (1 : Int64)) + (p0 &&& (4503599627370495 : Int64)))), .second, .unset, .unset, .unset, .unset, .unset, .unset] [(.long (1 : Int64)), (.double (FP.l2d ((((-12 : Int64) <<< ((p1 &&& (31 : Int32)) &&& 0x3f).toInt64) + (1 : Int64)) + (p0 &&& (4503599627370495 : Int64)))))])) t
      refine XS.iload P0.here P0.x rfl (hb hby at_43) rfl ?_
      show Steps p.tables e below (T0.setTop (mkF m 45 #[.val (.long p0), .second, .val (.int p1), .val (.int p2), .val (.int p3), .val (.int ((p2 &&& (2147483647 : Int32)) - ((p2 &&& (2147483647 : Int32)) / (3 : Int32)) * (3 : Int32))), .val (.int (p1 &&& (31 : Int32))), .unset, .unset, .val (.long ((-12 : Int64) <<< ((p1 &&& (31 : Int32)) &&& 0x3f).toInt64)), .second, .val (.long ((((-12 : Int64) <<< ((p1 &&& (31 : Int32)) &&& 0x3f).toInt64) + (1 : Int64)) + (p0 &&& (4503599627370495 : Int64)))), .second, .unset, .unset, .unset, .unset, .unset, .unset] [(.int (p1 &&& (31 : Int32))), (.long (1 : Int64)), (.double (FP.l2d ((((-12 : Int64) <<< ((p1 &&& (31 : Int32)) &&& 0x3f).toInt64) + (1 : Int64)) + (p0 &&& (4503599627370495 : Int64)))))])) t
      refine XS.lshl P0.here P0.x rfl (hb hby at_45) rfl ?_
      show Steps p.tables e below (T0.setTop (mkF m 46 #[.val (.long p0), .second, .val (.int p1), .val (.int p2), .val (.int p3), .val (.int ((p2 &&& (2147483647 : Int32)) - ((p2 &&& (2147483647 : Int32)) / (3 : Int32)) * (3 : Int32))), .val (.int (p1 &&& (31 : Int32))), .unset, .unset, .val (.long ((-12 : Int64) <<< ((p1 &&& (31 : Int32)) &&& 0x3f).toInt64)), .second, .val (.long ((((-12 : Int64) <<< ((p1 &&& (31 : Int32)) &&& 0x3f).toInt64) + (1 : Int64)) + (p0 &&& (4503599627370495 : Int64)))), .second, .unset, .unset, .unset, .unset, .unset, .unset] [(.long ((1 : Int64) <<< ((p1 &&& (31 : Int32)) &&& 0x3f).toInt64)), (.double (FP.l2d ((((-12 : Int64) <<< ((p1 &&& (31 : Int32)) &&& 0x3f).toInt64) + (1 : Int64)) + (p0 &&& (4503599627370495 : Int64)))))])) t
      refine XS.l2dS P0.here P0.x rfl (hb hby at_46) rfl rfl ?_
      show Steps p.tables e below (T0.setTop (mkF m 47 #[.val (.long p0), .second, .val (.int p1), .val (.int p2), .val (.int p3), .val (.int ((p2 &&& (2147483647 : Int32)) - ((p2 &&& (2147483647 : Int32)) / (3 : Int32)) * (3 : Int32))), .val (.int (p1 &&& (31 : Int32))), .unset, .unset, .val (.long ((-12 : Int64) <<< ((p1 &&& (31 : Int32)) &&& 0x3f).toInt64)), .second, .val (.long ((((-12 : Int64) <<< ((p1 &&& (31 : Int32)) &&& 0x3f).toInt64) + (1 : Int64)) + (p0 &&& (4503599627370495 : Int64)))), .second, .unset, .unset, .unset, .unset, .unset, .unset] [(.double (FP.l2d ((1 : Int64) <<< ((p1 &&& (31 : Int32)) &&& 0x3f).toInt64))), (.double (FP.l2d ((((-12 : Int64) <<< ((p1 &&& (31 : Int32)) &&& 0x3f).toInt64) + (1 : Int64)) + (p0 &&& (4503599627370495 : Int64)))))])) t
      refine XS.ddivS P0.here P0.x rfl (hb hby at_47) rfl n1 rfl ?_
      show Steps p.tables e below (T0.setTop (mkF m 48 #[.val (.long p0), .second, .val (.int p1), .val (.int p2), .val (.int p3), .val (.int ((p2 &&& (2147483647 : Int32)) - ((p2 &&& (2147483647 : Int32)) / (3 : Int32)) * (3 : Int32))), .val (.int (p1 &&& (31 : Int32))), .unset, .unset, .val (.long ((-12 : Int64) <<< ((p1 &&& (31 : Int32)) &&& 0x3f).toInt64)), .second, .val (.long ((((-12 : Int64) <<< ((p1 &&& (31 : Int32)) &&& 0x3f).toInt64) + (1 : Int64)) + (p0 &&& (4503599627370495 : Int64)))), .second, .unset, .unset, .unset, .unset, .unset, .unset] [(.double (FP.ddiv (FP.l2d ((((-12 : Int64) <<< ((p1 &&& (31 : Int32)) &&& 0x3f).toInt64) + (1 : Int64)) + (p0 &&& (4503599627370495 : Int64)))) (FP.l2d ((1 : Int64) <<< ((p1 &&& (31 : Int32)) &&& 0x3f).toInt64))))])) t
      refine XS.dstore P0.here P0.x rfl (hb hby at_48) rfl (l' := #[.val (.long p0), .second, .val (.int p1), .val (.int p2), .val (.int p3), .val (.int ((p2 &&& (2147483647 : Int32)) - ((p2 &&& (2147483647 : Int32)) / (3 : Int32)) * (3 : Int32))), .val (.int (p1 &&& (31 : Int32))), .val (.double (FP.ddiv (FP.l2d ((((-12 : Int64) <<< ((p1 &&& (31 : Int32)) &&& 0x3f).toInt64) + (1 : Int64)) + (p0 &&& (4503599627370495 : Int64)))) (FP.l2d ((1 : Int64) <<< ((p1 &&& (31 : Int32)) &&& 0x3f).toInt64)))), .second, .val (.long ((-12 : Int64) <<< ((p1 &&& (31 : Int32)) &&& 0x3f).toInt64)), .second, .val (.long ((((-12 : Int64) <<< ((p1 &&& (31 : Int32)) &&& 0x3f).toInt64) + (1 : Int64)) + (p0 &&& (4503599627370495 : Int64)))), .second, .unset, .unset, .unset, .unset, .unset, .unset]) rfl ?_
      show Steps p.tables e below (T0.setTop (mkF m 50 #[.val (.long p0), .second, .val (.int p1), .val (.int p2), .val (.int p3), .val (.int ((p2 &&& (2147483647 : Int32)) - ((p2 &&& (2147483647 : Int32)) / (3 : Int32)) * (3 : Int32))), .val (.int (p1 &&& (31 : Int32))), .val (.double (FP.ddiv (FP.l2d ((((-12 : Int64) <<< ((p1 &&& (31 : Int32)) &&& 0x3f).toInt64) + (1 : Int64)) + (p0 &&& (4503599627370495 : Int64)))) (FP.l2d ((1 : Int64) <<< ((p1 &&& (31 : Int32)) &&& 0x3f).toInt64)))), .second, .val (.long ((-12 : Int64) <<< ((p1 &&& (31 : Int32)) &&& 0x3f).toInt64)), .second, .val (.long ((((-12 : Int64) <<< ((p1 &&& (31 : Int32)) &&& 0x3f).toInt64) + (1 : Int64)) + (p0 &&& (4503599627370495 : Int64)))), .second, .unset, .unset, .unset, .unset, .unset, .unset] [])) t
      refine XS.goto P0.here P0.x rfl (pc0 := 50) (pc' := 117) rfl (hb hby at_50) (by decide) (by decide) ?_
      show Steps p.tables e below (T0.setTop (mkF m 117 #[.val (.long p0), .second, .val (.int p1), .val (.int p2), .val (.int p3), .val (.int ((p2 &&& (2147483647 : Int32)) - ((p2 &&& (2147483647 : Int32)) / (3 : Int32)) * (3 : Int32))), .val (.int (p1 &&& (31 : Int32))), .val (.double (FP.ddiv (FP.l2d ((((-12 : Int64) <<< ((p1 &&& (31 : Int32)) &&& 0x3f).toInt64) + (1 : Int64)) + (p0 &&& (4503599627370495 : Int64)))) (FP.l2d ((1 : Int64) <<< ((p1 &&& (31 : Int32)) &&& 0x3f).toInt64)))), .second, .val (.long ((-12 : Int64) <<< ((p1 &&& (31 : Int32)) &&& 0x3f).toInt64)), .second, .val (.long ((((-12 : Int64) <<< ((p1 &&& (31 : Int32)) &&& 0x3f).toInt64) + (1 : Int64)) + (p0 &&& (4503599627370495 : Int64)))), .second, .unset, .unset, .unset, .unset, .unset, .unset] [])) t
      refine XS.iload P0.here P0.x rfl (hb hby at_117) rfl ?_
      show Steps p.tables e below (T0.setTop (mkF m 119 #[.val (.long p0), .second, .val (.int p1), .val (.int p2), .val (.int p3), .val (.int ((p2 &&& (2147483647 : Int32)) - ((p2 &&& (2147483647 : Int32)) / (3 : Int32)) * (3 : Int32))), .val (.int (p1 &&& (31 : Int32))), .val (.double (FP.ddiv (FP.l2d ((((-12 : Int64) <<< ((p1 &&& (31 : Int32)) &&& 0x3f).toInt64) + (1 : Int64)) + (p0 &&& (4503599627370495 : Int64)))) (FP.l2d ((1 : Int64) <<< ((p1 &&& (31 : Int32)) &&& 0x3f).toInt64)))), .second, .val (.long ((-12 : Int64) <<< ((p1 &&& (31 : Int32)) &&& 0x3f).toInt64)), .second, .val (.long ((((-12 : Int64) <<< ((p1 &&& (31 : Int32)) &&& 0x3f).toInt64) + (1 : Int64)) + (p0 &&& (4503599627370495 : Int64)))), .second, .unset, .unset, .unset, .unset, .unset, .unset] [(.int p3)])) t
      refine XS.sipush P0.here P0.x rfl (hb hby at_119) ?_
      show Steps p.tables e below (T0.setTop (mkF m 122 #[.val (.long p0), .second, .val (.int p1), .val (.int p2), .val (.int p3), .val (.int ((p2 &&& (2147483647 : Int32)) - ((p2 &&& (2147483647 : Int32)) / (3 : Int32)) * (3 : Int32))), .val (.int (p1 &&& (31 : Int32))), .val (.double (FP.ddiv (FP.l2d ((((-12 : Int64) <<< ((p1 &&& (31 : Int32)) &&& 0x3f).toInt64) + (1 : Int64)) + (p0 &&& (4503599627370495 : Int64)))) (FP.l2d ((1 : Int64) <<< ((p1 &&& (31 : Int32)) &&& 0x3f).toInt64)))), .second, .val (.long ((-12 : Int64) <<< ((p1 &&& (31 : Int32)) &&& 0x3f).toInt64)), .second, .val (.long ((((-12 : Int64) <<< ((p1 &&& (31 : Int32)) &&& 0x3f).toInt64) + (1 : Int64)) + (p0 &&& (4503599627370495 : Int64)))), .second, .unset, .unset, .unset, .unset, .unset, .unset] [(.int (255 : Int32)), (.int p3)])) t
      refine XS.iand P0.here P0.x rfl (hb hby at_122) rfl ?_
      show Steps p.tables e below (T0.setTop (mkF m 123 #[.val (.long p0), .second, .val (.int p1), .val (.int p2), .val (.int p3), .val (.int ((p2 &&& (2147483647 : Int32)) - ((p2 &&& (2147483647 : Int32)) / (3 : Int32)) * (3 : Int32))), .val (.int (p1 &&& (31 : Int32))), .val (.double (FP.ddiv (FP.l2d ((((-12 : Int64) <<< ((p1 &&& (31 : Int32)) &&& 0x3f).toInt64) + (1 : Int64)) + (p0 &&& (4503599627370495 : Int64)))) (FP.l2d ((1 : Int64) <<< ((p1 &&& (31 : Int32)) &&& 0x3f).toInt64)))), .second, .val (.long ((-12 : Int64) <<< ((p1 &&& (31 : Int32)) &&& 0x3f).toInt64)), .second, .val (.long ((((-12 : Int64) <<< ((p1 &&& (31 : Int32)) &&& 0x3f).toInt64) + (1 : Int64)) + (p0 &&& (4503599627370495 : Int64)))), .second, .unset, .unset, .unset, .unset, .unset, .unset] [(.int (p3 &&& (255 : Int32)))])) t
      refine XS.i2c P0.here P0.x rfl (hb hby at_123) rfl ?_
      exact kk
    show Done _ _ _ _ _ _ _ _ _ _ _ _ _ _ _ T0 (mkF m 124 #[.val (.long p0), .second, .val (.int p1), .val (.int p2), .val (.int p3), .val (.int ((p2 &&& (2147483647 : Int32)) - ((p2 &&& (2147483647 : Int32)) / (3 : Int32)) * (3 : Int32))), .val (.int (p1 &&& (31 : Int32))), .val (.double (FP.ddiv (FP.l2d ((((-12 : Int64) <<< ((p1 &&& (31 : Int32)) &&& 0x3f).toInt64) + (1 : Int64)) + (p0 &&& (4503599627370495 : Int64)))) (FP.l2d ((1 : Int64) <<< ((p1 &&& (31 : Int32)) &&& 0x3f).toInt64)))), .second, .val (.long ((-12 : Int64) <<< ((p1 &&& (31 : Int32)) &&& 0x3f).toInt64)), .second, .val (.long ((((-12 : Int64) <<< ((p1 &&& (31 : Int32)) &&& 0x3f).toInt64) + (1 : Int64)) + (p0 &&& (4503599627370495 : Int64)))), .second, .unset, .unset, .unset, .unset, .unset, .unset] [(.int (p3 &&& (255 : Int32)).toUInt32.toUInt16.toUInt32.toInt32)])
    generalize g_ch : (p3 &&& (255 : Int32)).toUInt32.toUInt16.toUInt32.toInt32 = ch
    have hch : ¬ ((255 : Int32) < ch) := by rw [← g_ch]; exact own_ch _
    show Done _ _ _ _ _ _ _ _ _ _ _ _ _ _ _ T0 (mkF m 124 #[.val (.long p0), .second, .val (.int p1), .val (.int p2), .val (.int p3), .val (.int ((p2 &&& (2147483647 : Int32)) - ((p2 &&& (2147483647 : Int32)) / (3 : Int32)) * (3 : Int32))), .val (.int (p1 &&& (31 : Int32))), .val (.double (FP.ddiv (FP.l2d ((((-12 : Int64) <<< ((p1 &&& (31 : Int32)) &&& 0x3f).toInt64) + (1 : Int64)) + (p0 &&& (4503599627370495 : Int64)))) (FP.l2d ((1 : Int64) <<< ((p1 &&& (31 : Int32)) &&& 0x3f).toInt64)))), .second, .val (.long ((-12 : Int64) <<< ((p1 &&& (31 : Int32)) &&& 0x3f).toInt64)), .second, .val (.long ((((-12 : Int64) <<< ((p1 &&& (31 : Int32)) &&& 0x3f).toInt64) + (1 : Int64)) + (p0 &&& (4503599627370495 : Int64)))), .second, .unset, .unset, .unset, .unset, .unset, .unset] [(.int ch)])
    show Done _ _ _ _ _ _ _ _ _ _ _ _ _ _ _ T0 (mkF m 124 #[.val (.long p0), .second, .val (.int p1), .val (.int p2), .val (.int p3), .val (.int ((p2 &&& (2147483647 : Int32)) - ((p2 &&& (2147483647 : Int32)) / (3 : Int32)) * (3 : Int32))), .val (.int (p1 &&& (31 : Int32))), .val (.double (FP.ddiv (FP.l2d ((((-12 : Int64) <<< ((p1 &&& (31 : Int32)) &&& 0x3f).toInt64) + (1 : Int64)) + (p0 &&& (4503599627370495 : Int64)))) (FP.l2d ((1 : Int64) <<< ((p1 &&& (31 : Int32)) &&& 0x3f).toInt64)))), .second, .val (.long ((-12 : Int64) <<< ((p1 &&& (31 : Int32)) &&& 0x3f).toInt64)), .second, .val (.long ((((-12 : Int64) <<< ((p1 &&& (31 : Int32)) &&& 0x3f).toInt64) + (1 : Int64)) + (p0 &&& (4503599627370495 : Int64)))), .second, .unset, .unset, .unset, .unset, .unset, .unset] [(.int ch)])
    refine wCallS P0 (m_valueOf l Z a0 hw hs ch cs h0 S0 hcs hch) (tw2 hw) (tw3 hw) (tw4 hw) (tw5 hw) (by decide) (by rw [hml]; rfl) (lenOf pd_5 rfl) (argsL := [(.int ch)]) (rest := []) rfl rfl (W := 0) (Nat.le_of_eq rfl) (by decide) (by decide) (by decide) (by decide) (by simp) (hb hby at_124) rfl (k' := 2) (n' := 5) rfl rfl ?_
    rintro T35 h48 _ P36 K49 ⟨b37, b38, rfl, q39, q40, q41, q42, q43, q44, q45, q46, q47⟩
    have szh48 : h0.size ≤ h48.size := K49.1
    show Done _ _ _ _ _ _ _ _ _ _ _ _ _ _ _ T35 (mkF m 127 #[.val (.long p0), .second, .val (.int p1), .val (.int p2), .val (.int p3), .val (.int ((p2 &&& (2147483647 : Int32)) - ((p2 &&& (2147483647 : Int32)) / (3 : Int32)) * (3 : Int32))), .val (.int (p1 &&& (31 : Int32))), .val (.double (FP.ddiv (FP.l2d ((((-12 : Int64) <<< ((p1 &&& (31 : Int32)) &&& 0x3f).toInt64) + (1 : Int64)) + (p0 &&& (4503599627370495 : Int64)))) (FP.l2d ((1 : Int64) <<< ((p1 &&& (31 : Int32)) &&& 0x3f).toInt64)))), .second, .val (.long ((-12 : Int64) <<< ((p1 &&& (31 : Int32)) &&& 0x3f).toInt64)), .second, .val (.long ((((-12 : Int64) <<< ((p1 &&& (31 : Int32)) &&& 0x3f).toInt64) + (1 : Int64)) + (p0 &&& (4503599627370495 : Int64)))), .second, .unset, .unset, .unset, .unset, .unset, .unset] [(.ref b37)])
    refine Done.step (T' := T35) (g' := (mkF m 129 #[.val (.long p0), .second, .val (.int p1), .val (.int p2), .val (.int p3), .val (.int ((p2 &&& (2147483647 : Int32)) - ((p2 &&& (2147483647 : Int32)) / (3 : Int32)) * (3 : Int32))), .val (.int (p1 &&& (31 : Int32))), .val (.double (FP.ddiv (FP.l2d ((((-12 : Int64) <<< ((p1 &&& (31 : Int32)) &&& 0x3f).toInt64) + (1 : Int64)) + (p0 &&& (4503599627370495 : Int64)))) (FP.l2d ((1 : Int64) <<< ((p1 &&& (31 : Int32)) &&& 0x3f).toInt64)))), .second, .val (.long ((-12 : Int64) <<< ((p1 &&& (31 : Int32)) &&& 0x3f).toInt64)), .second, .val (.long ((((-12 : Int64) <<< ((p1 &&& (31 : Int32)) &&& 0x3f).toInt64) + (1 : Int64)) + (p0 &&& (4503599627370495 : Int64)))), .second, .unset, .unset, .unset, .unset, .unset, .unset] [(.double (FP.ddiv (FP.l2d ((((-12 : Int64) <<< ((p1 &&& (31 : Int32)) &&& 0x3f).toInt64) + (1 : Int64)) + (p0 &&& (4503599627370495 : Int64)))) (FP.l2d ((1 : Int64) <<< ((p1 &&& (31 : Int32)) &&& 0x3f).toInt64)))), (.ref b37)])) (fun t kk => ?_) ?_
    · show Steps p.tables e below (T35.setTop (mkF m 127 #[.val (.long p0), .second, .val (.int p1), .val (.int p2), .val (.int p3), .val (.int ((p2 &&& (2147483647 : Int32)) - ((p2 &&& (2147483647 : Int32)) / (3 : Int32)) * (3 : Int32))), .val (.int (p1 &&& (31 : Int32))), .val (.double (FP.ddiv (FP.l2d ((((-12 : Int64) <<< ((p1 &&& (31 : Int32)) &&& 0x3f).toInt64) + (1 : Int64)) + (p0 &&& (4503599627370495 : Int64)))) (FP.l2d ((1 : Int64) <<< ((p1 &&& (31 : Int32)) &&& 0x3f).toInt64)))), .second, .val (.long ((-12 : Int64) <<< ((p1 &&& (31 : Int32)) &&& 0x3f).toInt64)), .second, .val (.long ((((-12 : Int64) <<< ((p1 &&& (31 : Int32)) &&& 0x3f).toInt64) + (1 : Int64)) + (p0 &&& (4503599627370495 : Int64)))), .second, .unset, .unset, .unset, .unset, .unset, .unset] [(.ref b37)])) t
      refine XS.dload P36.here P36.x rfl (hb hby at_127) rfl ?_
      exact kk
    show Done _ _ _ _ _ _ _ _ _ _ _ _ _ _ _ T35 (mkF m 129 #[.val (.long p0), .second, .val (.int p1), .val (.int p2), .val (.int p3), .val (.int ((p2 &&& (2147483647 : Int32)) - ((p2 &&& (2147483647 : Int32)) / (3 : Int32)) * (3 : Int32))), .val (.int (p1 &&& (31 : Int32))), .val (.double (FP.ddiv (FP.l2d ((((-12 : Int64) <<< ((p1 &&& (31 : Int32)) &&& 0x3f).toInt64) + (1 : Int64)) + (p0 &&& (4503599627370495 : Int64)))) (FP.l2d ((1 : Int64) <<< ((p1 &&& (31 : Int32)) &&& 0x3f).toInt64)))), .second, .val (.long ((-12 : Int64) <<< ((p1 &&& (31 : Int32)) &&& 0x3f).toInt64)), .second, .val (.long ((((-12 : Int64) <<< ((p1 &&& (31 : Int32)) &&& 0x3f).toInt64) + (1 : Int64)) + (p0 &&& (4503599627370495 : Int64)))), .second, .unset, .unset, .unset, .unset, .unset, .unset] [(.double (FP.ddiv (FP.l2d ((((-12 : Int64) <<< ((p1 &&& (31 : Int32)) &&& 0x3f).toInt64) + (1 : Int64)) + (p0 &&& (4503599627370495 : Int64)))) (FP.l2d ((1 : Int64) <<< ((p1 &&& (31 : Int32)) &&& 0x3f).toInt64)))), (.ref b37)])
    refine wCallS P36 (m_require l Z a0 hw hs b37 (FP.ddiv (FP.l2d ((((-12 : Int64) <<< ((p1 &&& (31 : Int32)) &&& 0x3f).toInt64) + (1 : Int64)) + (p0 &&& (4503599627370495 : Int64)))) (FP.l2d ((1 : Int64) <<< ((p1 &&& (31 : Int32)) &&& 0x3f).toInt64))) h48 f1 g1) (tw28 hw) (tw29 hw) (tw30 hw) (tw31 hw) (by decide) (by rw [hml]; rfl) (lenOf pd_6 rfl) (argsL := [(.ref b37), (.double (FP.ddiv (FP.l2d ((((-12 : Int64) <<< ((p1 &&& (31 : Int32)) &&& 0x3f).toInt64) + (1 : Int64)) + (p0 &&& (4503599627370495 : Int64)))) (FP.l2d ((1 : Int64) <<< ((p1 &&& (31 : Int32)) &&& 0x3f).toInt64))))]) (rest := []) rfl rfl (W := 0) (Nat.le_of_eq rfl) (by decide) (by decide) (by decide) (by decide) (by simp) (hb hby at_129) rfl (k' := 2) (n' := 5) rfl rfl ?_
    rintro T50 _ _ P51 - ⟨rfl, rfl⟩
    show Done _ _ _ _ _ _ _ _ _ _ _ _ _ _ _ T50 (mkF m 132 #[.val (.long p0), .second, .val (.int p1), .val (.int p2), .val (.int p3), .val (.int ((p2 &&& (2147483647 : Int32)) - ((p2 &&& (2147483647 : Int32)) / (3 : Int32)) * (3 : Int32))), .val (.int (p1 &&& (31 : Int32))), .val (.double (FP.ddiv (FP.l2d ((((-12 : Int64) <<< ((p1 &&& (31 : Int32)) &&& 0x3f).toInt64) + (1 : Int64)) + (p0 &&& (4503599627370495 : Int64)))) (FP.l2d ((1 : Int64) <<< ((p1 &&& (31 : Int32)) &&& 0x3f).toInt64)))), .second, .val (.long ((-12 : Int64) <<< ((p1 &&& (31 : Int32)) &&& 0x3f).toInt64)), .second, .val (.long ((((-12 : Int64) <<< ((p1 &&& (31 : Int32)) &&& 0x3f).toInt64) + (1 : Int64)) + (p0 &&& (4503599627370495 : Int64)))), .second, .unset, .unset, .unset, .unset, .unset, .unset] [])
    refine Done.step (T' := T50) (g' := (mkF m 133 #[.val (.long p0), .second, .val (.int p1), .val (.int p2), .val (.int p3), .val (.int ((p2 &&& (2147483647 : Int32)) - ((p2 &&& (2147483647 : Int32)) / (3 : Int32)) * (3 : Int32))), .val (.int (p1 &&& (31 : Int32))), .val (.double (FP.ddiv (FP.l2d ((((-12 : Int64) <<< ((p1 &&& (31 : Int32)) &&& 0x3f).toInt64) + (1 : Int64)) + (p0 &&& (4503599627370495 : Int64)))) (FP.l2d ((1 : Int64) <<< ((p1 &&& (31 : Int32)) &&& 0x3f).toInt64)))), .second, .val (.long ((-12 : Int64) <<< ((p1 &&& (31 : Int32)) &&& 0x3f).toInt64)), .second, .val (.long ((((-12 : Int64) <<< ((p1 &&& (31 : Int32)) &&& 0x3f).toInt64) + (1 : Int64)) + (p0 &&& (4503599627370495 : Int64)))), .second, .unset, .unset, .unset, .unset, .unset, .unset] [(.int (1 : Int32))])) (fun t kk => ?_) ?_
    · show Steps p.tables e below (T50.setTop (mkF m 132 #[.val (.long p0), .second, .val (.int p1), .val (.int p2), .val (.int p3), .val (.int ((p2 &&& (2147483647 : Int32)) - ((p2 &&& (2147483647 : Int32)) / (3 : Int32)) * (3 : Int32))), .val (.int (p1 &&& (31 : Int32))), .val (.double (FP.ddiv (FP.l2d ((((-12 : Int64) <<< ((p1 &&& (31 : Int32)) &&& 0x3f).toInt64) + (1 : Int64)) + (p0 &&& (4503599627370495 : Int64)))) (FP.l2d ((1 : Int64) <<< ((p1 &&& (31 : Int32)) &&& 0x3f).toInt64)))), .second, .val (.long ((-12 : Int64) <<< ((p1 &&& (31 : Int32)) &&& 0x3f).toInt64)), .second, .val (.long ((((-12 : Int64) <<< ((p1 &&& (31 : Int32)) &&& 0x3f).toInt64) + (1 : Int64)) + (p0 &&& (4503599627370495 : Int64)))), .second, .unset, .unset, .unset, .unset, .unset, .unset] [])) t
      refine XS.iconst P51.here P51.x rfl (hb hby at_132) ?_
      exact kk
    show Done _ _ _ _ _ _ _ _ _ _ _ _ _ _ _ T50 (mkF m 133 #[.val (.long p0), .second, .val (.int p1), .val (.int p2), .val (.int p3), .val (.int ((p2 &&& (2147483647 : Int32)) - ((p2 &&& (2147483647 : Int32)) / (3 : Int32)) * (3 : Int32))), .val (.int (p1 &&& (31 : Int32))), .val (.double (FP.ddiv (FP.l2d ((((-12 : Int64) <<< ((p1 &&& (31 : Int32)) &&& 0x3f).toInt64) + (1 : Int64)) + (p0 &&& (4503599627370495 : Int64)))) (FP.l2d ((1 : Int64) <<< ((p1 &&& (31 : Int32)) &&& 0x3f).toInt64)))), .second, .val (.long ((-12 : Int64) <<< ((p1 &&& (31 : Int32)) &&& 0x3f).toInt64)), .second, .val (.long ((((-12 : Int64) <<< ((p1 &&& (31 : Int32)) &&& 0x3f).toInt64) + (1 : Int64)) + (p0 &&& (4503599627370495 : Int64)))), .second, .unset, .unset, .unset, .unset, .unset, .unset] [(.int (1 : Int32))])
    exact wRet P51 (t := .boolean) hret (narrow_01 (Or.inr rfl)) (Or.inl ⟨rfl, Or.inr (Or.inl rfl), _, rfl⟩) (hb hby at_133) rfl
set_option maxRecDepth 65536 in
set_option maxHeartbeats 4000000 in
theorem comes_1 {Post : Tables → Env → Array Value → State → Outcome → State → Prop} (hpost : ∀ tb e args s v u, (limb_1_1.after args s (.returned v) u = true ∧ limb_1_2.after args s (.returned v) u = true ∧ True) → FrameEnd s (.returned v) u (Jvm.fieldLocs frame_1_writes args s ++ Jvm.arrayLocs frame_1_arrays args s ++ Jvm.staticLocs frame_1_statics s) 16 128 → Post tb e args s (.returned v) u) :
    ArmFor flags0 classFile x code maxLocals ret World_1 tables_1 room_1 Calls_1 rest_1 Pre_1 Post := by
  intro l hfl _ _ p e ha hc hk s m args below hf hA hF happ hP
  obtain ⟨hcalls, hrest, hpre⟩ := hP
  obtain ⟨-, -, -, hnamed, -, -, -, hat⟩ := (Spec.applies_iff hf).mp happ
  obtain ⟨hg, hn⟩ := and_e (Cond.before_iff.mp (show (Jvm.Cond.and given_1 narrow_1).before args s = true from hpre))
  obtain ⟨h1, g0⟩ := and_e hg
  obtain ⟨q0, g1⟩ := and_e g0
  obtain ⟨q1, g2⟩ := and_e g1
  obtain ⟨q2, g3⟩ := and_e g2
  obtain ⟨w0, w1, w2, w3, rfl⟩ : ∃ w0 w1 w2 w3 : Value, args = #[w0, w1, w2, w3] := by
    have hs : args.size = 4 := by simpa [Cond.value, given_1] using h1
    obtain ⟨L⟩ := args
    match L, hs with
    | [w0, w1, w2, w3], _ => exact ⟨w0, w1, w2, w3, rfl⟩
  have hw := fun d (hd : d ∈ tables_1) => atoms_spec (ws := Jvm.Cond.code x code maxLocals ret :: tables_1) hat d (List.mem_cons_of_mem _ hd)
  have hfit : Fit s := fun {y c} hc i hi => by
    obtain ⟨ha, rfl⟩ := Array.getElem?_eq_some_iff.mp hc
    have q := List.all_eq_true.mp ((Array.all_eq_true_iff_forall_mem.mp hF) _ (Array.getElem_mem ha)) i (List.mem_range.mpr hi)
    simpa [Array.getElem?_eq_getElem hi] using q
  obtain ⟨i0, e0⟩ := isL_v q0
  obtain rfl : w0 = (.long i0) := Option.some.inj e0
  obtain ⟨i1, e1⟩ := is_v q1
  obtain rfl : w1 = (.int i1) := Option.some.inj e1
  obtain ⟨i2, e2⟩ := is_v q2
  obtain rfl : w2 = (.int i2) := Option.some.inj e2
  obtain ⟨i3, e3⟩ := is_v g3
  obtain rfl : w3 = (.int i3) := Option.some.inj e3
  obtain ⟨hsets, hown0⟩ := atoms_of _ (rest_1_c_eq ▸ (show rest_1_c.before _ s = true from hrest))
  have nCS := not_v (Cond.before_iff.mp (hsets _ (List.mem_of_getElem? (i := 2) rfl)))
  obtain ⟨cs, eCS⟩ := is_v (Cond.before_iff.mp (hsets _ (List.mem_of_getElem? (i := 1) rfl)))
  have S0 : Sta s s.heap "java/lang/String" "COMPACT_STRINGS" "Z" (.int cs) := Sta.start eCS (Or.inl (hsets _ (List.mem_of_getElem? (i := 0) rfl)))
  have hcs : ¬ (cs = (0 : Int32)) := gotF (Cond.eq_ints eCS (Term.int_eval (0))) nCS
  obtain ⟨n, o, h1, h2, h3, _, L, rfl, ⟨rfl, N, -⟩, hq⟩ := m_law l s _ hw hsets i0 i1 i2 i3 cs s.heap S0 hcs p e ha hc hk s m _ below hf ((Spec.applies_iff_loose hf).mp happ).1 ⟨rfl, State.Warmed39.refl s, rfl⟩ trivial
  refine ⟨n, _, h1, h2, h3, hpost _ _ _ _ _ _ ⟨Cond.after_iff.mpr rfl, Cond.after_iff.mpr (eq_i res_at (Term.int_eval (1)) rfl), trivial⟩ ⟨hq.1, hq.2.1, (hq.2.2.sift fun y hy => Or.inr ((N y hy).resolve_left (by simp))).mono (by decide) (by decide)⟩⟩
theorem main_1_1 : Claimed_1_1 := comes_1 fun _ _ _ _ _ _ h hF => ⟨h.1, hF⟩
theorem main_1_2 : Claimed_1_2 := comes_1 fun _ _ _ _ _ _ h hF => ⟨h.2.1, hF⟩
end Jvm.Pilot.@@N@@
namespace Jvm.Pilot.@@N@@
open Jvm Jvm.ClassFile Sem Op Lib Jvm.Free Jvm.Stand Jvm.Pilot.@@N@@.Jvm.D
/-! MADE BY PROGRAM (witnessworld.py) out of the Statement's table words and the real class files: 21 classes; the members and pool entries that the words name. The judged class is class 1, her method 1. -/
namespace start1
open Jvm.ClassFile
def u (s : String) : CpInfo := .utf8 (stringToUtf16 s)
/-- a pool by its gaps: so many unusable entries, then the entry; so many at the end -/
def gap : Nat → List CpInfo → List CpInfo
  | 0, r => r
  | n + 1, r => .unusable :: gap n r
def poolList (es : List (Nat × CpInfo)) (last : Nat) : List CpInfo := es.foldr (fun e r => gap e.1 (e.2 :: r)) (gap last [])
def pool (es : List (Nat × CpInfo)) (last : Nat) : Array CpInfo := ⟨poolList es last⟩
def fileOf (pool : Array CpInfo) (this : Nat) (attrs : Array Attribute := #[]) (ms : Array MethodInfo := #[]) (fl : Nat := 33) (sup : Nat := 0) (ifs : Array Nat := #[]) (fds : Array FieldInfo := #[]) : ClassFile where
  minorVersion := 0
  majorVersion := 65
  constantPool := pool
  accessFlags := fl
  thisClass := this
  superClass := sup
  interfaces := ifs
  fields := fds
  methods := ms
  attributes := attrs
def plain (name : String) (sup : Option ClassId) : Class where
  name := name
  kind := .ordinary
  loader := none
  accessFlags := 33
  super := sup
  interfaces := #[]
  cf := none
  fields := #[]
  methods := #[]
  instanceTypes := #[]
  staticTypes := #[]
  resolved := #[]
  callSites := []
  init := .initialized
  statics := none
  mirror := none

def pool0 : Array CpInfo := pool [(5, u "<init>"), (0, u "()V"), (1, .class_ 10), (1, u "java/lang/Object")] 113

def k0c0 : Code := { maxStack := 0, maxLocals := 1, code := object_method_1_code, exceptionTable := #[], attributes := #[] }
def k0m0 : Method := { name := "<init>", desc := "()V", sig := { parameters := [], returnType := none }, accessFlags := 1, code := some k0c0 }
/-- java/lang/Object -/
def k0 : Class := { plain "java/lang/Object" none with
  accessFlags := 33
  interfaces := #[]
  cf := some (fileOf pool0 8 #[] #[{ accessFlags := 1, nameIndex := 5, descriptorIndex := 6, attributes := #[] }] 33 0 #[] #[])
  fields := #[]
  methods := #[k0m0]
  instanceTypes := #[]
  staticTypes := #[]
  resolved := Array.replicate 124 none
  statics := none }

def pool1 : Array CpInfo := pool [(2, .class_ 4), (1, u "java/lang/Object"), (0, u "<init>"), (0, u "()V"), (0, .integer 2147483647), (0, .long 18446744073709551604), (1, .long 4503599627370495), (1, .double 4886405595696988160), (1, .long 255), (1, .double 4629700416936869888), (1, .methodref 19 20), (0, .class_ 21), (0, .nameAndType 22 23), (0, u "java/lang/String"), (0, u "valueOf"), (0, u "(C)Ljava/lang/String;"), (0, .methodref 25 26), (0, .class_ 27), (0, .nameAndType 28 29), (0, u "com/example/late_harvest/lateharvest/pricing/Loan"), (0, u "requireMonthlyFactor"), (0, u "(Ljava/lang/String;D)V"), (0, .class_ 31), (0, u "com/example/late_harvest/lateharvest/pricing/LoanRequireMonthlyFactorPinLaw"), (2, u "law"), (0, u "(JIII)Z")] 3

def k1m0 : Method := { name := "<init>", desc := "()V", sig := { parameters := [], returnType := none }, accessFlags := 1, code := none }
def k1c1 : Code := { maxStack := 6, maxLocals := 19, code := code, exceptionTable := #[], attributes := #[] }
def k1m1 : Method := { name := "law", desc := "(JIII)Z", sig := { parameters := [.long, .int, .int, .int], returnType := some .boolean }, accessFlags := 9, code := some k1c1 }
/-- com/example/late_harvest/lateharvest/pricing/LoanRequireMonthlyFactorPinLaw -/
def k1 : Class := { plain "com/example/late_harvest/lateharvest/pricing/LoanRequireMonthlyFactorPinLaw" (some 0) with
  accessFlags := 49
  interfaces := #[]
  cf := some (fileOf pool1 30 #[] #[{ accessFlags := 1, nameIndex := 5, descriptorIndex := 6, attributes := #[] }, { accessFlags := 9, nameIndex := 34, descriptorIndex := 35, attributes := #[] }] 49 2 #[] #[])
  fields := #[]
  methods := #[k1m0, k1m1]
  instanceTypes := #[]
  staticTypes := #[]
  resolved := Array.replicate 39 none
  statics := none }

def pool2 : Array CpInfo := pool [(1, .class_ 2), (0, u "java/io/Serializable"), (0, .class_ 4), (0, u "java/lang/Object")] 2

/-- java/io/Serializable -/
def k2 : Class := { plain "java/io/Serializable" (some 0) with
  accessFlags := 1537
  interfaces := #[]
  cf := some (fileOf pool2 1 #[] #[] 1537 3 #[] #[])
  fields := #[]
  methods := #[]
  instanceTypes := #[]
  staticTypes := #[]
  resolved := Array.replicate 7 none
  statics := none }

def pool3 : Array CpInfo := pool [(1, .class_ 2), (0, u "java/lang/Comparable"), (0, .class_ 4), (0, u "java/lang/Object")] 7

/-- java/lang/Comparable -/
def k3 : Class := { plain "java/lang/Comparable" (some 0) with
  accessFlags := 1537
  interfaces := #[]
  cf := some (fileOf pool3 1 #[] #[] 1537 3 #[] #[])
  fields := #[]
  methods := #[]
  instanceTypes := #[]
  staticTypes := #[]
  resolved := Array.replicate 12 none
  statics := none }

def pool4 : Array CpInfo := pool [(2, .class_ 4), (1, u "java/lang/CharSequence"), (42, .class_ 48), (0, u "java/lang/CharSequence$1CodePointIterator"), (10, .class_ 60), (0, u "java/lang/CharSequence$1CharIterator"), (5, .class_ 67), (0, u "java/lang/Object")] 63

/-- java/lang/CharSequence -/
def k4 : Class := { plain "java/lang/CharSequence" (some 0) with
  accessFlags := 1537
  interfaces := #[]
  cf := some (fileOf pool4 2 #[.nestMembers #[47, 59]] #[] 1537 66 #[] #[])
  fields := #[]
  methods := #[]
  instanceTypes := #[]
  staticTypes := #[]
  resolved := Array.replicate 131 none
  statics := none }

def pool5 : Array CpInfo := pool [(1, .class_ 2), (0, u "java/lang/constant/Constable"), (0, .class_ 4), (0, u "java/lang/Object")] 6

/-- java/lang/constant/Constable -/
def k5 : Class := { plain "java/lang/constant/Constable" (some 0) with
  accessFlags := 1537
  interfaces := #[]
  cf := some (fileOf pool5 1 #[] #[] 1537 3 #[] #[])
  fields := #[]
  methods := #[]
  instanceTypes := #[]
  staticTypes := #[]
  resolved := Array.replicate 11 none
  statics := none }

def pool6 : Array CpInfo := pool [(1, .class_ 2), (0, u "java/lang/constant/ConstantDesc"), (0, .class_ 4), (0, u "java/lang/Object")] 32

/-- java/lang/constant/ConstantDesc -/
def k6 : Class := { plain "java/lang/constant/ConstantDesc" (some 0) with
  accessFlags := 1537
  interfaces := #[]
  cf := some (fileOf pool6 1 #[] #[] 1537 3 #[] #[])
  fields := #[]
  methods := #[]
  instanceTypes := #[]
  staticTypes := #[]
  resolved := Array.replicate 37 none
  statics := none }

def pool7 : Array CpInfo := pool [(1, .methodref 2 3), (0, .class_ 4), (0, .nameAndType 5 6), (0, u "java/lang/Object"), (0, u "<init>"), (0, u "()V"), (2, .fieldref 10 11), (0, .class_ 12), (0, .nameAndType 13 14), (0, u "java/lang/String"), (0, u "value"), (0, u "[B"), (0, .fieldref 10 16), (0, .nameAndType 17 18), (0, u "coder"), (0, u "B"), (2, u "hash"), (0, u "I"), (2, u "hashIsZero"), (0, u "Z"), (11, .fieldref 10 39), (0, .nameAndType 40 26), (0, u "COMPACT_STRINGS"), (12, u "toBytes"), (53, .class_ 109), (1, u "java/lang/StringLatin1"), (99, .methodref 10 210), (0, .nameAndType 5 211), (0, u "([BB)V"), (157, u "(C)Z"), (205, .class_ 576), (0, u "java/lang/CharSequence"), (22, u "CASE_INSENSITIVE_ORDER"), (0, u "Ljava/util/Comparator;"), (181, u "valueOf"), (0, u "(C)Ljava/lang/String;"), (231, .methodref 107 1016), (0, .nameAndType 1017 369), (0, u "canEncode"), (0, .methodref 107 1019), (0, .nameAndType 53 1020), (0, u "(C)[B"), (80, u "serialPersistentFields"), (0, u "[Ljava/io/ObjectStreamField;"), (0, .class_ 1104), (0, u "java/lang/String$CaseInsensitiveComparator"), (1, .class_ 1107), (0, u "java/io/Serializable"), (0, .class_ 1109), (0, u "java/lang/Comparable"), (0, .class_ 1111), (0, u "java/lang/constant/Constable"), (0, .class_ 1113), (0, u "java/lang/constant/ConstantDesc"), (2, u "serialVersionUID"), (0, u "J"), (3, u "REPL"), (0, u "C"), (2, u "LATIN1"), (1, u "UTF16")] 323

def k7m0 : Method := { name := "<init>", desc := "()V", sig := { parameters := [], returnType := none }, accessFlags := 1, code := none }
def k7c1 : Code := { maxStack := 4, maxLocals := 1, code := jdk_42_method_139_code, exceptionTable := #[], attributes := #[] }
def k7m1 : Method := { name := "valueOf", desc := "(C)Ljava/lang/String;", sig := { parameters := [.char], returnType := some (.object "java/lang/String") }, accessFlags := 9, code := some k7c1 }
def k7c2 : Code := { maxStack := 2, maxLocals := 3, code := jdk_42_method_151_code, exceptionTable := #[], attributes := #[] }
def k7m2 : Method := { name := "<init>", desc := "([BB)V", sig := { parameters := [(.array .byte), .byte], returnType := none }, accessFlags := 0, code := some k7c2 }
/-- java/lang/String -/
def k7 : Class := { plain "java/lang/String" (some 0) with
  accessFlags := 49
  interfaces := #[2, 3, 4, 5, 6]
  cf := some (fileOf pool7 10 #[.nestMembers #[1103]] #[{ accessFlags := 1, nameIndex := 5, descriptorIndex := 6, attributes := #[] }, { accessFlags := 9, nameIndex := 782, descriptorIndex := 783, attributes := #[] }, { accessFlags := 0, nameIndex := 5, descriptorIndex := 211, attributes := #[] }] 49 2 #[1106, 1108, 575, 1110, 1112] #[{ accessFlags := 18, nameIndex := 13, descriptorIndex := 14, attributes := #[] }, { accessFlags := 18, nameIndex := 17, descriptorIndex := 18, attributes := #[] }, { accessFlags := 2, nameIndex := 21, descriptorIndex := 22, attributes := #[] }, { accessFlags := 2, nameIndex := 25, descriptorIndex := 26, attributes := #[] }, { accessFlags := 26, nameIndex := 1116, descriptorIndex := 1117, attributes := #[] }, { accessFlags := 24, nameIndex := 40, descriptorIndex := 26, attributes := #[] }, { accessFlags := 26, nameIndex := 1101, descriptorIndex := 1102, attributes := #[] }, { accessFlags := 26, nameIndex := 1121, descriptorIndex := 1122, attributes := #[] }, { accessFlags := 25, nameIndex := 599, descriptorIndex := 600, attributes := #[] }, { accessFlags := 24, nameIndex := 1125, descriptorIndex := 18, attributes := #[] }, { accessFlags := 24, nameIndex := 1127, descriptorIndex := 18, attributes := #[] }])
  fields := #[{ name := "value", type := (.array .byte), accessFlags := 18, slot := 0, constantValue := 0 }, { name := "coder", type := .byte, accessFlags := 18, slot := 1, constantValue := 0 }, { name := "hash", type := .int, accessFlags := 2, slot := 2, constantValue := 0 }, { name := "hashIsZero", type := .boolean, accessFlags := 2, slot := 3, constantValue := 0 }, { name := "serialVersionUID", type := .long, accessFlags := 26, slot := 0, constantValue := 0 }, { name := "COMPACT_STRINGS", type := .boolean, accessFlags := 24, slot := 1, constantValue := 0 }, { name := "serialPersistentFields", type := (.array (.object "java/io/ObjectStreamField")), accessFlags := 26, slot := 2, constantValue := 0 }, { name := "REPL", type := .char, accessFlags := 26, slot := 3, constantValue := 0 }, { name := "CASE_INSENSITIVE_ORDER", type := (.object "java/util/Comparator"), accessFlags := 25, slot := 4, constantValue := 0 }, { name := "LATIN1", type := .byte, accessFlags := 24, slot := 5, constantValue := 0 }, { name := "UTF16", type := .byte, accessFlags := 24, slot := 6, constantValue := 0 }]
  methods := #[k7m0, k7m1, k7m2]
  instanceTypes := #[(.array .byte), .byte, .int, .boolean]
  staticTypes := #[.long, .boolean, (.array (.object "java/io/ObjectStreamField")), .char, (.object "java/util/Comparator"), .byte, .byte]
  resolved := Array.replicate 1451 none
  statics := some 0 }

def pool8 : Array CpInfo := pool [(4, .class_ 6), (1, u "java/lang/Object"), (0, u "<init>"), (0, u "()V"), (5, .class_ 16), (1, u "java/lang/StringLatin1"), (73, u "canEncode"), (14, u "(C)Z"), (15, u "$assertionsDisabled"), (0, u "Z"), (98, .class_ 223), (1, u "java/lang/StringLatin1$LinesSpliterator"), (156, u "toBytes"), (1, u "(C)[B"), (7, .class_ 391), (0, u "java/lang/StringLatin1$CharsSpliterator")] 3

def k8m0 : Method := { name := "<init>", desc := "()V", sig := { parameters := [], returnType := none }, accessFlags := 0, code := none }
def k8c1 : Code := { maxStack := 2, maxLocals := 1, code := jdk_43_method_3_code, exceptionTable := #[], attributes := #[] }
def k8m1 : Method := { name := "canEncode", desc := "(C)Z", sig := { parameters := [.char], returnType := some .boolean }, accessFlags := 9, code := some k8c1 }
def k8c2 : Code := { maxStack := 4, maxLocals := 1, code := jdk_43_method_46_code, exceptionTable := #[], attributes := #[] }
def k8m2 : Method := { name := "toBytes", desc := "(C)[B", sig := { parameters := [.char], returnType := some (.array .byte) }, accessFlags := 9, code := some k8c2 }
/-- java/lang/StringLatin1 -/
def k8 : Class := { plain "java/lang/StringLatin1" (some 0) with
  accessFlags := 48
  interfaces := #[]
  cf := some (fileOf pool8 14 #[.nestMembers #[390, 221]] #[{ accessFlags := 0, nameIndex := 7, descriptorIndex := 8, attributes := #[] }, { accessFlags := 9, nameIndex := 90, descriptorIndex := 105, attributes := #[] }, { accessFlags := 9, nameIndex := 380, descriptorIndex := 382, attributes := #[] }] 48 4 #[] #[{ accessFlags := 4120, nameIndex := 121, descriptorIndex := 122, attributes := #[] }])
  fields := #[{ name := "$assertionsDisabled", type := .boolean, accessFlags := 4120, slot := 0, constantValue := 0 }]
  methods := #[k8m0, k8m1, k8m2]
  instanceTypes := #[]
  staticTypes := #[.boolean]
  resolved := Array.replicate 395 none
  statics := none }

def pool9 : Array CpInfo := pool [(2, .class_ 4), (1, u "java/lang/Object"), (0, u "<init>"), (0, u "()V"), (0, .class_ 8), (0, u "java/lang/Record")] 13

def k9m0 : Method := { name := "<init>", desc := "()V", sig := { parameters := [], returnType := none }, accessFlags := 4, code := none }
/-- java/lang/Record -/
def k9 : Class := { plain "java/lang/Record" (some 0) with
  accessFlags := 1057
  interfaces := #[]
  cf := some (fileOf pool9 7 #[] #[{ accessFlags := 4, nameIndex := 5, descriptorIndex := 6, attributes := #[] }] 1057 2 #[] #[])
  fields := #[]
  methods := #[k9m0]
  instanceTypes := #[]
  staticTypes := #[]
  resolved := Array.replicate 22 none
  statics := none }

def pool10 : Array CpInfo := pool [(4, .class_ 6), (1, u "java/lang/Record"), (5, .class_ 14), (1, u "com/example/late_harvest/lateharvest/pricing/Loan"), (1, u "(Ljava/lang/String;D)V"), (1, u "growth"), (2, u "requireMonthlyFactor"), (1, u "rate"), (11, u "propertyValue"), (0, u "D"), (6, u "upfrontPremium"), (2, u "monthlyPremium"), (2, u "nonRecourse"), (3, .double 13846317054350589952), (1, .methodref 56 57), (0, .class_ 58), (0, .nameAndType 59 60), (0, u "java/lang/Double"), (0, u "isInfinite"), (0, u "(D)Z"), (26, u "WHOLE_PROPERTY")] 55

def k10c0 : Code := { maxStack := 5, maxLocals := 3, code := prog_14_method_5_code, exceptionTable := #[], attributes := #[] }
def k10m0 : Method := { name := "requireMonthlyFactor", desc := "(Ljava/lang/String;D)V", sig := { parameters := [(.object "java/lang/String"), .double], returnType := none }, accessFlags := 8, code := some k10c0 }
/-- com/example/late_harvest/lateharvest/pricing/Loan -/
def k10 : Class := { plain "com/example/late_harvest/lateharvest/pricing/Loan" (some 9) with
  accessFlags := 49
  interfaces := #[]
  cf := some (fileOf pool10 12 #[] #[{ accessFlags := 8, nameIndex := 21, descriptorIndex := 16, attributes := #[] }] 49 4 #[] #[{ accessFlags := 18, nameIndex := 35, descriptorIndex := 36, attributes := #[] }, { accessFlags := 18, nameIndex := 18, descriptorIndex := 36, attributes := #[] }, { accessFlags := 18, nameIndex := 23, descriptorIndex := 36, attributes := #[] }, { accessFlags := 18, nameIndex := 43, descriptorIndex := 36, attributes := #[] }, { accessFlags := 18, nameIndex := 46, descriptorIndex := 36, attributes := #[] }, { accessFlags := 18, nameIndex := 49, descriptorIndex := 36, attributes := #[] }, { accessFlags := 25, nameIndex := 87, descriptorIndex := 36, attributes := #[] }])
  fields := #[{ name := "propertyValue", type := .double, accessFlags := 18, slot := 0, constantValue := 0 }, { name := "growth", type := .double, accessFlags := 18, slot := 1, constantValue := 0 }, { name := "rate", type := .double, accessFlags := 18, slot := 2, constantValue := 0 }, { name := "upfrontPremium", type := .double, accessFlags := 18, slot := 3, constantValue := 0 }, { name := "monthlyPremium", type := .double, accessFlags := 18, slot := 4, constantValue := 0 }, { name := "nonRecourse", type := .double, accessFlags := 18, slot := 5, constantValue := 0 }, { name := "WHOLE_PROPERTY", type := .double, accessFlags := 25, slot := 0, constantValue := 0 }]
  methods := #[k10m0]
  instanceTypes := #[.double, .double, .double, .double, .double, .double]
  staticTypes := #[.double]
  resolved := Array.replicate 143 none
  statics := none }

def pool11 : Array CpInfo := pool [(2, .class_ 4), (1, u "java/lang/Object"), (0, u "<init>"), (0, u "()V"), (1, .class_ 10), (1, u "java/lang/Number"), (2, .class_ 14), (0, u "java/io/Serializable"), (0, u "serialVersionUID"), (0, u "J")] 20

def k11m0 : Method := { name := "<init>", desc := "()V", sig := { parameters := [], returnType := none }, accessFlags := 1, code := none }
/-- java/lang/Number -/
def k11 : Class := { plain "java/lang/Number" (some 0) with
  accessFlags := 1057
  interfaces := #[2]
  cf := some (fileOf pool11 8 #[] #[{ accessFlags := 1, nameIndex := 5, descriptorIndex := 6, attributes := #[] }] 1057 2 #[13] #[{ accessFlags := 26, nameIndex := 15, descriptorIndex := 16, attributes := #[] }])
  fields := #[{ name := "serialVersionUID", type := .long, accessFlags := 26, slot := 0, constantValue := 0 }]
  methods := #[k11m0]
  instanceTypes := #[]
  staticTypes := #[.long]
  resolved := Array.replicate 37 none
  statics := none }

def pool12 : Array CpInfo := pool [(1, .class_ 2), (0, u "java/lang/Double"), (11, u "(D)Z"), (8, .class_ 25), (1, u "java/lang/Math"), (12, .methodref 23 39), (0, .nameAndType 40 41), (0, u "abs"), (0, u "(D)D"), (69, .double 9218868437227405311), (2, .class_ 116), (1, u "java/lang/Number"), (3, u "value"), (0, u "D"), (5, u "isInfinite"), (45, u "TYPE"), (0, u "Ljava/lang/Class;"), (0, .class_ 176), (0, u "java/lang/Comparable"), (0, .class_ 178), (0, u "java/lang/constant/Constable"), (0, .class_ 180), (0, u "java/lang/constant/ConstantDesc"), (0, u "POSITIVE_INFINITY"), (3, u "NEGATIVE_INFINITY"), (2, u "NaN"), (2, u "MAX_VALUE"), (0, u "MIN_NORMAL"), (0, u "MIN_VALUE"), (2, u "SIZE"), (0, u "I"), (1, u "PRECISION"), (1, u "MAX_EXPONENT"), (1, u "MIN_EXPONENT"), (1, u "BYTES"), (3, u "serialVersionUID"), (0, u "J")] 79

def k12c0 : Code := { maxStack := 4, maxLocals := 2, code := jdk_117_method_7_code, exceptionTable := #[], attributes := #[] }
def k12m0 : Method := { name := "isInfinite", desc := "(D)Z", sig := { parameters := [.double], returnType := some .boolean }, accessFlags := 9, code := some k12c0 }
/-- java/lang/Double -/
def k12 : Class := { plain "java/lang/Double" (some 11) with
  accessFlags := 49
  interfaces := #[3, 5, 6]
  cf := some (fileOf pool12 1 #[] #[{ accessFlags := 9, nameIndex := 127, descriptorIndex := 14, attributes := #[] }] 49 114 #[175, 177, 179] #[{ accessFlags := 25, nameIndex := 181, descriptorIndex := 121, attributes := #[] }, { accessFlags := 25, nameIndex := 185, descriptorIndex := 121, attributes := #[] }, { accessFlags := 25, nameIndex := 188, descriptorIndex := 121, attributes := #[] }, { accessFlags := 25, nameIndex := 191, descriptorIndex := 121, attributes := #[] }, { accessFlags := 25, nameIndex := 192, descriptorIndex := 121, attributes := #[] }, { accessFlags := 25, nameIndex := 193, descriptorIndex := 121, attributes := #[] }, { accessFlags := 25, nameIndex := 196, descriptorIndex := 197, attributes := #[] }, { accessFlags := 25, nameIndex := 199, descriptorIndex := 197, attributes := #[] }, { accessFlags := 25, nameIndex := 201, descriptorIndex := 197, attributes := #[] }, { accessFlags := 25, nameIndex := 203, descriptorIndex := 197, attributes := #[] }, { accessFlags := 25, nameIndex := 205, descriptorIndex := 197, attributes := #[] }, { accessFlags := 25, nameIndex := 173, descriptorIndex := 174, attributes := #[] }, { accessFlags := 18, nameIndex := 120, descriptorIndex := 121, attributes := #[] }, { accessFlags := 26, nameIndex := 209, descriptorIndex := 210, attributes := #[] }])
  fields := #[{ name := "POSITIVE_INFINITY", type := .double, accessFlags := 25, slot := 0, constantValue := 0 }, { name := "NEGATIVE_INFINITY", type := .double, accessFlags := 25, slot := 1, constantValue := 0 }, { name := "NaN", type := .double, accessFlags := 25, slot := 2, constantValue := 0 }, { name := "MAX_VALUE", type := .double, accessFlags := 25, slot := 3, constantValue := 0 }, { name := "MIN_NORMAL", type := .double, accessFlags := 25, slot := 4, constantValue := 0 }, { name := "MIN_VALUE", type := .double, accessFlags := 25, slot := 5, constantValue := 0 }, { name := "SIZE", type := .int, accessFlags := 25, slot := 6, constantValue := 0 }, { name := "PRECISION", type := .int, accessFlags := 25, slot := 7, constantValue := 0 }, { name := "MAX_EXPONENT", type := .int, accessFlags := 25, slot := 8, constantValue := 0 }, { name := "MIN_EXPONENT", type := .int, accessFlags := 25, slot := 9, constantValue := 0 }, { name := "BYTES", type := .int, accessFlags := 25, slot := 10, constantValue := 0 }, { name := "TYPE", type := (.object "java/lang/Class"), accessFlags := 25, slot := 11, constantValue := 0 }, { name := "value", type := .double, accessFlags := 18, slot := 0, constantValue := 0 }, { name := "serialVersionUID", type := .long, accessFlags := 26, slot := 12, constantValue := 0 }]
  methods := #[k12m0]
  instanceTypes := #[.double]
  staticTypes := #[.double, .double, .double, .double, .double, .double, .int, .int, .int, .int, .int, (.object "java/lang/Class"), .long]
  resolved := Array.replicate 290 none
  statics := none }

def pool13 : Array CpInfo := pool [(1, .class_ 2), (0, u "java/lang/Math"), (1, .class_ 6), (1, u "java/lang/Object"), (0, u "<init>"), (0, u "()V"), (5, u "(D)D"), (83, .class_ 100), (1, u "java/lang/Math$RandomNumberGeneratorHolder"), (23, u "abs"), (47, u "negativeZeroFloatBits"), (0, u "J"), (2, u "negativeZeroDoubleBits"), (68, u "$assertionsDisabled"), (0, u "Z"), (91, u "twoToTheDoubleScaleDown"), (0, u "D"), (4, u "twoToTheDoubleScaleUp"), (9, u "E"), (3, u "PI"), (2, u "TAU"), (2, u "DEGREES_TO_RADIANS"), (0, u "RADIANS_TO_DEGREES")] 94

def k13m0 : Method := { name := "<init>", desc := "()V", sig := { parameters := [], returnType := none }, accessFlags := 2, code := none }
def k13c1 : Code := { maxStack := 4, maxLocals := 2, code := jdk_29_method_64_code, exceptionTable := #[], attributes := #[] }
def k13m1 : Method := { name := "abs", desc := "(D)D", sig := { parameters := [.double], returnType := some .double }, accessFlags := 9, code := some k13c1 }
/-- java/lang/Math -/
def k13 : Class := { plain "java/lang/Math" (some 0) with
  accessFlags := 49
  interfaces := #[]
  cf := some (fileOf pool13 1 #[.nestMembers #[98]] #[{ accessFlags := 2, nameIndex := 7, descriptorIndex := 8, attributes := #[] }, { accessFlags := 9, nameIndex := 124, descriptorIndex := 14, attributes := #[] }] 49 4 #[] #[{ accessFlags := 25, nameIndex := 354, descriptorIndex := 339, attributes := #[] }, { accessFlags := 25, nameIndex := 358, descriptorIndex := 339, attributes := #[] }, { accessFlags := 25, nameIndex := 361, descriptorIndex := 339, attributes := #[] }, { accessFlags := 26, nameIndex := 364, descriptorIndex := 339, attributes := #[] }, { accessFlags := 26, nameIndex := 365, descriptorIndex := 339, attributes := #[] }, { accessFlags := 26, nameIndex := 172, descriptorIndex := 173, attributes := #[] }, { accessFlags := 26, nameIndex := 176, descriptorIndex := 173, attributes := #[] }, { accessFlags := 8, nameIndex := 344, descriptorIndex := 339, attributes := #[] }, { accessFlags := 8, nameIndex := 338, descriptorIndex := 339, attributes := #[] }, { accessFlags := 4120, nameIndex := 245, descriptorIndex := 246, attributes := #[] }])
  fields := #[{ name := "E", type := .double, accessFlags := 25, slot := 0, constantValue := 0 }, { name := "PI", type := .double, accessFlags := 25, slot := 1, constantValue := 0 }, { name := "TAU", type := .double, accessFlags := 25, slot := 2, constantValue := 0 }, { name := "DEGREES_TO_RADIANS", type := .double, accessFlags := 26, slot := 3, constantValue := 0 }, { name := "RADIANS_TO_DEGREES", type := .double, accessFlags := 26, slot := 4, constantValue := 0 }, { name := "negativeZeroFloatBits", type := .long, accessFlags := 26, slot := 5, constantValue := 0 }, { name := "negativeZeroDoubleBits", type := .long, accessFlags := 26, slot := 6, constantValue := 0 }, { name := "twoToTheDoubleScaleUp", type := .double, accessFlags := 8, slot := 7, constantValue := 0 }, { name := "twoToTheDoubleScaleDown", type := .double, accessFlags := 8, slot := 8, constantValue := 0 }, { name := "$assertionsDisabled", type := .boolean, accessFlags := 4120, slot := 9, constantValue := 0 }]
  methods := #[k13m0, k13m1]
  instanceTypes := #[]
  staticTypes := #[.double, .double, .double, .double, .double, .long, .long, .double, .double, .boolean]
  resolved := Array.replicate 460 none
  statics := none }

def pool14 : Array CpInfo := pool [(2, .class_ 4), (1, u "java/lang/Object"), (0, u "<init>"), (0, u "()V"), (17, .class_ 26), (1, u "jdk/internal/util/Preconditions"), (28, .class_ 56), (0, u "jdk/internal/util/Preconditions$4"), (57, .class_ 115), (0, u "jdk/internal/util/Preconditions$1"), (7, u "SIOOBE_FORMATTER"), (0, u "Ljava/util/function/BiFunction;"), (0, .class_ 126), (0, u "jdk/internal/util/Preconditions$2"), (3, u "AIOOBE_FORMATTER"), (0, .class_ 132), (0, u "jdk/internal/util/Preconditions$3"), (3, u "IOOBE_FORMATTER")] 57

def k14m0 : Method := { name := "<init>", desc := "()V", sig := { parameters := [], returnType := none }, accessFlags := 1, code := none }
/-- jdk/internal/util/Preconditions -/
def k14 : Class := { plain "jdk/internal/util/Preconditions" (some 0) with
  accessFlags := 33
  interfaces := #[]
  cf := some (fileOf pool14 24 #[.nestMembers #[55, 131, 125, 114]] #[{ accessFlags := 1, nameIndex := 5, descriptorIndex := 6, attributes := #[] }] 33 2 #[] #[{ accessFlags := 25, nameIndex := 123, descriptorIndex := 124, attributes := #[] }, { accessFlags := 25, nameIndex := 130, descriptorIndex := 124, attributes := #[] }, { accessFlags := 25, nameIndex := 136, descriptorIndex := 124, attributes := #[] }])
  fields := #[{ name := "SIOOBE_FORMATTER", type := (.object "java/util/function/BiFunction"), accessFlags := 25, slot := 0, constantValue := 0 }, { name := "AIOOBE_FORMATTER", type := (.object "java/util/function/BiFunction"), accessFlags := 25, slot := 1, constantValue := 0 }, { name := "IOOBE_FORMATTER", type := (.object "java/util/function/BiFunction"), accessFlags := 25, slot := 2, constantValue := 0 }]
  methods := #[k14m0]
  instanceTypes := #[]
  staticTypes := #[(.object "java/util/function/BiFunction"), (.object "java/util/function/BiFunction"), (.object "java/util/function/BiFunction")]
  resolved := Array.replicate 194 none
  statics := some 1 }

def pool15 : Array CpInfo := pool [(9, u "<init>"), (6, .class_ 18), (1, u "java/lang/Object"), (0, u "()V"), (1, .class_ 23), (1, u "jdk/internal/util/ArraysSupport"), (0, u "LOG2_ARRAY_LONG_INDEX_SCALE"), (0, u "I"), (2, u "U"), (0, u "Ljdk/internal/misc/Unsafe;"), (8, u "BIG_ENDIAN"), (0, u "Z"), (8, u "LOG2_BYTE_BIT_SIZE"), (4, u "LOG2_ARRAY_INT_INDEX_SCALE"), (54, u "JLA"), (0, u "Ljdk/internal/access/JavaLangAccess;"), (11, u "LOG2_ARRAY_BOOLEAN_INDEX_SCALE"), (9, u "LOG2_ARRAY_BYTE_INDEX_SCALE"), (5, u "LOG2_ARRAY_CHAR_INDEX_SCALE"), (5, u "LOG2_ARRAY_SHORT_INDEX_SCALE"), (18, u "LOG2_ARRAY_FLOAT_INDEX_SCALE"), (24, u "LOG2_ARRAY_DOUBLE_INDEX_SCALE"), (89, u "T_BOOLEAN"), (2, u "T_CHAR"), (1, u "T_FLOAT"), (1, u "T_DOUBLE"), (1, u "T_BYTE"), (1, u "T_SHORT"), (1, u "T_INT"), (1, u "T_LONG"), (1, u "SOFT_MAX_ARRAY_LENGTH")] 83

def k15m0 : Method := { name := "<init>", desc := "()V", sig := { parameters := [], returnType := none }, accessFlags := 2, code := none }
/-- jdk/internal/util/ArraysSupport -/
def k15 : Class := { plain "jdk/internal/util/ArraysSupport" (some 0) with
  accessFlags := 33
  interfaces := #[]
  cf := some (fileOf pool15 21 #[] #[{ accessFlags := 2, nameIndex := 9, descriptorIndex := 19, attributes := #[] }] 33 16 #[] #[{ accessFlags := 24, nameIndex := 28, descriptorIndex := 29, attributes := #[] }, { accessFlags := 26, nameIndex := 38, descriptorIndex := 39, attributes := #[] }, { accessFlags := 25, nameIndex := 121, descriptorIndex := 25, attributes := #[] }, { accessFlags := 25, nameIndex := 131, descriptorIndex := 25, attributes := #[] }, { accessFlags := 25, nameIndex := 137, descriptorIndex := 25, attributes := #[] }, { accessFlags := 25, nameIndex := 143, descriptorIndex := 25, attributes := #[] }, { accessFlags := 25, nameIndex := 53, descriptorIndex := 25, attributes := #[] }, { accessFlags := 25, nameIndex := 24, descriptorIndex := 25, attributes := #[] }, { accessFlags := 25, nameIndex := 162, descriptorIndex := 25, attributes := #[] }, { accessFlags := 25, nameIndex := 187, descriptorIndex := 25, attributes := #[] }, { accessFlags := 26, nameIndex := 48, descriptorIndex := 25, attributes := #[] }, { accessFlags := 25, nameIndex := 277, descriptorIndex := 25, attributes := #[] }, { accessFlags := 25, nameIndex := 280, descriptorIndex := 25, attributes := #[] }, { accessFlags := 25, nameIndex := 282, descriptorIndex := 25, attributes := #[] }, { accessFlags := 25, nameIndex := 284, descriptorIndex := 25, attributes := #[] }, { accessFlags := 25, nameIndex := 286, descriptorIndex := 25, attributes := #[] }, { accessFlags := 25, nameIndex := 288, descriptorIndex := 25, attributes := #[] }, { accessFlags := 25, nameIndex := 290, descriptorIndex := 25, attributes := #[] }, { accessFlags := 25, nameIndex := 292, descriptorIndex := 25, attributes := #[] }, { accessFlags := 26, nameIndex := 108, descriptorIndex := 109, attributes := #[] }, { accessFlags := 25, nameIndex := 294, descriptorIndex := 25, attributes := #[] }])
  fields := #[{ name := "U", type := (.object "jdk/internal/misc/Unsafe"), accessFlags := 24, slot := 0, constantValue := 0 }, { name := "BIG_ENDIAN", type := .boolean, accessFlags := 26, slot := 1, constantValue := 0 }, { name := "LOG2_ARRAY_BOOLEAN_INDEX_SCALE", type := .int, accessFlags := 25, slot := 2, constantValue := 0 }, { name := "LOG2_ARRAY_BYTE_INDEX_SCALE", type := .int, accessFlags := 25, slot := 3, constantValue := 0 }, { name := "LOG2_ARRAY_CHAR_INDEX_SCALE", type := .int, accessFlags := 25, slot := 4, constantValue := 0 }, { name := "LOG2_ARRAY_SHORT_INDEX_SCALE", type := .int, accessFlags := 25, slot := 5, constantValue := 0 }, { name := "LOG2_ARRAY_INT_INDEX_SCALE", type := .int, accessFlags := 25, slot := 6, constantValue := 0 }, { name := "LOG2_ARRAY_LONG_INDEX_SCALE", type := .int, accessFlags := 25, slot := 7, constantValue := 0 }, { name := "LOG2_ARRAY_FLOAT_INDEX_SCALE", type := .int, accessFlags := 25, slot := 8, constantValue := 0 }, { name := "LOG2_ARRAY_DOUBLE_INDEX_SCALE", type := .int, accessFlags := 25, slot := 9, constantValue := 0 }, { name := "LOG2_BYTE_BIT_SIZE", type := .int, accessFlags := 26, slot := 10, constantValue := 0 }, { name := "T_BOOLEAN", type := .int, accessFlags := 25, slot := 11, constantValue := 0 }, { name := "T_CHAR", type := .int, accessFlags := 25, slot := 12, constantValue := 0 }, { name := "T_FLOAT", type := .int, accessFlags := 25, slot := 13, constantValue := 0 }, { name := "T_DOUBLE", type := .int, accessFlags := 25, slot := 14, constantValue := 0 }, { name := "T_BYTE", type := .int, accessFlags := 25, slot := 15, constantValue := 0 }, { name := "T_SHORT", type := .int, accessFlags := 25, slot := 16, constantValue := 0 }, { name := "T_INT", type := .int, accessFlags := 25, slot := 17, constantValue := 0 }, { name := "T_LONG", type := .int, accessFlags := 25, slot := 18, constantValue := 0 }, { name := "JLA", type := (.object "jdk/internal/access/JavaLangAccess"), accessFlags := 26, slot := 19, constantValue := 0 }, { name := "SOFT_MAX_ARRAY_LENGTH", type := .int, accessFlags := 25, slot := 20, constantValue := 0 }]
  methods := #[k15m0]
  instanceTypes := #[]
  staticTypes := #[(.object "jdk/internal/misc/Unsafe"), .boolean, .int, .int, .int, .int, .int, .int, .int, .int, .int, .int, .int, .int, .int, .int, .int, .int, .int, (.object "jdk/internal/access/JavaLangAccess"), .int]
  resolved := Array.replicate 378 none
  statics := none }

def pool16 : Array CpInfo := pool [(1, u "java/lang/Cloneable"), (0, .class_ 1), (0, u "java/lang/Object"), (0, .class_ 3)] 3

/-- java/lang/Cloneable -/
def k16 : Class := { plain "java/lang/Cloneable" (some 0) with
  accessFlags := 1537
  interfaces := #[]
  cf := some (fileOf pool16 2 #[] #[] 1537 4 #[] #[])
  fields := #[]
  methods := #[]
  instanceTypes := #[]
  staticTypes := #[]
  resolved := Array.replicate 8 none
  statics := none }

/-- the primitive byte -/
def k17 : Class := { plain "byte" none with kind := .primitive 'B', accessFlags := 0x411 }
/-- [B -/
def k18 : Class := { plain "[B" (some 0) with kind := .array 17 .byte, interfaces := #[16, 2], accessFlags := 1041 }

/-- the primitive int -/
def k19 : Class := { plain "int" none with kind := .primitive 'I', accessFlags := 0x411 }
/-- [I -/
def k20 : Class := { plain "[I" (some 0) with kind := .array 19 .int, interfaces := #[16, 2], accessFlags := 1041 }

def heap : Heap := #[{ cls := 7, slots := #[.long 0, .int 1, .null, .int 0, .null, .int 0, .int 0], vm := .statics 7 },
  { cls := 14, slots := #[.null, .null, .null], vm := .statics 14 }]
def classes : Array Class := #[k0, k1, k2, k3, k4, k5, k6, k7, k8, k9, k10, k11, k12, k13, k14, k15, k16, k17, k18, k19, k20]
def interned : List (Array UInt16 × Addr) := []
def slotsUsed : Nat := 10
def theMethod : MethodId := ⟨1, 1⟩
def args0 : Array Value := #[.long 5, .int 5, .int 5, .int 5]
def aboutOver (below : List Frame) : State where
  vm := { classes := classes, interned := interned.toArray }
  heap := heap
  slotsUsed := slotsUsed
  threads := #[{ frames := .invoking theMethod args0 :: below }]
def below0 : List Frame := [.native { method := ⟨0, 0⟩, args := #[] }]
def about1 : State := aboutOver below0
def p0 : Program := .bare "" "" ""
def e0 : Env := launch0.env 0 0 0
theorem w_frames : about1.frames = Frame.invoking theMethod args0 :: below0 := rfl
set_option maxRecDepth 65536 in
theorem w_args : argsFit about1.vm theMethod args0 = true := by decide +kernel
set_option maxRecDepth 65536 in
theorem w_heap : heapFits about1 = true := by decide +kernel
set_option maxRecDepth 65536 in
theorem w_runnable : about1.curStatus? = some .runnable := by decide +kernel
set_option maxRecDepth 65536 in
theorem w_alone : about1.alone = true := by decide +kernel
set_option maxRecDepth 65536 in
theorem w_named : about1.methodNamed? x = some theMethod := by decide +kernel
set_option maxRecDepth 65536 in
theorem w_hears : about1.hears theMethod below0 = true := by decide +kernel
set_option maxRecDepth 65536 in
theorem w_ripe : about1.ripe theMethod args0 below0 = true := by decide +kernel
theorem w_running : about1.status = .running := rfl
set_option maxRecDepth 65536 in
theorem w_room : about1.hasRoom e0.platform room_1 = true :=
  launch0.hasRoom_least _ room_1 (by decide +kernel) (by decide +kernel) (by decide +kernel) (by decide +kernel) (by decide +kernel) (by decide +kernel)
theorem allAtoms_all (ts : List Jvm.Cond) (a : Array Jvm.Value) (st : Jvm.State) : (allAtoms ts).before a st = ts.all (fun c => c.before a st) := by
  induction ts with
  | nil => rfl
  | cons c t ih =>
    show (Jvm.Cond.and c (allAtoms t)).before a st = _
    rw [Jvm.Cond.before_and, ih, List.all_cons]
def words1 : List Jvm.Cond := Jvm.Cond.code x code maxLocals ret :: tables_1
/-- a 'code' word, met by the world's own term for the bytes: nothing is compared byte by byte -/
theorem code_word {y : MethodName} {bytes : ByteArray} {mx : Nat} {rt : Option FieldType} {a : Array Value} {s : State} {m : MethodId} {meth : Method} {c : Code} (h1 : s.methodNamed? y = some m) (h2 : s.vm.method? m = some meth) (h3 : meth.code = some c) (h4 : c.code = bytes)
    (h5 : (c.maxLocals == mx && c.exceptionTable.isEmpty && decide (c.maxStack ≤ mostOperands) && decide (meth.sig.returnType = rt) && !meth.locks && decide (parseMethodDescriptor y.desc = some meth.sig)) = true) : (Jvm.Cond.code y bytes mx rt).before a s = true := by
  simp only [Bool.and_eq_true, beq_iff_eq, Bool.not_eq_true', decide_eq_true_eq] at h5
  obtain ⟨⟨⟨⟨⟨g1, g2⟩, g3⟩, g4⟩, g5⟩, g6⟩ := h5
  simp [Cond.before, Cond.holds, Cond.value, h1, h2, h3, h4, g1, g2, g3, g4, g5, g6]
def isCode : Jvm.Cond → Bool
  | .code _ _ _ _ => true
  | _ => false
theorem all_split {L : List Jvm.Cond} {P : Jvm.Cond → Bool} (h1 : L.all (fun c => isCode c || P c) = true) (h2 : ∀ c ∈ L.filter isCode, P c = true) : L.all P = true := by
  refine List.all_eq_true.mpr fun c hc => ?_
  have h := List.all_eq_true.mp h1 c hc
  rcases Bool.eq_false_or_eq_true (isCode c) with hi | hi
  · exact h2 c (List.mem_filter.mpr ⟨hc, hi⟩)
  · simpa [hi] using h
set_option maxRecDepth 65536 in
theorem w_c0 : (Jvm.Cond.code x code maxLocals ret).before args0 about1 = true := code_word (m := ⟨1, 1⟩) (meth := k1m1) (c := k1c1) (by decide +kernel) rfl rfl rfl (by decide +kernel)
set_option maxRecDepth 65536 in
theorem w_c1 : (Jvm.Cond.code ({ cls := "java/lang/String", name := "valueOf", desc := "(C)Ljava/lang/String;" } : Jvm.MethodName) jdk_42_method_139_code (1 : Nat) (Option.some (Jvm.ClassFile.FieldType.object "java/lang/String"))).before args0 about1 = true := code_word (m := ⟨7, 1⟩) (meth := k7m1) (c := k7c1) (by decide +kernel) rfl rfl rfl (by decide +kernel)
set_option maxRecDepth 65536 in
theorem w_c2 : (Jvm.Cond.code ({ cls := "java/lang/StringLatin1", name := "canEncode", desc := "(C)Z" } : Jvm.MethodName) jdk_43_method_3_code (1 : Nat) (Option.some Jvm.ClassFile.FieldType.boolean)).before args0 about1 = true := code_word (m := ⟨8, 1⟩) (meth := k8m1) (c := k8c1) (by decide +kernel) rfl rfl rfl (by decide +kernel)
set_option maxRecDepth 65536 in
theorem w_c3 : (Jvm.Cond.code ({ cls := "java/lang/StringLatin1", name := "toBytes", desc := "(C)[B" } : Jvm.MethodName) jdk_43_method_46_code (1 : Nat) (Option.some (Jvm.ClassFile.FieldType.array Jvm.ClassFile.FieldType.byte))).before args0 about1 = true := code_word (m := ⟨8, 2⟩) (meth := k8m2) (c := k8c2) (by decide +kernel) rfl rfl rfl (by decide +kernel)
set_option maxRecDepth 65536 in
theorem w_c4 : (Jvm.Cond.code ({ cls := "java/lang/String", name := "<init>", desc := "([BB)V" } : Jvm.MethodName) jdk_42_method_151_code (3 : Nat) (Option.none : Option Jvm.ClassFile.FieldType)).before args0 about1 = true := code_word (m := ⟨7, 2⟩) (meth := k7m2) (c := k7c2) (by decide +kernel) rfl rfl rfl (by decide +kernel)
set_option maxRecDepth 65536 in
theorem w_c5 : (Jvm.Cond.code ({ cls := "java/lang/Object", name := "<init>", desc := "()V" } : Jvm.MethodName) object_method_1_code (1 : Nat) (Option.none : Option Jvm.ClassFile.FieldType)).before args0 about1 = true := code_word (m := ⟨0, 0⟩) (meth := k0m0) (c := k0c0) (by decide +kernel) rfl rfl rfl (by decide +kernel)
set_option maxRecDepth 65536 in
theorem w_c6 : (Jvm.Cond.code ({ cls := "com/example/late_harvest/lateharvest/pricing/Loan", name := "requireMonthlyFactor", desc := "(Ljava/lang/String;D)V" } : Jvm.MethodName) prog_14_method_5_code (3 : Nat) (Option.none : Option Jvm.ClassFile.FieldType)).before args0 about1 = true := code_word (m := ⟨10, 0⟩) (meth := k10m0) (c := k10c0) (by decide +kernel) rfl rfl rfl (by decide +kernel)
set_option maxRecDepth 65536 in
theorem w_c7 : (Jvm.Cond.code ({ cls := "java/lang/Double", name := "isInfinite", desc := "(D)Z" } : Jvm.MethodName) jdk_117_method_7_code (2 : Nat) (Option.some Jvm.ClassFile.FieldType.boolean)).before args0 about1 = true := code_word (m := ⟨12, 0⟩) (meth := k12m0) (c := k12c0) (by decide +kernel) rfl rfl rfl (by decide +kernel)
set_option maxRecDepth 65536 in
theorem w_c8 : (Jvm.Cond.code ({ cls := "java/lang/Math", name := "abs", desc := "(D)D" } : Jvm.MethodName) jdk_29_method_64_code (2 : Nat) (Option.some Jvm.ClassFile.FieldType.double)).before args0 about1 = true := code_word (m := ⟨13, 1⟩) (meth := k13m1) (c := k13c1) (by decide +kernel) rfl rfl rfl (by decide +kernel)
def codes1 : List Jvm.Cond := [Jvm.Cond.code x code maxLocals ret, Jvm.Cond.code ({ cls := "java/lang/String", name := "valueOf", desc := "(C)Ljava/lang/String;" } : Jvm.MethodName) jdk_42_method_139_code (1 : Nat) (Option.some (Jvm.ClassFile.FieldType.object "java/lang/String")), Jvm.Cond.code ({ cls := "java/lang/StringLatin1", name := "canEncode", desc := "(C)Z" } : Jvm.MethodName) jdk_43_method_3_code (1 : Nat) (Option.some Jvm.ClassFile.FieldType.boolean), Jvm.Cond.code ({ cls := "java/lang/StringLatin1", name := "toBytes", desc := "(C)[B" } : Jvm.MethodName) jdk_43_method_46_code (1 : Nat) (Option.some (Jvm.ClassFile.FieldType.array Jvm.ClassFile.FieldType.byte)), Jvm.Cond.code ({ cls := "java/lang/String", name := "<init>", desc := "([BB)V" } : Jvm.MethodName) jdk_42_method_151_code (3 : Nat) (Option.none : Option Jvm.ClassFile.FieldType), Jvm.Cond.code ({ cls := "java/lang/Object", name := "<init>", desc := "()V" } : Jvm.MethodName) object_method_1_code (1 : Nat) (Option.none : Option Jvm.ClassFile.FieldType), Jvm.Cond.code ({ cls := "com/example/late_harvest/lateharvest/pricing/Loan", name := "requireMonthlyFactor", desc := "(Ljava/lang/String;D)V" } : Jvm.MethodName) prog_14_method_5_code (3 : Nat) (Option.none : Option Jvm.ClassFile.FieldType), Jvm.Cond.code ({ cls := "java/lang/Double", name := "isInfinite", desc := "(D)Z" } : Jvm.MethodName) jdk_117_method_7_code (2 : Nat) (Option.some Jvm.ClassFile.FieldType.boolean), Jvm.Cond.code ({ cls := "java/lang/Math", name := "abs", desc := "(D)D" } : Jvm.MethodName) jdk_29_method_64_code (2 : Nat) (Option.some Jvm.ClassFile.FieldType.double)]
set_option maxRecDepth 65536 in
theorem codes_eq : words1.filter isCode = codes1 := rfl
theorem w_codes : ∀ c ∈ words1.filter isCode, c.before args0 about1 = true := by
  rw [codes_eq]
  intro c hc
  simp only [codes1, List.mem_cons, List.not_mem_nil, or_false] at hc
  rcases hc with rfl | rfl | rfl | rfl | rfl | rfl | rfl | rfl | rfl
  · exact w_c0
  · exact w_c1
  · exact w_c2
  · exact w_c3
  · exact w_c4
  · exact w_c5
  · exact w_c6
  · exact w_c7
  · exact w_c8
set_option maxRecDepth 65536 in
theorem w_t1 : (words1.take 24).all (fun c => isCode c || c.before args0 about1) = true := by decide +kernel
set_option maxRecDepth 65536 in
theorem w_t2 : (words1.drop 24).all (fun c => isCode c || c.before args0 about1) = true := by decide +kernel
theorem w_tables : (allAtoms (Jvm.Cond.code x code maxLocals ret :: tables_1)).before args0 about1 = true := by
  rw [allAtoms_all]
  show words1.all (fun c => c.before args0 about1) = true
  refine all_split ?_ w_codes
  rw [← List.take_append_drop 24 words1, List.all_append, w_t1, w_t2]
  rfl
set_option maxRecDepth 65536 in
theorem w_rest : rest_1_c.before args0 about1 = true := by decide +kernel
set_option maxRecDepth 65536 in
theorem w_case : (Jvm.Cond.and given_1 narrow_1).before args0 about1 = true := by decide +kernel
theorem w_applies : (headSpec (Jvm.Cond.code x code maxLocals ret :: tables_1) room_1).applies x e0.platform about1 = true :=
  (Spec.applies_iff w_frames).mpr ⟨w_running, w_runnable, w_alone, w_named, w_hears, w_ripe, w_room, w_tables⟩
theorem atStart : AtStart classFile x code maxLocals ret World_1 tables_1 room_1 Calls_1 rest_1 Pre_1 launch0 p0 e0 about1 theMethod args0 below0 :=
  ⟨lists_1, trivial, launch0.admits_env _ _ _, launch0.least_env, fairChoices_fair.cas, fairChoices_fair.clock, w_frames, w_args, w_heap, w_applies, trivial, w_rest, w_case⟩
end start1
theorem witness_1 : WitnessClaimed_1 := ⟨start1.p0, start1.e0, start1.about1, start1.theMethod, start1.args0, start1.below0, start1.atStart⟩
end Jvm.Pilot.@@N@@
