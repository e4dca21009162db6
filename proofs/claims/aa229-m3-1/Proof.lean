import JvmDerived
import JvmDerived.Pilot.@@N@@Statement
import JvmDerived.Pilot.@@N@@Code
set_option linter.unusedVariables false
set_option linter.unusedSimpArgs false
namespace Jvm.OwnGo
open Jvm Sem ClassFile Op Lib Jvm.Stand Jvm.Free Jvm.LawKit Jvm.RoadKit
/-! ## 1. where a walk stands, and how it ends -/
/-- a walk may bear one more word on its base; KT: none -/
def KT : State → Prop := fun _ => True
def Ctx (K : State → Prop) (Z : State) (y : MethodName) (bytes : ByteArray) (ml : Nat) (ret : Option FieldType) (p : Program) (s : State) (m : MethodId) (meth : Method) (c : Code) : Prop :=
  p.tables.exec = Jvm.exec ∧ c.code = bytes ∧ c.maxLocals = ml ∧ s.vm.findClass y.cls = some m.cls ∧ Z.Warmed39 s.vm ∧ meth.sig.returnType = ret ∧ meth.locks = false ∧ meth.name = y.name ∧ K s
/-- what the walk's base has to do with the method's start: the same, or (where literals may be made) the start under later tables -/
def Base (wd : Bool) (s0 s : State) (h : Heap) : Prop := if wd = true then ∃ vm0 k0, s = s0.setVm vm0 ∧ s0.Since vm0 k0 ∧ k0 ≤ h.size else s = s0
def EndK (wd : Bool) (s0 : State) (o : Outcome) (t : State) (L : List Loc) (k n : Nat) : Prop := if wd = true then ReturnedEndW s0 o t L k n else FrameEnd s0 o t L k n
def Ends (wd : Bool) (n0 kc ks : Nat) (Q : Option Value → Heap → Prop) (p : Program) (e : Env) (below : List Frame) (s0 T : State) (g : JFrame) : Prop :=
  ∃ s₂ o, Steps p.tables e below (T.setTop g) s₂ ∧ s₂.status = .running ∧ Ended s₂ below o ∧ ∃ v L, o = .returned v ∧ (Q v s₂.heap ∧ Fr n0 L) ∧ EndK wd s0 o s₂ L kc ks
def Go (wd : Bool) (K : State → Prop) (l : Launch) (Z : State) (R : Room) (y : MethodName) (bytes : ByteArray) (ml : Nat) (ret : Option FieldType) (n0 kc ks : Nat) (Q : Option Value → Heap → Prop) (h : Heap) (k n pc : Nat) (ls : List Slot) (st : List Value) : Prop :=
  ∀ (p : Program) (e : Env) (s0 s : State) (m : MethodId) (args : Array Value) (below : List Frame) (meth : Method) (c : Code) (T : State) (L : List Loc),
    Base wd s0 s h → Ctx K Z y bytes ml ret p s m meth c → Stand p l e R s m args below meth c T L k n → T.heap = h → Fr n0 L → Ends wd n0 kc ks Q p e below s0 T (mkF m pc ls.toArray st)
/-- a contract: what a body leaves, called with the values as' over the heap h -/
def Con (wd : Bool) (l : Launch) (Z : State) (y : MethodName) (bytes : ByteArray) (ml : Nat) (ret : Option FieldType) (rm : Room) (as' : Array Value) (h : Heap) (n0 : Nat) (Q : Option Value → Heap → Prop) : Prop :=
  ∀ ws : List Cond, MetFree l y (head1 (Cond.code y bytes ml ret :: ws) rm) (fun a U => a = as' ∧ Z.Warmed39 U.vm ∧ U.heap = h) (fun _ _ _ _ _ => True)
    (fun _ U o U' => ∃ v L, o = .returned v ∧ ((Q v U'.heap ∧ h.size ≤ U'.heap.size) ∧ Fr n0 L) ∧ EndK wd U o U' L rm.cells rm.slots)
/-- it returns a value -/
def R1 (P : Value → Heap → Prop) : Option Value → Heap → Prop := fun v h => ∃ w, v = some w ∧ P w h
/-- it returns nothing -/
def R0 (P : Heap → Prop) : Option Value → Heap → Prop := fun v h => v = none ∧ P h
/-- it returns this value and leaves the heap as it was -/
abbrev Ret (w : Value) (h : Heap) : Option Value → Heap → Prop := R1 fun w' h' => w' = w ∧ h = h'
/-- a local variable written over -/
def setl : List Slot → Nat → Slot → List Slot
  | [], _, _ => []
  | _ :: r, 0, x => x :: r
  | a :: r, i + 1, x => a :: setl r i x
def lupd {α : Type} : List α → Nat → α → List α
  | [], _, _ => []
  | _ :: r, 0, x => x :: r
  | a :: r, i + 1, x => a :: lupd r i x
def one : Slot → Bool
  | .unset => true
  | .val v => v.category == 1
  | .second => false
def two : Slot → Slot → Bool
  | .val v, .second => v.category == 2
  | a, b => one a && one b
def Dc (bytes : ByteArray) (pc : Nat) (i : Instr) (len pc' : Nat) : Prop := decode bytes pc = .ok (i, len) ∧ pc + len = pc'
def Dp (bytes : ByteArray) (pc : Nat) (v : Int32) (pc' : Nat) : Prop := (∃ i, decode bytes pc = .ok (.iconst i, 1) ∧ Int32.ofInt i = v ∧ pc + 1 = pc') ∨ (∃ i, decode bytes pc = .ok (.bipush i, 2) ∧ (Int8.ofInt i).toInt32 = v ∧ pc + 2 = pc') ∨ (∃ i, decode bytes pc = .ok (.sipush i, 3) ∧ (Int16.ofInt i).toInt32 = v ∧ pc + 3 = pc')
def Dlc (bytes : ByteArray) (pc : Nat) (v : Int64) (pc' : Nat) : Prop := ∃ k : Fin 2, decode bytes pc = .ok (.lconst k, 1) ∧ Int64.ofNat k = v ∧ pc + 1 = pc'
/-- a branch: where it goes on, and where it leads -/
def Db (bytes : ByteArray) (pc : Nat) (f : Int → Instr) (pc' tg : Nat) : Prop := ∃ o : Int, decode bytes pc = .ok (f o, 3) ∧ pc + 3 = pc' ∧ 0 ≤ (pc : Int) + o ∧ ((pc : Int) + o).toNat = tg
def Dld (bytes : ByteArray) (pc : Nat) (f : Nat → Instr) (fn : Fin 4 → Instr) (i pc' : Nat) : Prop := (decode bytes pc = .ok (f i, 2) ∧ pc + 2 = pc') ∨ (∃ k : Fin 4, decode bytes pc = .ok (fn k, 1) ∧ k.val = i ∧ pc + 1 = pc')
def Dinc (bytes : ByteArray) (pc i : Nat) (v : Int32) (pc' : Nat) : Prop := ∃ c : Int, decode bytes pc = .ok (.iinc i c, 3) ∧ Int32.ofInt c = v ∧ pc + 3 = pc'
/-- the same, by the instructions' sorts -/
abbrev Dil (b : ByteArray) (pc i pc' : Nat) : Prop := Dld b pc .iload .iload_n i pc'
abbrev Dal (b : ByteArray) (pc i pc' : Nat) : Prop := Dld b pc .aload .aload_n i pc'
abbrev Dll (b : ByteArray) (pc i pc' : Nat) : Prop := Dld b pc .lload .lload_n i pc'
abbrev Dis (b : ByteArray) (pc i pc' : Nat) : Prop := Dld b pc .istore .istore_n i pc'
abbrev Das (b : ByteArray) (pc i pc' : Nat) : Prop := Dld b pc .astore .astore_n i pc'
abbrev Dls (b : ByteArray) (pc i pc' : Nat) : Prop := Dld b pc .lstore .lstore_n i pc'
section Walk
variable {wd : Bool} {K₀ : State → Prop} {l : Launch} {Z : State} {R : Room} {y : MethodName} {bytes : ByteArray} {ml : Nat} {ret : Option FieldType} {n0 kc ks : Nat} {Q : Option Value → Heap → Prop} {h : Heap} {k n pc pc' tg i : Nat} {ls : List Slot} {st : List Value} {a0 : Array Value}
theorem lrem64 (x y : Int64) : x - x / y * y = x % y := by
  apply Int64.toInt_inj.mp
  have h1 := Int64.le_toInt (x % y)
  have h2 := Int64.toInt_lt (x % y)
  rw [Int64.toInt_sub, Int64.toInt_mul, Int64.toInt_div, Int.bmod_mul_bmod, Int.sub_bmod_bmod, Int.mul_comm (x.toInt.tdiv y.toInt), ← Int.tmod_def, ← Int64.toInt_mod]
  exact Int.bmod_eq_of_le_mul_two (by omega) (by omega)
theorem setl_arr : ∀ (ls : List Slot) (i : Nat) (x : Slot), (setl ls i x).toArray = ls.toArray.setIfInBounds i x := by
  intro ls i x
  rw [List.setIfInBounds_toArray]
  congr 1
  induction ls generalizing i with
  | nil => simp [setl]
  | cons a r ih => cases i with
    | zero => simp [setl]
    | succ i => simp [setl, ih]
theorem setl_len : ∀ (ls : List Slot) (i : Nat) (x : Slot), (setl ls i x).length = ls.length := by
  intro ls i x
  induction ls generalizing i with
  | nil => rfl
  | cons a r ih => cases i with
    | zero => rfl
    | succ i => simp [setl, ih]
theorem upd_set {α : Type} : ∀ (ls : List α) (i : Nat) (x : α), lupd ls i x = ls.set i x := by
  intro ls i x
  induction ls generalizing i with
  | nil => simp [lupd]
  | cons a r ih => cases i with
    | zero => simp [lupd]
    | succ i => simp [lupd, ih]
theorem setl_get {ls : List Slot} {i : Nat} {x o : Slot} (h : ls[i]? = some o) (j : Nat) : (setl ls i x)[j]? = if j = i then some x else ls[j]? := by
  induction ls generalizing i j with
  | nil => simp at h
  | cons a r ih => cases i with
    | zero => cases j <;> simp [setl]
    | succ i => cases j with
      | zero => simp [setl]
      | succ j => simp only [setl, List.getElem?_cons_succ] at h ⊢; rw [ih h j]; simp
theorem Base.mono {s0 s : State} {h' : Heap} (B : Base wd s0 s h) (q : h.size ≤ h'.size) : Base wd s0 s h' := by
  cases wd
  · exact B
  · obtain ⟨vm0, k0, e1, e2, e3⟩ := B; exact ⟨vm0, k0, e1, e2, Nat.le_trans e3 q⟩
theorem Base.start (s : State) (hh : s.heap = h) : Base wd s s h := by
  cases wd
  · exact (rfl : s = s)
  · exact ⟨s.vm, h.size, rfl, (State.WarmedH.refl s).since _, Nat.le_refl _⟩
theorem EndK.size {s0 t : State} {o : Outcome} {L : List Loc} {k n : Nat} (E : EndK wd s0 o t L k n) : s0.heap.size ≤ t.heap.size := by
  cases wd
  · exact E.2.2.2.1
  · exact E.2.2.2.2.1
theorem endK {s0 s T : State} {fs : List Frame} {v : Option Value} {L : List Loc} (B : Base wd s0 s h) (hh : T.heap = h) (hW : s.WarmedH (T.setFrames fs).vm) (hsame : s.sameButNew ({ T.setFrames fs with vm := s.vm } : State) L k n) (hk : k ≤ kc) (hn : n ≤ ks) : EndK wd s0 (.returned v) (T.setFrames fs) L kc ks := by
  cases wd
  · have e : s = s0 := B
    subst e
    exact ⟨⟨_, rfl⟩, hW, hsame.mono hk hn⟩
  · obtain ⟨vm0, k0, rfl, hS, hk0⟩ := B
    obtain ⟨a1, a2, a3⟩ := hS.ended (U := T.setFrames fs) hW (by show k0 ≤ T.heap.size; rw [hh]; exact hk0) hsame
    exact ⟨⟨_, rfl⟩, a1, a2, a3.mono hk hn⟩
theorem Ends.pre {p : Program} {e : Env} {below : List Frame} {s0 T T' : State} {g g' : JFrame} (E : Ends wd n0 kc ks Q p e below s0 T' g') (st : ∀ t, Steps p.tables e below (T'.setTop g') t → Steps p.tables e below (T.setTop g) t) : Ends wd n0 kc ks Q p e below s0 T g := by
  obtain ⟨s₂, o, h1, r⟩ := E; exact ⟨s₂, o, st _ h1, r⟩
theorem go_pure {ls' : List Slot} {st' : List Value} (G : Go wd K₀ l Z R y bytes ml ret n0 kc ks Q h k n pc' ls' st') (H : ∀ {p : Program} {e : Env} {s : State} {m : MethodId} {args : Array Value} {below : List Frame} {meth : Method} {c : Code} {T : State} {L : List Loc}, Ctx K₀ Z y bytes ml ret p s m meth c → Stand p l e R s m args below meth c T L k n →
    ∀ t, Steps p.tables e below (T.setTop (mkF m pc' ls'.toArray st')) t → Steps p.tables e below (T.setTop (mkF m pc ls.toArray st)) t) : Go wd K₀ l Z R y bytes ml ret n0 kc ks Q h k n pc ls st :=
  fun p e s0 s m args below meth c T L B C X hh N => (G p e s0 s m args below meth c T L B C X hh N).pre (H C X)
theorem go_more {k' n' : Nat} (hk : k ≤ k') (hn : n ≤ n') (G : Go wd K₀ l Z R y bytes ml ret n0 kc ks Q h k' n' pc ls st) : Go wd K₀ l Z R y bytes ml ret n0 kc ks Q h k n pc ls st :=
  fun p e s0 s m args below meth c T L B C X hh N => G p e s0 s m args below meth c T L B C (X.more hk hn) hh N
theorem go_nameI {x : Int32} (G : ∀ v : Int32, v = x → Go wd K₀ l Z R y bytes ml ret n0 kc ks Q h k n pc ls (.int v :: st)) : Go wd K₀ l Z R y bytes ml ret n0 kc ks Q h k n pc ls (.int x :: st) := G x rfl
theorem go_nameJ {x : Int64} (G : ∀ v : Int64, v = x → Go wd K₀ l Z R y bytes ml ret n0 kc ks Q h k n pc ls (.long v :: st)) : Go wd K₀ l Z R y bytes ml ret n0 kc ks Q h k n pc ls (.long x :: st) := G x rfl
theorem go_isI {x : Int32} (x' : Int32) (q : x = x') (G : Go wd K₀ l Z R y bytes ml ret n0 kc ks Q h k n pc ls (.int x' :: st)) : Go wd K₀ l Z R y bytes ml ret n0 kc ks Q h k n pc ls (.int x :: st) := q ▸ G
theorem go_isJ {x : Int64} (x' : Int64) (q : x = x') (G : Go wd K₀ l Z R y bytes ml ret n0 kc ks Q h k n pc ls (.long x' :: st)) : Go wd K₀ l Z R y bytes ml ret n0 kc ks Q h k n pc ls (.long x :: st) := q ▸ G
theorem go_iload {v : Int32} (D : Dil bytes pc i pc') (hl : ls[i]? = some (.val (.int v))) (G : Go wd K₀ l Z R y bytes ml ret n0 kc ks Q h k n pc' ls (.int v :: st)) : Go wd K₀ l Z R y bytes ml ret n0 kc ks Q h k n pc ls st := by
  rcases D with ⟨hd, rfl⟩ | ⟨kk, hd, rfl, rfl⟩
  · exact go_pure G (fun C X t => XS.iload X.here C.1 (g := mkF _ pc ls.toArray st) rfl (hb C.2.1 hd) (by simpa using hl))
  · exact go_pure G (fun C X t => XS.iloadN X.here C.1 (g := mkF _ pc ls.toArray st) rfl (hb C.2.1 hd) (by simpa using hl))
theorem go_lload {v : Int64} (D : Dll bytes pc i pc') (hl : ls[i]? = some (.val (.long v))) (G : Go wd K₀ l Z R y bytes ml ret n0 kc ks Q h k n pc' ls (.long v :: st)) : Go wd K₀ l Z R y bytes ml ret n0 kc ks Q h k n pc ls st := by
  rcases D with ⟨hd, rfl⟩ | ⟨kk, hd, rfl, rfl⟩
  · exact go_pure G (fun C X t => XT.lload X.here C.1 (g := mkF _ pc ls.toArray st) rfl (hb C.2.1 hd) (by simpa using hl))
  · exact go_pure G (fun C X t => XT.lloadN X.here C.1 (g := mkF _ pc ls.toArray st) rfl (hb C.2.1 hd) (by simpa using hl))
theorem go_aload {v : Value} (D : Dal bytes pc i pc') (hl : ls[i]? = some (.val v)) (hv : v.isRef = true) (G : Go wd K₀ l Z R y bytes ml ret n0 kc ks Q h k n pc' ls (v :: st)) : Go wd K₀ l Z R y bytes ml ret n0 kc ks Q h k n pc ls st := by
  rcases D with ⟨hd, rfl⟩ | ⟨kk, hd, rfl, rfl⟩
  · exact go_pure G (fun C X t => XS.aload X.here C.1 (g := mkF _ pc ls.toArray st) rfl (hb C.2.1 hd) (by simpa using hl) hv)
  · exact go_pure G (fun C X t => XS.aloadN X.here C.1 (g := mkF _ pc ls.toArray st) rfl (hb C.2.1 hd) (by simpa using hl) hv)
theorem store_one {ls : List Slot} {i : Nat} {v : Value} {o : Slot} (hv : v.category = 1) (hl : ls[i]? = some o) (ho : one o = true) : storeLocals ls.toArray i v = some (setl ls i (.val v)).toArray := by
  rw [setl_arr]
  refine storeLocals_cat1 (x := o) (by simpa using hl) hv ?_
  cases o <;> simp [one] at ho ⊢
  exact ho
theorem store_two {ls : List Slot} {i : Nat} {v : Value} {o o' : Slot} (hv : v.category = 2) (hl : ls[i]? = some o) (hl' : ls[i + 1]? = some o') (ho : two o o' = true) : storeLocals ls.toArray i v = some (setl (setl ls i (.val v)) (i + 1) .second).toArray := by
  rw [setl_arr, setl_arr]
  refine Jvm.Free.Fl.storeLocals_cat2 (by simpa using hl) (by simpa using hl') hv ?_
  cases o <;> cases o' <;> simp_all [two, one, Jvm.Free.Fl.Plain1]
theorem go_istore {x : Int32} {o : Slot} (D : Dis bytes pc i pc') (hl : ls[i]? = some o) (ho : one o = true) (G : Go wd K₀ l Z R y bytes ml ret n0 kc ks Q h k n pc' (setl ls i (.val (.int x))) st) : Go wd K₀ l Z R y bytes ml ret n0 kc ks Q h k n pc ls (.int x :: st) := by
  rcases D with ⟨hd, rfl⟩ | ⟨kk, hd, rfl, rfl⟩
  · exact go_pure G (fun C X t => XS.istore X.here C.1 (g := mkF _ pc ls.toArray (.int x :: st)) rfl (hb C.2.1 hd) rfl (store_one rfl hl ho))
  · exact go_pure G (fun C X t => XS.istoreN X.here C.1 (g := mkF _ pc ls.toArray (.int x :: st)) rfl (hb C.2.1 hd) rfl (store_one rfl hl ho))
theorem go_astore {x : Value} {o : Slot} (D : Das bytes pc i pc') (hv : x.isRef = true) (hl : ls[i]? = some o) (ho : one o = true) (G : Go wd K₀ l Z R y bytes ml ret n0 kc ks Q h k n pc' (setl ls i (.val x)) st) : Go wd K₀ l Z R y bytes ml ret n0 kc ks Q h k n pc ls (x :: st) := by
  have hc : x.category = 1 := XT.cat1 hv
  rcases D with ⟨hd, rfl⟩ | ⟨kk, hd, rfl, rfl⟩
  · exact go_pure G (fun C X t => XS.astore X.here C.1 (g := mkF _ pc ls.toArray (x :: st)) rfl (hb C.2.1 hd) rfl hv (store_one hc hl ho))
  · exact go_pure G (fun C X t => XS.astoreN X.here C.1 (g := mkF _ pc ls.toArray (x :: st)) rfl (hb C.2.1 hd) rfl hv (store_one hc hl ho))
theorem go_lstore {x : Int64} {o o' : Slot} (D : Dls bytes pc i pc') (hl : ls[i]? = some o) (hl' : ls[i + 1]? = some o') (ho : two o o' = true) (G : Go wd K₀ l Z R y bytes ml ret n0 kc ks Q h k n pc' (setl (setl ls i (.val (.long x))) (i + 1) .second) st) : Go wd K₀ l Z R y bytes ml ret n0 kc ks Q h k n pc ls (.long x :: st) := by
  rcases D with ⟨hd, rfl⟩ | ⟨kk, hd, rfl, rfl⟩
  · exact go_pure G (fun C X t => XT.lstore X.here C.1 (g := mkF _ pc ls.toArray (.long x :: st)) rfl (hb C.2.1 hd) rfl (store_two rfl hl hl' ho))
  · exact go_pure G (fun C X t => XT.lstoreN X.here C.1 (g := mkF _ pc ls.toArray (.long x :: st)) rfl (hb C.2.1 hd) rfl (store_two rfl hl hl' ho))
/-- any store, the locals said -/
theorem go_istoreX {x : Int32} {ls' : List Slot} (D : Dis bytes pc i pc') (hl : storeLocals ls.toArray i (.int x) = some ls'.toArray) (G : Go wd K₀ l Z R y bytes ml ret n0 kc ks Q h k n pc' ls' st) : Go wd K₀ l Z R y bytes ml ret n0 kc ks Q h k n pc ls (.int x :: st) := by
  rcases D with ⟨hd, rfl⟩ | ⟨kk, hd, rfl, rfl⟩
  · exact go_pure G (fun C X t => XS.istore X.here C.1 (g := mkF _ pc ls.toArray (.int x :: st)) rfl (hb C.2.1 hd) rfl hl)
  · exact go_pure G (fun C X t => XS.istoreN X.here C.1 (g := mkF _ pc ls.toArray (.int x :: st)) rfl (hb C.2.1 hd) rfl hl)
theorem go_astoreX {x : Value} {ls' : List Slot} (D : Das bytes pc i pc') (hv : x.isRef = true) (hl : storeLocals ls.toArray i x = some ls'.toArray) (G : Go wd K₀ l Z R y bytes ml ret n0 kc ks Q h k n pc' ls' st) : Go wd K₀ l Z R y bytes ml ret n0 kc ks Q h k n pc ls (x :: st) := by
  rcases D with ⟨hd, rfl⟩ | ⟨kk, hd, rfl, rfl⟩
  · exact go_pure G (fun C X t => XS.astore X.here C.1 (g := mkF _ pc ls.toArray (x :: st)) rfl (hb C.2.1 hd) rfl hv hl)
  · exact go_pure G (fun C X t => XS.astoreN X.here C.1 (g := mkF _ pc ls.toArray (x :: st)) rfl (hb C.2.1 hd) rfl hv hl)
theorem go_lstoreX {x : Int64} {ls' : List Slot} (D : Dls bytes pc i pc') (hl : storeLocals ls.toArray i (.long x) = some ls'.toArray) (G : Go wd K₀ l Z R y bytes ml ret n0 kc ks Q h k n pc' ls' st) : Go wd K₀ l Z R y bytes ml ret n0 kc ks Q h k n pc ls (.long x :: st) := by
  rcases D with ⟨hd, rfl⟩ | ⟨kk, hd, rfl, rfl⟩
  · exact go_pure G (fun C X t => XT.lstore X.here C.1 (g := mkF _ pc ls.toArray (.long x :: st)) rfl (hb C.2.1 hd) rfl hl)
  · exact go_pure G (fun C X t => XT.lstoreN X.here C.1 (g := mkF _ pc ls.toArray (.long x :: st)) rfl (hb C.2.1 hd) rfl hl)
theorem go_iinc {x v : Int32} (D : Dinc bytes pc i v pc') (hl : ls[i]? = some (.val (.int x))) (G : Go wd K₀ l Z R y bytes ml ret n0 kc ks Q h k n pc' (setl ls i (.val (.int (x + v)))) st) : Go wd K₀ l Z R y bytes ml ret n0 kc ks Q h k n pc ls st := by
  obtain ⟨c, hd, rfl, rfl⟩ := D
  exact go_pure G (fun C X t => XS.iinc X.here C.1 (g := mkF _ pc ls.toArray st) rfl (hb C.2.1 hd) (by simpa using hl) (store_one rfl hl rfl))
theorem go_iincX {x v x' : Int32} (D : Dinc bytes pc i v pc') (hl : ls[i]? = some (.val (.int x))) (q : x + v = x') (G : Go wd K₀ l Z R y bytes ml ret n0 kc ks Q h k n pc' (setl ls i (.val (.int x'))) st) : Go wd K₀ l Z R y bytes ml ret n0 kc ks Q h k n pc ls st := go_iinc D hl (q ▸ G)
theorem go_push {v : Int32} (D : Dp bytes pc v pc') (G : Go wd K₀ l Z R y bytes ml ret n0 kc ks Q h k n pc' ls (.int v :: st)) : Go wd K₀ l Z R y bytes ml ret n0 kc ks Q h k n pc ls st := by
  rcases D with ⟨_, hd, rfl, rfl⟩ | ⟨_, hd, rfl, rfl⟩ | ⟨_, hd, rfl, rfl⟩
  · exact go_pure G (fun C X t => XS.iconst X.here C.1 (g := mkF _ pc ls.toArray st) rfl (hb C.2.1 hd))
  · exact go_pure G (fun C X t => XS.bipush X.here C.1 (g := mkF _ pc ls.toArray st) rfl (hb C.2.1 hd))
  · exact go_pure G (fun C X t => XS.sipush X.here C.1 (g := mkF _ pc ls.toArray st) rfl (hb C.2.1 hd))
theorem go_lconst {v : Int64} (D : Dlc bytes pc v pc') (G : Go wd K₀ l Z R y bytes ml ret n0 kc ks Q h k n pc' ls (.long v :: st)) : Go wd K₀ l Z R y bytes ml ret n0 kc ks Q h k n pc ls st := by
  obtain ⟨_, hd, rfl, rfl⟩ := D
  exact go_pure G (fun C X t => XT.lconst X.here C.1 (g := mkF _ pc ls.toArray st) rfl (hb C.2.1 hd))
theorem go_null (D : Dc bytes pc .aconst_null 1 pc') (G : Go wd K₀ l Z R y bytes ml ret n0 kc ks Q h k n pc' ls (.null :: st)) : Go wd K₀ l Z R y bytes ml ret n0 kc ks Q h k n pc ls st := by
  obtain ⟨hd, rfl⟩ := D
  exact go_pure G (fun C X t => XS.aconstNull X.here C.1 (g := mkF _ pc ls.toArray st) rfl (hb C.2.1 hd))
theorem go_iadd {a : Int32} {b : Int32} (D : Dc bytes pc .iadd 1 pc') (G : Go wd K₀ l Z R y bytes ml ret n0 kc ks Q h k n pc' ls (.int (a + b) :: st)) : Go wd K₀ l Z R y bytes ml ret n0 kc ks Q h k n pc ls (.int b :: .int a :: st) := by
  obtain ⟨hd, rfl⟩ := D
  exact go_pure G (fun C X t => XS.iadd X.here C.1 (g := mkF _ pc ls.toArray (.int b :: .int a :: st)) rfl (hb C.2.1 hd) rfl)
theorem go_isub {a : Int32} {b : Int32} (D : Dc bytes pc .isub 1 pc') (G : Go wd K₀ l Z R y bytes ml ret n0 kc ks Q h k n pc' ls (.int (a - b) :: st)) : Go wd K₀ l Z R y bytes ml ret n0 kc ks Q h k n pc ls (.int b :: .int a :: st) := by
  obtain ⟨hd, rfl⟩ := D
  exact go_pure G (fun C X t => XS.isub X.here C.1 (g := mkF _ pc ls.toArray (.int b :: .int a :: st)) rfl (hb C.2.1 hd) rfl)
theorem go_imul {a : Int32} {b : Int32} (D : Dc bytes pc .imul 1 pc') (G : Go wd K₀ l Z R y bytes ml ret n0 kc ks Q h k n pc' ls (.int (a * b) :: st)) : Go wd K₀ l Z R y bytes ml ret n0 kc ks Q h k n pc ls (.int b :: .int a :: st) := by
  obtain ⟨hd, rfl⟩ := D
  exact go_pure G (fun C X t => XS.imul X.here C.1 (g := mkF _ pc ls.toArray (.int b :: .int a :: st)) rfl (hb C.2.1 hd) rfl)
theorem go_iand {a : Int32} {b : Int32} (D : Dc bytes pc .iand 1 pc') (G : Go wd K₀ l Z R y bytes ml ret n0 kc ks Q h k n pc' ls (.int (a &&& b) :: st)) : Go wd K₀ l Z R y bytes ml ret n0 kc ks Q h k n pc ls (.int b :: .int a :: st) := by
  obtain ⟨hd, rfl⟩ := D
  exact go_pure G (fun C X t => XS.iand X.here C.1 (g := mkF _ pc ls.toArray (.int b :: .int a :: st)) rfl (hb C.2.1 hd) rfl)
theorem go_ior {a : Int32} {b : Int32} (D : Dc bytes pc .ior 1 pc') (G : Go wd K₀ l Z R y bytes ml ret n0 kc ks Q h k n pc' ls (.int (a ||| b) :: st)) : Go wd K₀ l Z R y bytes ml ret n0 kc ks Q h k n pc ls (.int b :: .int a :: st) := by
  obtain ⟨hd, rfl⟩ := D
  exact go_pure G (fun C X t => XT.ior X.here C.1 (g := mkF _ pc ls.toArray (.int b :: .int a :: st)) rfl (hb C.2.1 hd) rfl)
theorem go_ixor {a : Int32} {b : Int32} (D : Dc bytes pc .ixor 1 pc') (G : Go wd K₀ l Z R y bytes ml ret n0 kc ks Q h k n pc' ls (.int (a ^^^ b) :: st)) : Go wd K₀ l Z R y bytes ml ret n0 kc ks Q h k n pc ls (.int b :: .int a :: st) := by
  obtain ⟨hd, rfl⟩ := D
  exact go_pure G (fun C X t => XT.ixor X.here C.1 (g := mkF _ pc ls.toArray (.int b :: .int a :: st)) rfl (hb C.2.1 hd) rfl)
theorem go_idiv {a : Int32} {b : Int32} (D : Dc bytes pc .idiv 1 pc') (hz : b ≠ 0) (G : Go wd K₀ l Z R y bytes ml ret n0 kc ks Q h k n pc' ls (.int (a / b) :: st)) : Go wd K₀ l Z R y bytes ml ret n0 kc ks Q h k n pc ls (.int b :: .int a :: st) := by
  obtain ⟨hd, rfl⟩ := D
  exact go_pure G (fun C X t => XS.idiv X.here C.1 (g := mkF _ pc ls.toArray (.int b :: .int a :: st)) rfl (hb C.2.1 hd) rfl hz)
theorem go_ladd {a : Int64} {b : Int64} (D : Dc bytes pc .ladd 1 pc') (G : Go wd K₀ l Z R y bytes ml ret n0 kc ks Q h k n pc' ls (.long (a + b) :: st)) : Go wd K₀ l Z R y bytes ml ret n0 kc ks Q h k n pc ls (.long b :: .long a :: st) := by
  obtain ⟨hd, rfl⟩ := D
  exact go_pure G (fun C X t => XT.ladd X.here C.1 (g := mkF _ pc ls.toArray (.long b :: .long a :: st)) rfl (hb C.2.1 hd) rfl)
theorem go_lsub {a : Int64} {b : Int64} (D : Dc bytes pc .lsub 1 pc') (G : Go wd K₀ l Z R y bytes ml ret n0 kc ks Q h k n pc' ls (.long (a - b) :: st)) : Go wd K₀ l Z R y bytes ml ret n0 kc ks Q h k n pc ls (.long b :: .long a :: st) := by
  obtain ⟨hd, rfl⟩ := D
  exact go_pure G (fun C X t => XT.lsub X.here C.1 (g := mkF _ pc ls.toArray (.long b :: .long a :: st)) rfl (hb C.2.1 hd) rfl)
theorem go_lmul {a : Int64} {b : Int64} (D : Dc bytes pc .lmul 1 pc') (G : Go wd K₀ l Z R y bytes ml ret n0 kc ks Q h k n pc' ls (.long (a * b) :: st)) : Go wd K₀ l Z R y bytes ml ret n0 kc ks Q h k n pc ls (.long b :: .long a :: st) := by
  obtain ⟨hd, rfl⟩ := D
  exact go_pure G (fun C X t => XT.lmul X.here C.1 (g := mkF _ pc ls.toArray (.long b :: .long a :: st)) rfl (hb C.2.1 hd) rfl)
theorem go_land {a : Int64} {b : Int64} (D : Dc bytes pc .land 1 pc') (G : Go wd K₀ l Z R y bytes ml ret n0 kc ks Q h k n pc' ls (.long (a &&& b) :: st)) : Go wd K₀ l Z R y bytes ml ret n0 kc ks Q h k n pc ls (.long b :: .long a :: st) := by
  obtain ⟨hd, rfl⟩ := D
  exact go_pure G (fun C X t => XT.land X.here C.1 (g := mkF _ pc ls.toArray (.long b :: .long a :: st)) rfl (hb C.2.1 hd) rfl)
theorem go_lor {a : Int64} {b : Int64} (D : Dc bytes pc .lor 1 pc') (G : Go wd K₀ l Z R y bytes ml ret n0 kc ks Q h k n pc' ls (.long (a ||| b) :: st)) : Go wd K₀ l Z R y bytes ml ret n0 kc ks Q h k n pc ls (.long b :: .long a :: st) := by
  obtain ⟨hd, rfl⟩ := D
  exact go_pure G (fun C X t => XT.lor X.here C.1 (g := mkF _ pc ls.toArray (.long b :: .long a :: st)) rfl (hb C.2.1 hd) rfl)
theorem go_lxor {a : Int64} {b : Int64} (D : Dc bytes pc .lxor 1 pc') (G : Go wd K₀ l Z R y bytes ml ret n0 kc ks Q h k n pc' ls (.long (a ^^^ b) :: st)) : Go wd K₀ l Z R y bytes ml ret n0 kc ks Q h k n pc ls (.long b :: .long a :: st) := by
  obtain ⟨hd, rfl⟩ := D
  exact go_pure G (fun C X t => XT.lxor X.here C.1 (g := mkF _ pc ls.toArray (.long b :: .long a :: st)) rfl (hb C.2.1 hd) rfl)
theorem go_ldiv {a : Int64} {b : Int64} (D : Dc bytes pc .ldiv 1 pc') (hz : b ≠ 0) (G : Go wd K₀ l Z R y bytes ml ret n0 kc ks Q h k n pc' ls (.long (a / b) :: st)) : Go wd K₀ l Z R y bytes ml ret n0 kc ks Q h k n pc ls (.long b :: .long a :: st) := by
  obtain ⟨hd, rfl⟩ := D
  exact go_pure G (fun C X t => XT.ldiv X.here C.1 (g := mkF _ pc ls.toArray (.long b :: .long a :: st)) rfl (hb C.2.1 hd) rfl hz)
theorem go_ishl {a : Int32} {b : Int32} (D : Dc bytes pc .ishl 1 pc') (G : Go wd K₀ l Z R y bytes ml ret n0 kc ks Q h k n pc' ls (.int (a <<< (b &&& 31)) :: st)) : Go wd K₀ l Z R y bytes ml ret n0 kc ks Q h k n pc ls (.int b :: .int a :: st) := by
  obtain ⟨hd, rfl⟩ := D
  exact go_pure G (fun C X t => XT.ishl X.here C.1 (g := mkF _ pc ls.toArray (.int b :: .int a :: st)) rfl (hb C.2.1 hd) rfl)
theorem go_ishr {a : Int32} {b : Int32} (D : Dc bytes pc .ishr 1 pc') (G : Go wd K₀ l Z R y bytes ml ret n0 kc ks Q h k n pc' ls (.int (a >>> (b &&& 31)) :: st)) : Go wd K₀ l Z R y bytes ml ret n0 kc ks Q h k n pc ls (.int b :: .int a :: st) := by
  obtain ⟨hd, rfl⟩ := D
  exact go_pure G (fun C X t => XT.ishr X.here C.1 (g := mkF _ pc ls.toArray (.int b :: .int a :: st)) rfl (hb C.2.1 hd) rfl)
theorem go_iushr {a : Int32} {b : Int32} (D : Dc bytes pc .iushr 1 pc') (G : Go wd K₀ l Z R y bytes ml ret n0 kc ks Q h k n pc' ls (.int (XT.ushr a b) :: st)) : Go wd K₀ l Z R y bytes ml ret n0 kc ks Q h k n pc ls (.int b :: .int a :: st) := by
  obtain ⟨hd, rfl⟩ := D
  exact go_pure G (fun C X t => XT.iushr X.here C.1 (g := mkF _ pc ls.toArray (.int b :: .int a :: st)) rfl (hb C.2.1 hd) rfl)
theorem go_lshl {a : Int64} {b : Int32} (D : Dc bytes pc .lshl 1 pc') (G : Go wd K₀ l Z R y bytes ml ret n0 kc ks Q h k n pc' ls (.long (a <<< (b.toInt64 &&& 63)) :: st)) : Go wd K₀ l Z R y bytes ml ret n0 kc ks Q h k n pc ls (.int b :: .long a :: st) := by
  obtain ⟨hd, rfl⟩ := D
  exact go_pure G (fun C X t => XT.lshl X.here C.1 (g := mkF _ pc ls.toArray (.int b :: .long a :: st)) rfl (hb C.2.1 hd) rfl)
theorem go_lshr {a : Int64} {b : Int32} (D : Dc bytes pc .lshr 1 pc') (G : Go wd K₀ l Z R y bytes ml ret n0 kc ks Q h k n pc' ls (.long (a >>> (b.toInt64 &&& 63)) :: st)) : Go wd K₀ l Z R y bytes ml ret n0 kc ks Q h k n pc ls (.int b :: .long a :: st) := by
  obtain ⟨hd, rfl⟩ := D
  exact go_pure G (fun C X t => XT.lshr X.here C.1 (g := mkF _ pc ls.toArray (.int b :: .long a :: st)) rfl (hb C.2.1 hd) rfl)
theorem go_lushr {a : Int64} {b : Int32} (D : Dc bytes pc .lushr 1 pc') (G : Go wd K₀ l Z R y bytes ml ret n0 kc ks Q h k n pc' ls (.long (XT.ushrL a b) :: st)) : Go wd K₀ l Z R y bytes ml ret n0 kc ks Q h k n pc ls (.int b :: .long a :: st) := by
  obtain ⟨hd, rfl⟩ := D
  exact go_pure G (fun C X t => XT.lushr X.here C.1 (g := mkF _ pc ls.toArray (.int b :: .long a :: st)) rfl (hb C.2.1 hd) rfl)
theorem go_lcmp {a : Int64} {b : Int64} (D : Dc bytes pc .lcmp 1 pc') (G : Go wd K₀ l Z R y bytes ml ret n0 kc ks Q h k n pc' ls (.int (XT.cmpL a b) :: st)) : Go wd K₀ l Z R y bytes ml ret n0 kc ks Q h k n pc ls (.long b :: .long a :: st) := by
  obtain ⟨hd, rfl⟩ := D
  exact go_pure G (fun C X t => XT.lcmp X.here C.1 (g := mkF _ pc ls.toArray (.long b :: .long a :: st)) rfl (hb C.2.1 hd) rfl)
theorem go_irem {a b : Int32} (D : Dc bytes pc .irem 1 pc') (hz : b ≠ 0) (G : Go wd K₀ l Z R y bytes ml ret n0 kc ks Q h k n pc' ls (.int (a % b) :: st)) : Go wd K₀ l Z R y bytes ml ret n0 kc ks Q h k n pc ls (.int b :: .int a :: st) := by
  obtain ⟨hd, rfl⟩ := D
  exact go_pure G (fun C X t hr => iremM X C.1 (g := mkF _ pc ls.toArray (.int b :: .int a :: st)) rfl (hb C.2.1 hd) rfl hz hr)
theorem go_lrem {a b : Int64} (D : Dc bytes pc .lrem 1 pc') (hz : b ≠ 0) (G : Go wd K₀ l Z R y bytes ml ret n0 kc ks Q h k n pc' ls (.long (a % b) :: st)) : Go wd K₀ l Z R y bytes ml ret n0 kc ks Q h k n pc ls (.long b :: .long a :: st) := by
  obtain ⟨hd, rfl⟩ := D
  rw [← lrem64] at G
  exact go_pure G (fun C X t => XT.lrem X.here C.1 (g := mkF _ pc ls.toArray (.long b :: .long a :: st)) rfl (hb C.2.1 hd) rfl hz)
theorem go_ineg {a : Int32} (D : Dc bytes pc .ineg 1 pc') (G : Go wd K₀ l Z R y bytes ml ret n0 kc ks Q h k n pc' ls (.int (-a) :: st)) : Go wd K₀ l Z R y bytes ml ret n0 kc ks Q h k n pc ls (.int a :: st) := by
  obtain ⟨hd, rfl⟩ := D
  exact go_pure G (fun C X t => XS.ineg X.here C.1 (g := mkF _ pc ls.toArray (.int a :: st)) rfl (hb C.2.1 hd) rfl)
theorem go_lneg {a : Int64} (D : Dc bytes pc .lneg 1 pc') (G : Go wd K₀ l Z R y bytes ml ret n0 kc ks Q h k n pc' ls (.long (-a) :: st)) : Go wd K₀ l Z R y bytes ml ret n0 kc ks Q h k n pc ls (.long a :: st) := by
  obtain ⟨hd, rfl⟩ := D
  exact go_pure G (fun C X t => XT.lneg X.here C.1 (g := mkF _ pc ls.toArray (.long a :: st)) rfl (hb C.2.1 hd) rfl)
theorem go_i2l {a : Int32} (D : Dc bytes pc .i2l 1 pc') (G : Go wd K₀ l Z R y bytes ml ret n0 kc ks Q h k n pc' ls (.long a.toInt64 :: st)) : Go wd K₀ l Z R y bytes ml ret n0 kc ks Q h k n pc ls (.int a :: st) := by
  obtain ⟨hd, rfl⟩ := D
  exact go_pure G (fun C X t => XT.i2l X.here C.1 (g := mkF _ pc ls.toArray (.int a :: st)) rfl (hb C.2.1 hd) rfl)
theorem go_l2i {a : Int64} (D : Dc bytes pc .l2i 1 pc') (G : Go wd K₀ l Z R y bytes ml ret n0 kc ks Q h k n pc' ls (.int a.toInt32 :: st)) : Go wd K₀ l Z R y bytes ml ret n0 kc ks Q h k n pc ls (.long a :: st) := by
  obtain ⟨hd, rfl⟩ := D
  exact go_pure G (fun C X t => XT.l2i X.here C.1 (g := mkF _ pc ls.toArray (.long a :: st)) rfl (hb C.2.1 hd) rfl)
theorem go_i2b {a : Int32} (D : Dc bytes pc .i2b 1 pc') (G : Go wd K₀ l Z R y bytes ml ret n0 kc ks Q h k n pc' ls (.int a.toInt8.toInt32 :: st)) : Go wd K₀ l Z R y bytes ml ret n0 kc ks Q h k n pc ls (.int a :: st) := by
  obtain ⟨hd, rfl⟩ := D
  exact go_pure G (fun C X t => XT.i2b X.here C.1 (g := mkF _ pc ls.toArray (.int a :: st)) rfl (hb C.2.1 hd) rfl)
theorem go_i2s {a : Int32} (D : Dc bytes pc .i2s 1 pc') (G : Go wd K₀ l Z R y bytes ml ret n0 kc ks Q h k n pc' ls (.int a.toInt16.toInt32 :: st)) : Go wd K₀ l Z R y bytes ml ret n0 kc ks Q h k n pc ls (.int a :: st) := by
  obtain ⟨hd, rfl⟩ := D
  exact go_pure G (fun C X t => XT.i2s X.here C.1 (g := mkF _ pc ls.toArray (.int a :: st)) rfl (hb C.2.1 hd) rfl)
theorem go_i2c {a : Int32} (D : Dc bytes pc .i2c 1 pc') (G : Go wd K₀ l Z R y bytes ml ret n0 kc ks Q h k n pc' ls (.int a.toUInt32.toUInt16.toUInt32.toInt32 :: st)) : Go wd K₀ l Z R y bytes ml ret n0 kc ks Q h k n pc ls (.int a :: st) := by
  obtain ⟨hd, rfl⟩ := D
  exact go_pure G (fun C X t => XT.i2c X.here C.1 (g := mkF _ pc ls.toArray (.int a :: st)) rfl (hb C.2.1 hd) rfl)
theorem go_dup {v : Value} (D : Dc bytes pc .dup 1 pc') (hv : v.category = 1) (G : Go wd K₀ l Z R y bytes ml ret n0 kc ks Q h k n pc' ls (v :: v :: st)) : Go wd K₀ l Z R y bytes ml ret n0 kc ks Q h k n pc ls (v :: st) := by
  obtain ⟨hd, rfl⟩ := D
  exact go_pure G (fun C X t => XS.dup X.here C.1 (g := mkF _ pc ls.toArray (v :: st)) rfl (hb C.2.1 hd) rfl hv)
theorem go_pop {v : Value} (D : Dc bytes pc .pop 1 pc') (hv : v.category = 1) (G : Go wd K₀ l Z R y bytes ml ret n0 kc ks Q h k n pc' ls st) : Go wd K₀ l Z R y bytes ml ret n0 kc ks Q h k n pc ls (v :: st) := by
  obtain ⟨hd, rfl⟩ := D
  exact go_pure G (fun C X t => XT.pop X.here C.1 (g := mkF _ pc ls.toArray (v :: st)) rfl (hb C.2.1 hd) rfl hv)
theorem go_dupx1 {v w : Value} (D : Dc bytes pc .dup_x1 1 pc') (hv : v.category = 1) (hw : w.category = 1) (G : Go wd K₀ l Z R y bytes ml ret n0 kc ks Q h k n pc' ls (v :: w :: v :: st)) : Go wd K₀ l Z R y bytes ml ret n0 kc ks Q h k n pc ls (v :: w :: st) := by
  obtain ⟨hd, rfl⟩ := D
  exact go_pure G (fun C X t => XT.dupX1 X.here C.1 (g := mkF _ pc ls.toArray (v :: w :: st)) rfl (hb C.2.1 hd) rfl hv hw)
theorem go_dup2 {v w : Value} (D : Dc bytes pc .dup2 1 pc') (hv : v.category = 1) (hw : w.category = 1) (G : Go wd K₀ l Z R y bytes ml ret n0 kc ks Q h k n pc' ls (v :: w :: v :: w :: st)) : Go wd K₀ l Z R y bytes ml ret n0 kc ks Q h k n pc ls (v :: w :: st) := by
  obtain ⟨hd, rfl⟩ := D
  exact go_pure G (fun C X t => XT.dup2 X.here C.1 (g := mkF _ pc ls.toArray (v :: w :: st)) rfl (hb C.2.1 hd) rfl hv hw)
theorem go_dup2L {v : Int64} (D : Dc bytes pc .dup2 1 pc') (G : Go wd K₀ l Z R y bytes ml ret n0 kc ks Q h k n pc' ls (.long v :: .long v :: st)) : Go wd K₀ l Z R y bytes ml ret n0 kc ks Q h k n pc ls (.long v :: st) := by
  obtain ⟨hd, rfl⟩ := D
  exact go_pure G (fun C X t => XT.dup2L X.here C.1 (g := mkF _ pc ls.toArray (.long v :: st)) rfl (hb C.2.1 hd) rfl)
theorem go_goto (D : Db bytes pc .goto pc' tg) (G : Go wd K₀ l Z R y bytes ml ret n0 kc ks Q h k n tg ls st) : Go wd K₀ l Z R y bytes ml ret n0 kc ks Q h k n pc ls st := by
  obtain ⟨o, hd, rfl, ho, hp⟩ := D
  exact go_pure G (fun C X t => XS.goto X.here C.1 (g := mkF _ pc ls.toArray st) rfl (pc0 := pc) rfl (hb C.2.1 hd) ho hp)
theorem go_icmp_eq {a b : Int32} (D : Db bytes pc (.if_icmp .eq) pc' tg) (G1 : a = b → Go wd K₀ l Z R y bytes ml ret n0 kc ks Q h k n tg ls st) (G2 : ¬ a = b → Go wd K₀ l Z R y bytes ml ret n0 kc ks Q h k n pc' ls st) : Go wd K₀ l Z R y bytes ml ret n0 kc ks Q h k n pc ls (.int b :: .int a :: st) := by
  obtain ⟨o, hd, rfl, ho, hp⟩ := D
  by_cases q : a = b
  · exact go_pure (G1 q) (fun C X t => XS.icmpYes X.here C.1 (g := mkF _ pc ls.toArray (.int b :: .int a :: st)) rfl (pc0 := pc) rfl (hb C.2.1 hd) rfl (XT.ii_eq_t q) ho hp)
  · exact go_pure (G2 q) (fun C X t => XS.icmpNo X.here C.1 (g := mkF _ pc ls.toArray (.int b :: .int a :: st)) rfl (hb C.2.1 hd) rfl (XT.ii_eq_f q))
theorem go_if_eq {a : Int32} (D : Db bytes pc (.ifCond .eq) pc' tg) (G1 : a = 0 → Go wd K₀ l Z R y bytes ml ret n0 kc ks Q h k n tg ls st) (G2 : ¬ a = 0 → Go wd K₀ l Z R y bytes ml ret n0 kc ks Q h k n pc' ls st) : Go wd K₀ l Z R y bytes ml ret n0 kc ks Q h k n pc ls (.int a :: st) := by
  obtain ⟨o, hd, rfl, ho, hp⟩ := D
  by_cases q : a = 0
  · exact go_pure (G1 q) (fun C X t => XS.ifYes X.here C.1 (g := mkF _ pc ls.toArray (.int a :: st)) rfl (pc0 := pc) rfl (hb C.2.1 hd) rfl (XT.i0_eq_t q) ho hp)
  · exact go_pure (G2 q) (fun C X t => XS.ifNo X.here C.1 (g := mkF _ pc ls.toArray (.int a :: st)) rfl (hb C.2.1 hd) rfl (XT.i0_eq_f q))
theorem go_lc_eq {a b : Int64} (D : Db bytes pc (.ifCond .eq) pc' tg) (G1 : a = b → Go wd K₀ l Z R y bytes ml ret n0 kc ks Q h k n tg ls st) (G2 : ¬ a = b → Go wd K₀ l Z R y bytes ml ret n0 kc ks Q h k n pc' ls st) : Go wd K₀ l Z R y bytes ml ret n0 kc ks Q h k n pc ls (.int (XT.cmpL a b) :: st) := by
  obtain ⟨o, hd, rfl, ho, hp⟩ := D
  by_cases q : a = b
  · exact go_pure (G1 q) (fun C X t => XS.ifYes X.here C.1 (g := mkF _ pc ls.toArray (.int (XT.cmpL a b) :: st)) rfl (pc0 := pc) rfl (hb C.2.1 hd) rfl (XT.ll_eq_t q) ho hp)
  · exact go_pure (G2 q) (fun C X t => XS.ifNo X.here C.1 (g := mkF _ pc ls.toArray (.int (XT.cmpL a b) :: st)) rfl (hb C.2.1 hd) rfl (XT.ll_eq_f q))
theorem go_icmp_ne {a b : Int32} (D : Db bytes pc (.if_icmp .ne) pc' tg) (G1 : ¬ a = b → Go wd K₀ l Z R y bytes ml ret n0 kc ks Q h k n tg ls st) (G2 : a = b → Go wd K₀ l Z R y bytes ml ret n0 kc ks Q h k n pc' ls st) : Go wd K₀ l Z R y bytes ml ret n0 kc ks Q h k n pc ls (.int b :: .int a :: st) := by
  obtain ⟨o, hd, rfl, ho, hp⟩ := D
  by_cases q : a = b
  · exact go_pure (G2 q) (fun C X t => XS.icmpNo X.here C.1 (g := mkF _ pc ls.toArray (.int b :: .int a :: st)) rfl (hb C.2.1 hd) rfl (XT.ii_ne_f q))
  · exact go_pure (G1 q) (fun C X t => XS.icmpYes X.here C.1 (g := mkF _ pc ls.toArray (.int b :: .int a :: st)) rfl (pc0 := pc) rfl (hb C.2.1 hd) rfl (XT.ii_ne_t q) ho hp)
theorem go_if_ne {a : Int32} (D : Db bytes pc (.ifCond .ne) pc' tg) (G1 : ¬ a = 0 → Go wd K₀ l Z R y bytes ml ret n0 kc ks Q h k n tg ls st) (G2 : a = 0 → Go wd K₀ l Z R y bytes ml ret n0 kc ks Q h k n pc' ls st) : Go wd K₀ l Z R y bytes ml ret n0 kc ks Q h k n pc ls (.int a :: st) := by
  obtain ⟨o, hd, rfl, ho, hp⟩ := D
  by_cases q : a = 0
  · exact go_pure (G2 q) (fun C X t => XS.ifNo X.here C.1 (g := mkF _ pc ls.toArray (.int a :: st)) rfl (hb C.2.1 hd) rfl (XT.i0_ne_f q))
  · exact go_pure (G1 q) (fun C X t => XS.ifYes X.here C.1 (g := mkF _ pc ls.toArray (.int a :: st)) rfl (pc0 := pc) rfl (hb C.2.1 hd) rfl (XT.i0_ne_t q) ho hp)
theorem go_lc_ne {a b : Int64} (D : Db bytes pc (.ifCond .ne) pc' tg) (G1 : ¬ a = b → Go wd K₀ l Z R y bytes ml ret n0 kc ks Q h k n tg ls st) (G2 : a = b → Go wd K₀ l Z R y bytes ml ret n0 kc ks Q h k n pc' ls st) : Go wd K₀ l Z R y bytes ml ret n0 kc ks Q h k n pc ls (.int (XT.cmpL a b) :: st) := by
  obtain ⟨o, hd, rfl, ho, hp⟩ := D
  by_cases q : a = b
  · exact go_pure (G2 q) (fun C X t => XS.ifNo X.here C.1 (g := mkF _ pc ls.toArray (.int (XT.cmpL a b) :: st)) rfl (hb C.2.1 hd) rfl (XT.ll_ne_f q))
  · exact go_pure (G1 q) (fun C X t => XS.ifYes X.here C.1 (g := mkF _ pc ls.toArray (.int (XT.cmpL a b) :: st)) rfl (pc0 := pc) rfl (hb C.2.1 hd) rfl (XT.ll_ne_t q) ho hp)
theorem go_icmp_lt {a b : Int32} (D : Db bytes pc (.if_icmp .lt) pc' tg) (G1 : a < b → Go wd K₀ l Z R y bytes ml ret n0 kc ks Q h k n tg ls st) (G2 : ¬ a < b → Go wd K₀ l Z R y bytes ml ret n0 kc ks Q h k n pc' ls st) : Go wd K₀ l Z R y bytes ml ret n0 kc ks Q h k n pc ls (.int b :: .int a :: st) := by
  obtain ⟨o, hd, rfl, ho, hp⟩ := D
  by_cases q : a < b
  · exact go_pure (G1 q) (fun C X t => XS.icmpYes X.here C.1 (g := mkF _ pc ls.toArray (.int b :: .int a :: st)) rfl (pc0 := pc) rfl (hb C.2.1 hd) rfl (XT.ii_lt_t q) ho hp)
  · exact go_pure (G2 q) (fun C X t => XS.icmpNo X.here C.1 (g := mkF _ pc ls.toArray (.int b :: .int a :: st)) rfl (hb C.2.1 hd) rfl (XT.ii_lt_f q))
theorem go_if_lt {a : Int32} (D : Db bytes pc (.ifCond .lt) pc' tg) (G1 : a < 0 → Go wd K₀ l Z R y bytes ml ret n0 kc ks Q h k n tg ls st) (G2 : ¬ a < 0 → Go wd K₀ l Z R y bytes ml ret n0 kc ks Q h k n pc' ls st) : Go wd K₀ l Z R y bytes ml ret n0 kc ks Q h k n pc ls (.int a :: st) := by
  obtain ⟨o, hd, rfl, ho, hp⟩ := D
  by_cases q : a < 0
  · exact go_pure (G1 q) (fun C X t => XS.ifYes X.here C.1 (g := mkF _ pc ls.toArray (.int a :: st)) rfl (pc0 := pc) rfl (hb C.2.1 hd) rfl (XT.i0_lt_t q) ho hp)
  · exact go_pure (G2 q) (fun C X t => XS.ifNo X.here C.1 (g := mkF _ pc ls.toArray (.int a :: st)) rfl (hb C.2.1 hd) rfl (XT.i0_lt_f q))
theorem go_lc_lt {a b : Int64} (D : Db bytes pc (.ifCond .lt) pc' tg) (G1 : a < b → Go wd K₀ l Z R y bytes ml ret n0 kc ks Q h k n tg ls st) (G2 : ¬ a < b → Go wd K₀ l Z R y bytes ml ret n0 kc ks Q h k n pc' ls st) : Go wd K₀ l Z R y bytes ml ret n0 kc ks Q h k n pc ls (.int (XT.cmpL a b) :: st) := by
  obtain ⟨o, hd, rfl, ho, hp⟩ := D
  by_cases q : a < b
  · exact go_pure (G1 q) (fun C X t => XS.ifYes X.here C.1 (g := mkF _ pc ls.toArray (.int (XT.cmpL a b) :: st)) rfl (pc0 := pc) rfl (hb C.2.1 hd) rfl (XT.ll_lt_t q) ho hp)
  · exact go_pure (G2 q) (fun C X t => XS.ifNo X.here C.1 (g := mkF _ pc ls.toArray (.int (XT.cmpL a b) :: st)) rfl (hb C.2.1 hd) rfl (XT.ll_lt_f q))
theorem go_icmp_ge {a b : Int32} (D : Db bytes pc (.if_icmp .ge) pc' tg) (G1 : ¬ a < b → Go wd K₀ l Z R y bytes ml ret n0 kc ks Q h k n tg ls st) (G2 : a < b → Go wd K₀ l Z R y bytes ml ret n0 kc ks Q h k n pc' ls st) : Go wd K₀ l Z R y bytes ml ret n0 kc ks Q h k n pc ls (.int b :: .int a :: st) := by
  obtain ⟨o, hd, rfl, ho, hp⟩ := D
  by_cases q : a < b
  · exact go_pure (G2 q) (fun C X t => XS.icmpNo X.here C.1 (g := mkF _ pc ls.toArray (.int b :: .int a :: st)) rfl (hb C.2.1 hd) rfl (XT.ii_ge_f q))
  · exact go_pure (G1 q) (fun C X t => XS.icmpYes X.here C.1 (g := mkF _ pc ls.toArray (.int b :: .int a :: st)) rfl (pc0 := pc) rfl (hb C.2.1 hd) rfl (XT.ii_ge_t q) ho hp)
theorem go_if_ge {a : Int32} (D : Db bytes pc (.ifCond .ge) pc' tg) (G1 : ¬ a < 0 → Go wd K₀ l Z R y bytes ml ret n0 kc ks Q h k n tg ls st) (G2 : a < 0 → Go wd K₀ l Z R y bytes ml ret n0 kc ks Q h k n pc' ls st) : Go wd K₀ l Z R y bytes ml ret n0 kc ks Q h k n pc ls (.int a :: st) := by
  obtain ⟨o, hd, rfl, ho, hp⟩ := D
  by_cases q : a < 0
  · exact go_pure (G2 q) (fun C X t => XS.ifNo X.here C.1 (g := mkF _ pc ls.toArray (.int a :: st)) rfl (hb C.2.1 hd) rfl (XT.i0_ge_f q))
  · exact go_pure (G1 q) (fun C X t => XS.ifYes X.here C.1 (g := mkF _ pc ls.toArray (.int a :: st)) rfl (pc0 := pc) rfl (hb C.2.1 hd) rfl (XT.i0_ge_t q) ho hp)
theorem go_lc_ge {a b : Int64} (D : Db bytes pc (.ifCond .ge) pc' tg) (G1 : ¬ a < b → Go wd K₀ l Z R y bytes ml ret n0 kc ks Q h k n tg ls st) (G2 : a < b → Go wd K₀ l Z R y bytes ml ret n0 kc ks Q h k n pc' ls st) : Go wd K₀ l Z R y bytes ml ret n0 kc ks Q h k n pc ls (.int (XT.cmpL a b) :: st) := by
  obtain ⟨o, hd, rfl, ho, hp⟩ := D
  by_cases q : a < b
  · exact go_pure (G2 q) (fun C X t => XS.ifNo X.here C.1 (g := mkF _ pc ls.toArray (.int (XT.cmpL a b) :: st)) rfl (hb C.2.1 hd) rfl (XT.ll_ge_f q))
  · exact go_pure (G1 q) (fun C X t => XS.ifYes X.here C.1 (g := mkF _ pc ls.toArray (.int (XT.cmpL a b) :: st)) rfl (pc0 := pc) rfl (hb C.2.1 hd) rfl (XT.ll_ge_t q) ho hp)
theorem go_icmp_gt {a b : Int32} (D : Db bytes pc (.if_icmp .gt) pc' tg) (G1 : b < a → Go wd K₀ l Z R y bytes ml ret n0 kc ks Q h k n tg ls st) (G2 : ¬ b < a → Go wd K₀ l Z R y bytes ml ret n0 kc ks Q h k n pc' ls st) : Go wd K₀ l Z R y bytes ml ret n0 kc ks Q h k n pc ls (.int b :: .int a :: st) := by
  obtain ⟨o, hd, rfl, ho, hp⟩ := D
  by_cases q : b < a
  · exact go_pure (G1 q) (fun C X t => XS.icmpYes X.here C.1 (g := mkF _ pc ls.toArray (.int b :: .int a :: st)) rfl (pc0 := pc) rfl (hb C.2.1 hd) rfl (XT.ii_gt_t q) ho hp)
  · exact go_pure (G2 q) (fun C X t => XS.icmpNo X.here C.1 (g := mkF _ pc ls.toArray (.int b :: .int a :: st)) rfl (hb C.2.1 hd) rfl (XT.ii_gt_f q))
theorem go_if_gt {a : Int32} (D : Db bytes pc (.ifCond .gt) pc' tg) (G1 : 0 < a → Go wd K₀ l Z R y bytes ml ret n0 kc ks Q h k n tg ls st) (G2 : ¬ 0 < a → Go wd K₀ l Z R y bytes ml ret n0 kc ks Q h k n pc' ls st) : Go wd K₀ l Z R y bytes ml ret n0 kc ks Q h k n pc ls (.int a :: st) := by
  obtain ⟨o, hd, rfl, ho, hp⟩ := D
  by_cases q : 0 < a
  · exact go_pure (G1 q) (fun C X t => XS.ifYes X.here C.1 (g := mkF _ pc ls.toArray (.int a :: st)) rfl (pc0 := pc) rfl (hb C.2.1 hd) rfl (XT.i0_gt_t q) ho hp)
  · exact go_pure (G2 q) (fun C X t => XS.ifNo X.here C.1 (g := mkF _ pc ls.toArray (.int a :: st)) rfl (hb C.2.1 hd) rfl (XT.i0_gt_f q))
theorem go_lc_gt {a b : Int64} (D : Db bytes pc (.ifCond .gt) pc' tg) (G1 : b < a → Go wd K₀ l Z R y bytes ml ret n0 kc ks Q h k n tg ls st) (G2 : ¬ b < a → Go wd K₀ l Z R y bytes ml ret n0 kc ks Q h k n pc' ls st) : Go wd K₀ l Z R y bytes ml ret n0 kc ks Q h k n pc ls (.int (XT.cmpL a b) :: st) := by
  obtain ⟨o, hd, rfl, ho, hp⟩ := D
  by_cases q : b < a
  · exact go_pure (G1 q) (fun C X t => XS.ifYes X.here C.1 (g := mkF _ pc ls.toArray (.int (XT.cmpL a b) :: st)) rfl (pc0 := pc) rfl (hb C.2.1 hd) rfl (XT.ll_gt_t q) ho hp)
  · exact go_pure (G2 q) (fun C X t => XS.ifNo X.here C.1 (g := mkF _ pc ls.toArray (.int (XT.cmpL a b) :: st)) rfl (hb C.2.1 hd) rfl (XT.ll_gt_f q))
theorem go_icmp_le {a b : Int32} (D : Db bytes pc (.if_icmp .le) pc' tg) (G1 : ¬ b < a → Go wd K₀ l Z R y bytes ml ret n0 kc ks Q h k n tg ls st) (G2 : b < a → Go wd K₀ l Z R y bytes ml ret n0 kc ks Q h k n pc' ls st) : Go wd K₀ l Z R y bytes ml ret n0 kc ks Q h k n pc ls (.int b :: .int a :: st) := by
  obtain ⟨o, hd, rfl, ho, hp⟩ := D
  by_cases q : b < a
  · exact go_pure (G2 q) (fun C X t => XS.icmpNo X.here C.1 (g := mkF _ pc ls.toArray (.int b :: .int a :: st)) rfl (hb C.2.1 hd) rfl (XT.ii_le_f q))
  · exact go_pure (G1 q) (fun C X t => XS.icmpYes X.here C.1 (g := mkF _ pc ls.toArray (.int b :: .int a :: st)) rfl (pc0 := pc) rfl (hb C.2.1 hd) rfl (XT.ii_le_t q) ho hp)
theorem go_if_le {a : Int32} (D : Db bytes pc (.ifCond .le) pc' tg) (G1 : ¬ 0 < a → Go wd K₀ l Z R y bytes ml ret n0 kc ks Q h k n tg ls st) (G2 : 0 < a → Go wd K₀ l Z R y bytes ml ret n0 kc ks Q h k n pc' ls st) : Go wd K₀ l Z R y bytes ml ret n0 kc ks Q h k n pc ls (.int a :: st) := by
  obtain ⟨o, hd, rfl, ho, hp⟩ := D
  by_cases q : 0 < a
  · exact go_pure (G2 q) (fun C X t => XS.ifNo X.here C.1 (g := mkF _ pc ls.toArray (.int a :: st)) rfl (hb C.2.1 hd) rfl (XT.i0_le_f q))
  · exact go_pure (G1 q) (fun C X t => XS.ifYes X.here C.1 (g := mkF _ pc ls.toArray (.int a :: st)) rfl (pc0 := pc) rfl (hb C.2.1 hd) rfl (XT.i0_le_t q) ho hp)
theorem go_lc_le {a b : Int64} (D : Db bytes pc (.ifCond .le) pc' tg) (G1 : ¬ b < a → Go wd K₀ l Z R y bytes ml ret n0 kc ks Q h k n tg ls st) (G2 : b < a → Go wd K₀ l Z R y bytes ml ret n0 kc ks Q h k n pc' ls st) : Go wd K₀ l Z R y bytes ml ret n0 kc ks Q h k n pc ls (.int (XT.cmpL a b) :: st) := by
  obtain ⟨o, hd, rfl, ho, hp⟩ := D
  by_cases q : b < a
  · exact go_pure (G2 q) (fun C X t => XS.ifNo X.here C.1 (g := mkF _ pc ls.toArray (.int (XT.cmpL a b) :: st)) rfl (hb C.2.1 hd) rfl (XT.ll_le_f q))
  · exact go_pure (G1 q) (fun C X t => XS.ifYes X.here C.1 (g := mkF _ pc ls.toArray (.int (XT.cmpL a b) :: st)) rfl (pc0 := pc) rfl (hb C.2.1 hd) rfl (XT.ll_le_t q) ho hp)
theorem go_acmp_eq {a b : Value} (D : Db bytes pc (.if_acmp .eq) pc' tg) (ha : a.isRef = true) (hb' : b.isRef = true) (G1 : a = b → Go wd K₀ l Z R y bytes ml ret n0 kc ks Q h k n tg ls st) (G2 : ¬ a = b → Go wd K₀ l Z R y bytes ml ret n0 kc ks Q h k n pc' ls st) : Go wd K₀ l Z R y bytes ml ret n0 kc ks Q h k n pc ls (b :: a :: st) := by
  obtain ⟨o, hd, rfl, ho, hp⟩ := D
  by_cases q : a = b
  · exact go_pure (G1 q) (fun C X t => XT.acmpYes X.here C.1 (g := mkF _ pc ls.toArray (b :: a :: st)) rfl (pc0 := pc) rfl (hb C.2.1 hd) rfl ha hb' (XT.aa_eq_t q) ho hp)
  · exact go_pure (G2 q) (fun C X t => XT.acmpNo X.here C.1 (g := mkF _ pc ls.toArray (b :: a :: st)) rfl (hb C.2.1 hd) rfl ha hb' (XT.aa_eq_f q))
theorem go_acmp_ne {a b : Value} (D : Db bytes pc (.if_acmp .ne) pc' tg) (ha : a.isRef = true) (hb' : b.isRef = true) (G1 : ¬ a = b → Go wd K₀ l Z R y bytes ml ret n0 kc ks Q h k n tg ls st) (G2 : a = b → Go wd K₀ l Z R y bytes ml ret n0 kc ks Q h k n pc' ls st) : Go wd K₀ l Z R y bytes ml ret n0 kc ks Q h k n pc ls (b :: a :: st) := by
  obtain ⟨o, hd, rfl, ho, hp⟩ := D
  by_cases q : a = b
  · exact go_pure (G2 q) (fun C X t => XT.acmpNo X.here C.1 (g := mkF _ pc ls.toArray (b :: a :: st)) rfl (hb C.2.1 hd) rfl ha hb' (XT.aa_ne_f q))
  · exact go_pure (G1 q) (fun C X t => XT.acmpYes X.here C.1 (g := mkF _ pc ls.toArray (b :: a :: st)) rfl (pc0 := pc) rfl (hb C.2.1 hd) rfl ha hb' (XT.aa_ne_t q) ho hp)
theorem go_ifnullT (D : Db bytes pc .ifnull pc' tg) (G : Go wd K₀ l Z R y bytes ml ret n0 kc ks Q h k n tg ls st) : Go wd K₀ l Z R y bytes ml ret n0 kc ks Q h k n pc ls (.null :: st) := by
  obtain ⟨o, hd, rfl, ho, hp⟩ := D
  exact go_pure G (fun C X t => XS.ifnullYes X.here C.1 (g := mkF _ pc ls.toArray (.null :: st)) rfl (pc0 := pc) rfl (hb C.2.1 hd) rfl ho hp)
theorem go_ifnullF {a : Addr} (D : Db bytes pc .ifnull pc' tg) (G : Go wd K₀ l Z R y bytes ml ret n0 kc ks Q h k n pc' ls st) : Go wd K₀ l Z R y bytes ml ret n0 kc ks Q h k n pc ls (.ref a :: st) := by
  obtain ⟨o, hd, rfl, ho, hp⟩ := D
  exact go_pure G (fun C X t => XS.ifnullNo X.here C.1 (g := mkF _ pc ls.toArray (.ref a :: st)) rfl (hb C.2.1 hd) rfl)
theorem go_nonnullT {a : Addr} (D : Db bytes pc .ifnonnull pc' tg) (G : Go wd K₀ l Z R y bytes ml ret n0 kc ks Q h k n tg ls st) : Go wd K₀ l Z R y bytes ml ret n0 kc ks Q h k n pc ls (.ref a :: st) := by
  obtain ⟨o, hd, rfl, ho, hp⟩ := D
  exact go_pure G (fun C X t => XT.ifnonnullYes X.here C.1 (g := mkF _ pc ls.toArray (.ref a :: st)) rfl (pc0 := pc) rfl (hb C.2.1 hd) rfl ho hp)
theorem go_nonnullF (D : Db bytes pc .ifnonnull pc' tg) (G : Go wd K₀ l Z R y bytes ml ret n0 kc ks Q h k n pc' ls st) : Go wd K₀ l Z R y bytes ml ret n0 kc ks Q h k n pc ls (.null :: st) := by
  obtain ⟨o, hd, rfl, ho, hp⟩ := D
  exact go_pure G (fun C X t => XT.ifnonnullNo X.here C.1 (g := mkF _ pc ls.toArray (.null :: st)) rfl (hb C.2.1 hd) rfl)
theorem go_nonnullV {v : Value} (D : Db bytes pc .ifnonnull pc' tg) (hv : v.isRef = true) (G1 : v ≠ .null → Go wd K₀ l Z R y bytes ml ret n0 kc ks Q h k n tg ls st) (G2 : v = .null → Go wd K₀ l Z R y bytes ml ret n0 kc ks Q h k n pc' ls st) : Go wd K₀ l Z R y bytes ml ret n0 kc ks Q h k n pc ls (v :: st) := by
  cases v with
  | null => exact go_nonnullF D (G2 rfl)
  | ref a => exact go_nonnullT D (G1 (fun q => nomatch q))
  | int _ => cases hv
  | long _ => cases hv
  | float _ => cases hv
  | double _ => cases hv
  | _ => cases hv
theorem go_ldcI {v : Int32} {idx : Nat} (D : Dc bytes pc (.ldc idx) 2 pc') (w : (Cond.constant y.cls idx v).before a0 Z = true) (G : Go wd K₀ l Z R y bytes ml ret n0 kc ks Q h k n pc' ls (.int v :: st)) : Go wd K₀ l Z R y bytes ml ret n0 kc ks Q h k n pc ls st := by
  obtain ⟨hd, rfl⟩ := D
  exact go_pure G (fun C X t => X.ldcInt C.1 C.2.2.2.1 (mvT C.2.2.2.2.1 w) (g := mkF _ pc ls.toArray st) rfl (hb C.2.1 hd) t)
theorem go_ldcJ {v : Int64} {idx : Nat} (D : Dc bytes pc (.ldc2_w idx) 3 pc') (w : (Cond.constantLong y.cls idx v).before a0 Z = true) (G : Go wd K₀ l Z R y bytes ml ret n0 kc ks Q h k n pc' ls (.long v :: st)) : Go wd K₀ l Z R y bytes ml ret n0 kc ks Q h k n pc ls st := by
  obtain ⟨hd, rfl⟩ := D
  exact go_pure G (fun C X t => X.ldc2Long C.1 C.2.2.2.1 (mvT C.2.2.2.2.1 w) (g := mkF _ pc ls.toArray st) rfl (hb C.2.1 hd) t)
theorem go_iret {z : Int32} (hr : ret = some .int) (D : Dc bytes pc .ireturn 1 pc') (hk : k ≤ kc) (hn : n ≤ ks) (q : Q (some (.int z)) h) : Go wd K₀ l Z R y bytes ml ret n0 kc ks Q h k n pc ls (.int z :: st) := by
  intro p e s0 s m args below meth c T L Bs C X hh N
  obtain ⟨hd, rfl⟩ := D
  have hl := C.2.2.2.2.2.2.1
  obtain ⟨fs, hr', hrun, hended, hW, hsame⟩ := X.leave (v := some (.int z)) (fun q => by rw [C.2.2.2.2.2.1, hr] at q; cases q) hl
  exact ⟨_, _, retOut X C.1 (C.2.2.2.2.2.1.trans hr) rfl (Or.inl ⟨rfl, Or.inl rfl, z, rfl⟩) (hb C.2.1 hd) hr', hrun, hended, _, L, rfl, ⟨by show Q _ T.heap; rw [hh]; exact q, N⟩, endK Bs hh hW hsame hk hn⟩
theorem go_bret {z : Int32} (hr : ret = some .boolean) (D : Dc bytes pc .ireturn 1 pc') (hk : k ≤ kc) (hn : n ≤ ks) (hz : z = 0 ∨ z = 1) (q : Q (some (.int z)) h) : Go wd K₀ l Z R y bytes ml ret n0 kc ks Q h k n pc ls (.int z :: st) := by
  intro p e s0 s m args below meth c T L Bs C X hh N
  obtain ⟨hd, rfl⟩ := D
  have hl := C.2.2.2.2.2.2.1
  obtain ⟨fs, hr', hrun, hended, hW, hsame⟩ := X.leave (v := some (.int z)) (fun q => by rw [C.2.2.2.2.2.1, hr] at q; cases q) hl
  exact ⟨_, _, retOut X C.1 (C.2.2.2.2.2.1.trans hr) (by rcases hz with rfl | rfl <;> rfl) (Or.inl ⟨rfl, Or.inr (Or.inl rfl), z, rfl⟩) (hb C.2.1 hd) hr', hrun, hended, _, L, rfl, ⟨by show Q _ T.heap; rw [hh]; exact q, N⟩, endK Bs hh hW hsame hk hn⟩
theorem go_nret {z : Int32} {ty : FieldType} (hr : ret = some ty) (hty : ty = .byte ∨ ty = .char ∨ ty = .short) (D : Dc bytes pc .ireturn 1 pc') (hk : k ≤ kc) (hn : n ≤ ks) (hz : narrow ty (.int z) = .int z) (q : Q (some (.int z)) h) : Go wd K₀ l Z R y bytes ml ret n0 kc ks Q h k n pc ls (.int z :: st) := by
  intro p e s0 s m args below meth c T L Bs C X hh N
  obtain ⟨hd, rfl⟩ := D
  have hl := C.2.2.2.2.2.2.1
  obtain ⟨fs, hr', hrun, hended, hW, hsame⟩ := X.leave (v := some (.int z)) (fun q => by rw [C.2.2.2.2.2.1, hr] at q; cases q) hl
  exact ⟨_, _, retOut X C.1 (C.2.2.2.2.2.1.trans hr) hz (Or.inl ⟨rfl, Or.inr (Or.inr hty), z, rfl⟩) (hb C.2.1 hd) hr', hrun, hended, _, L, rfl, ⟨by show Q _ T.heap; rw [hh]; exact q, N⟩, endK Bs hh hW hsame hk hn⟩
theorem go_lret {z : Int64} (hr : ret = some .long) (D : Dc bytes pc .lreturn 1 pc') (hk : k ≤ kc) (hn : n ≤ ks) (q : Q (some (.long z)) h) : Go wd K₀ l Z R y bytes ml ret n0 kc ks Q h k n pc ls (.long z :: st) := by
  intro p e s0 s m args below meth c T L Bs C X hh N
  obtain ⟨hd, rfl⟩ := D
  have hl := C.2.2.2.2.2.2.1
  obtain ⟨fs, hr', hrun, hended, hW, hsame⟩ := X.leave (v := some (.long z)) (fun q => by rw [C.2.2.2.2.2.1, hr] at q; cases q) hl
  exact ⟨_, _, retOut X C.1 (C.2.2.2.2.2.1.trans hr) rfl (Or.inr (Or.inl ⟨rfl, rfl, z, rfl⟩)) (hb C.2.1 hd) hr', hrun, hended, _, L, rfl, ⟨by show Q _ T.heap; rw [hh]; exact q, N⟩, endK Bs hh hW hsame hk hn⟩
theorem narrow_ref {t : FieldType} {w : Value} (ht : t.isReference = true) (hw : w.isRef = true) : narrow t w = w := by
  cases t <;> cases w <;> first | rfl | (simp [FieldType.isReference] at ht; done) | (simp [Value.isRef] at hw; done)
theorem go_aret {w : Value} {t : FieldType} (hr : ret = some t) (ht : t.isReference = true) (hw : w.isRef = true) (D : Dc bytes pc .areturn 1 pc') (hk : k ≤ kc) (hn : n ≤ ks) (q : Q (some w) h) : Go wd K₀ l Z R y bytes ml ret n0 kc ks Q h k n pc ls (w :: st) := by
  intro p e s0 s m args below meth c T L Bs C X hh N
  obtain ⟨hd, rfl⟩ := D
  have hl := C.2.2.2.2.2.2.1
  obtain ⟨fs, hr', hrun, hended, hW, hsame⟩ := X.leave (v := some w) (fun q => by rw [C.2.2.2.2.2.1, hr] at q; cases q) hl
  exact ⟨_, _, retOut X C.1 (C.2.2.2.2.2.1.trans hr) (narrow_ref ht hw) (Or.inr (Or.inr (Or.inr (Or.inr ⟨rfl, ht, hw⟩)))) (hb C.2.1 hd) hr', hrun, hended, _, L, rfl, ⟨by show Q _ T.heap; rw [hh]; exact q, N⟩, endK Bs hh hW hsame hk hn⟩
theorem go_ret (hr : ret = none) (D : Dc bytes pc .return_ 1 pc') (hk : k ≤ kc) (hn : n ≤ ks) (q : Q none h) : Go wd K₀ l Z R y bytes ml ret n0 kc ks Q h k n pc ls [] := by
  intro p e s0 s m args below meth c T L Bs C X hh N
  obtain ⟨hd, rfl⟩ := D
  have hl := C.2.2.2.2.2.2.1
  obtain ⟨fs, hr', hrun, hended, hW, hsame⟩ := X.leave (v := none) (fun _ => rfl) hl
  exact ⟨_, _, X.returnOut C.1 (C.2.2.2.2.2.1.trans hr) (hb C.2.1 hd) hr', hrun, hended, _, L, rfl, ⟨by show Q _ T.heap; rw [hh]; exact q, N⟩, endK Bs hh hW hsame hk hn⟩
theorem con_of {as' : Array Value} (hp : plainFor y = true) (he : Jvm.Sym.laidSlots as'.toList ++ List.replicate (ml - (Jvm.Sym.laidSlots as'.toList).length) .unset = ls) (G : Go wd KT l Z R y bytes ml ret n0 R.cells R.slots Q h 0 0 0 ls []) : Con wd l Z y bytes ml ret R as' h n0 Q := by
  intro ws
  refine MetFree.of_bodySF hp hisR ?_
  intro p e s m args below meth c s₁ Bd hml hP hK
  obtain ⟨rfl, hZ, hh⟩ := hP
  have X0 : Stand p l e R s m args below meth c s₁ [] 0 0 := Stand.of_body Bd
  have e0 : s₁.heap = h := by rw [← hh, Bd.state]; rfl
  obtain ⟨s₂, o, h1, h2, h3, v, L, e1, ⟨q1, q2⟩, q3⟩ := G p e s s m args below meth c s₁ [] (Base.start s hh) ⟨Bd.exec, Bd.bytes, hml, findClass_of_methodNamed Bd.named, hZ, Bd.returns, Bd.notSynchronized, (name_of_methodNamed Bd.named Bd.method).1, trivial⟩ X0 e0 (Fr.nil n0)
  exact ⟨s₂, o, (XT.entry (Ls := ls.toArray) (by simpa using he)).trans h1, h2, h3, v, L, e1, ⟨⟨q1, by rw [← hh]; exact q3.size⟩, q2⟩, q3⟩
theorem go_callS1 {y' : MethodName} {b' : ByteArray} {m' : Nat} {r' : Option FieldType} {rm : Room} {idx W : Nat} {argsL : List Value} {P : Value → Heap → Prop} (D : Dc bytes pc (.invokestatic idx) 3 pc') (hM : Con false l Z y' b' m' r' rm argsL.toArray h n0 (R1 P))
    (w1 : (Cond.methodLink y.cls idx y').before a0 Z = true) (w2 : (Cond.static y').before a0 Z = true) (w3 : (Cond.initialized y'.cls).before a0 Z = true) (w4 : (Cond.code y' b' m' r').before a0 Z = true) (hy : y'.cls ≠ "java/lang/invoke/MethodHandle" ∧ y'.cls ≠ "java/lang/invoke/VarHandle")
    (hlen : ∀ sig, parseMethodDescriptor y'.desc = some sig → argsL.length = sig.parameters.length) {st₀ : List Value} (hst : st₀ = argsL.reverse ++ st) (hW : (st.map fun v => v.category).sum = W) (hf : rm.frames + 1 ≤ R.frames) (hlo : W + (m' + 11) + rm.locals ≤ R.locals) (hk : k + rm.cells ≤ R.cells) (hn : n + rm.slots ≤ R.slots) (hls : ls.length = ml)
    (G : ∀ w h', P w h' → Go wd K₀ l Z R y bytes ml ret n0 kc ks Q h' (k + rm.cells) (n + rm.slots) pc' ls (w :: st)) : Go wd K₀ l Z R y bytes ml ret n0 kc ks Q h k n pc ls st₀ := by
  subst hst
  intro p e s0 s m args below meth c T L Bs C X hh N
  obtain ⟨hd, rfl⟩ := D
  have hZ := C.2.2.2.2.1
  obtain ⟨v, vm₁, ⟨B, Lb, kb, nb⟩, -, X', ⟨Lq, ⟨⟨hQ, hsz⟩, Ns⟩, e1, e2, e3⟩, st'⟩ := Jvm.LawKit.callS X C.1 (y := y') C.2.2.2.1 (mvT hZ w1) (mvT hZ w2) (mvT hZ w3) (mvT hZ w4) hy (backOf (W := W) (Q := fun v h' L => ((R1 P) v h' ∧ h.size ≤ h'.size) ∧ Fr n0 L) (hM []) hZ w4 w3 hf hlo) (g := mkF m pc ls.toArray (argsL.reverse ++ st)) rfl
    (by rw [C.2.2.1]; simpa using hls) (argsL := argsL) (rest := st) hlen rfl (by show 2 * 0 + _ ≤ W; rw [← hW]; omega) (hb C.2.1 hd) (fun _ _ => ⟨rfl, hh, hk, hn⟩)
  dsimp only [Pt.U, Pt.locs, Pt.cells, Pt.slots] at X' hQ hsz e1 e2 e3 st'
  subst e1 e2 e3
  obtain ⟨w, rfl, hP⟩ := hQ
  exact (G w B.heap hP p e s0 s m args below meth c B _ (Bs.mono hsz) C X' rfl (N.app Ns)).pre st'
theorem go_callV1 {y' : MethodName} {b' : ByteArray} {m' : Nat} {r' : Option FieldType} {rm : Room} {idx W : Nat} {argsL : List Value} {P : Value → Heap → Prop} {x' : MethodName} {K : String} {a : Addr} (D : Dc bytes pc (.invokevirtual idx) 3 pc') (hM : Con false l Z y' b' m' r' rm (.ref a :: argsL).toArray h n0 (R1 P)) (E : Exa Z h a K)
    (w1 : (Cond.methodLink y.cls idx x').before a0 Z = true) (w5 : (Cond.declares x').before a0 Z = true) (nf : ∀ s : State, Z.Warmed39 s.vm → NotFace s x') (w6 : (Cond.selects K x' y').before a0 Z = true) (w2 : (Cond.instanceMethod y').before a0 Z = true) (w3 : (Cond.initialized y'.cls).before a0 Z = true) (w4 : (Cond.code y' b' m' r').before a0 Z = true)
    (hy : x'.cls ≠ "java/lang/invoke/MethodHandle" ∧ x'.cls ≠ "java/lang/invoke/VarHandle") (hlen : ∀ sig, parseMethodDescriptor x'.desc = some sig → argsL.length = sig.parameters.length) {st₀ : List Value} (hst : st₀ = argsL.reverse ++ .ref a :: st) (hW : (st.map fun v => v.category).sum = W) (hf : rm.frames + 1 ≤ R.frames) (hlo : W + (m' + 11) + rm.locals ≤ R.locals) (hk : k + rm.cells ≤ R.cells) (hn : n + rm.slots ≤ R.slots) (hls : ls.length = ml)
    (G : ∀ w h', P w h' → Go wd K₀ l Z R y bytes ml ret n0 kc ks Q h' (k + rm.cells) (n + rm.slots) pc' ls (w :: st)) : Go wd K₀ l Z R y bytes ml ret n0 kc ks Q h k n pc ls st₀ := by
  subst hst
  intro p e s0 s m args below meth c T L Bs C X hh N
  obtain ⟨hd, rfl⟩ := D
  have hZ := C.2.2.2.2.1
  obtain ⟨cq, kq, qa, qb, qc⟩ := isOf (T := T) hZ hh E
  obtain ⟨v, vm₁, ⟨B, Lb, kb, nb⟩, -, X', ⟨Lq, ⟨⟨hQ, hsz⟩, Ns⟩, e1, e2, e3⟩, st'⟩ := X.virtualBack C.1 (y := x') (z := y') C.2.2.2.1 (mvT hZ w1) (mvT hZ w5) (nf s hZ) (mvT hZ w6) (mvT hZ w2) hy (backOf (W := W) (Q := fun v h' L => ((R1 P) v h' ∧ h.size ≤ h'.size) ∧ Fr n0 L) (hM []) hZ w4 w3 hf hlo) qa qc (g := mkF m pc ls.toArray (argsL.reverse ++ .ref a :: st)) rfl
    (by rw [C.2.2.1]; simpa using hls) (Steps.refl _) (argsL := argsL) (rest := st) hlen rfl (by show 2 * 0 + _ ≤ W; rw [← hW]; omega) (hb C.2.1 hd) (fun _ _ => ⟨rfl, hh, hk, hn⟩)
  dsimp only [Pt.U, Pt.locs, Pt.cells, Pt.slots] at X' hQ hsz e1 e2 e3 st'
  subst e1 e2 e3
  obtain ⟨w, rfl, hP⟩ := hQ
  exact (G w B.heap hP p e s0 s m args below meth c B _ (Bs.mono hsz) C X' rfl (N.app Ns)).pre (fun t q => st'.trans q)
theorem go_callP1 {y' : MethodName} {b' : ByteArray} {m' : Nat} {r' : Option FieldType} {rm : Room} {idx W : Nat} {argsL : List Value} {P : Value → Heap → Prop} {K : String} {a : Addr} (D : Dc bytes pc (.invokevirtual idx) 3 pc') (hM : Con false l Z y' b' m' r' rm (.ref a :: argsL).toArray h n0 (R1 P)) (E : Exa Z h a K)
    (w1 : (Cond.methodLink y.cls idx y').before a0 Z = true) (w2 : (Cond.instanceMethod y').before a0 Z = true) {kk : Nat} (wi : (Cond.instantiable y'.cls kk).before a0 Z = true) (w5 : (Cond.privateMethod y').before a0 Z = true) (w3 : (Cond.initialized y'.cls).before a0 Z = true) (w4 : (Cond.code y' b' m' r').before a0 Z = true) (hy : y'.cls ≠ "java/lang/invoke/MethodHandle" ∧ y'.cls ≠ "java/lang/invoke/VarHandle")
    (hlen : ∀ sig, parseMethodDescriptor y'.desc = some sig → argsL.length = sig.parameters.length) {st₀ : List Value} (hst : st₀ = argsL.reverse ++ .ref a :: st) (hW : (st.map fun v => v.category).sum = W) (hf : rm.frames + 1 ≤ R.frames) (hlo : W + (m' + 11) + rm.locals ≤ R.locals) (hk : k + rm.cells ≤ R.cells) (hn : n + rm.slots ≤ R.slots) (hls : ls.length = ml)
    (G : ∀ w h', P w h' → Go wd K₀ l Z R y bytes ml ret n0 kc ks Q h' (k + rm.cells) (n + rm.slots) pc' ls (w :: st)) : Go wd K₀ l Z R y bytes ml ret n0 kc ks Q h k n pc ls st₀ := by
  subst hst
  intro p e s0 s m args below meth c T L Bs C X hh N
  obtain ⟨hd, rfl⟩ := D
  have hZ := C.2.2.2.2.1
  obtain ⟨cq, q1, q2⟩ := E.cell
  have wi' : (Cond.instantiable y'.cls kk).before args s = true := mvT hZ wi
  obtain ⟨c2, k2, i1, i2, -, i4, -⟩ := Cond.instantiable_spec wi'
  have hpa : s.PrivateAt y' := Cond.privateMethod_at (mvP hZ w5 (args := #[]))
  have w6 : (Cond.selects y'.cls y' y').before args s = true := selects_self_of_private i1 i2 (Bool.or_eq_false_iff.mp i4).1 hpa (mvT hZ w2) hy
  obtain ⟨v, vm₁, ⟨B, Lb, kb, nb⟩, -, X', ⟨Lq, ⟨⟨hQ, hsz⟩, Ns⟩, e1, e2, e3⟩, st'⟩ := X.privateBack C.1 (y := y') C.2.2.2.1 (mvT hZ w1) (mvT hZ w2) w6 hpa (mvT hZ w4) hy (backOf (W := W) (Q := fun v h' L => ((R1 P) v h' ∧ h.size ≤ h'.size) ∧ Fr n0 L) (hM []) hZ w4 w3 hf hlo) (g := mkF m pc ls.toArray (argsL.reverse ++ .ref a :: st)) rfl
    (by rw [C.2.2.1]; simpa using hls) (Steps.refl _) (a := a) (by rw [hh]; exact q1) q2 (argsL := argsL) (rest := st) hlen rfl (by show 2 * 0 + _ ≤ W; rw [← hW]; omega) (hb C.2.1 hd) (fun _ _ => ⟨rfl, hh, hk, hn⟩)
  dsimp only [Pt.U, Pt.locs, Pt.cells, Pt.slots] at X' hQ hsz e1 e2 e3 st'
  subst e1 e2 e3
  obtain ⟨w, rfl, hP⟩ := hQ
  exact (G w B.heap hP p e s0 s m args below meth c B _ (Bs.mono hsz) C X' rfl (N.app Ns)).pre (fun t q => st'.trans q)
theorem go_callS0 {y' : MethodName} {b' : ByteArray} {m' : Nat} {r' : Option FieldType} {rm : Room} {idx W : Nat} {argsL : List Value} {P : Heap → Prop} (D : Dc bytes pc (.invokestatic idx) 3 pc') (hM : Con false l Z y' b' m' r' rm argsL.toArray h n0 (R0 P))
    (w1 : (Cond.methodLink y.cls idx y').before a0 Z = true) (w2 : (Cond.static y').before a0 Z = true) (w3 : (Cond.initialized y'.cls).before a0 Z = true) (w4 : (Cond.code y' b' m' r').before a0 Z = true) (hy : y'.cls ≠ "java/lang/invoke/MethodHandle" ∧ y'.cls ≠ "java/lang/invoke/VarHandle")
    (hlen : ∀ sig, parseMethodDescriptor y'.desc = some sig → argsL.length = sig.parameters.length) {st₀ : List Value} (hst : st₀ = argsL.reverse ++ st) (hW : (st.map fun v => v.category).sum = W) (hf : rm.frames + 1 ≤ R.frames) (hlo : W + (m' + 11) + rm.locals ≤ R.locals) (hk : k + rm.cells ≤ R.cells) (hn : n + rm.slots ≤ R.slots) (hls : ls.length = ml)
    (G : ∀ h', P h' → Go wd K₀ l Z R y bytes ml ret n0 kc ks Q h' (k + rm.cells) (n + rm.slots) pc' ls st) : Go wd K₀ l Z R y bytes ml ret n0 kc ks Q h k n pc ls st₀ := by
  subst hst
  intro p e s0 s m args below meth c T L Bs C X hh N
  obtain ⟨hd, rfl⟩ := D
  have hZ := C.2.2.2.2.1
  obtain ⟨v, vm₁, ⟨B, Lb, kb, nb⟩, -, X', ⟨Lq, ⟨⟨hQ, hsz⟩, Ns⟩, e1, e2, e3⟩, st'⟩ := Jvm.LawKit.callS X C.1 (y := y') C.2.2.2.1 (mvT hZ w1) (mvT hZ w2) (mvT hZ w3) (mvT hZ w4) hy (backOf (W := W) (Q := fun v h' L => ((R0 P) v h' ∧ h.size ≤ h'.size) ∧ Fr n0 L) (hM []) hZ w4 w3 hf hlo) (g := mkF m pc ls.toArray (argsL.reverse ++ st)) rfl
    (by rw [C.2.2.1]; simpa using hls) (argsL := argsL) (rest := st) hlen rfl (by show 2 * 0 + _ ≤ W; rw [← hW]; omega) (hb C.2.1 hd) (fun _ _ => ⟨rfl, hh, hk, hn⟩)
  dsimp only [Pt.U, Pt.locs, Pt.cells, Pt.slots] at X' hQ hsz e1 e2 e3 st'
  subst e1 e2 e3
  obtain ⟨rfl, hP⟩ := hQ
  exact (G B.heap hP p e s0 s m args below meth c B _ (Bs.mono hsz) C X' rfl (N.app Ns)).pre st'
theorem go_callN0 {y' : MethodName} {b' : ByteArray} {m' : Nat} {r' : Option FieldType} {rm : Room} {idx W : Nat} {argsL : List Value} {P : Heap → Prop} {a : Addr} (D : Dc bytes pc (.invokespecial idx) 3 pc') (hi : y'.name = "<init>") (hr' : r' = none) (hM : Con false l Z y' b' m' r' rm (.ref a :: argsL).toArray h n0 (R0 P))
    (w1 : (Cond.methodLink y.cls idx y').before a0 Z = true) (w2 : (Cond.instanceMethod y').before a0 Z = true) (w3 : (Cond.initialized y'.cls).before a0 Z = true) (w4 : (Cond.code y' b' m' r').before a0 Z = true) (hy : y'.cls ≠ "java/lang/invoke/MethodHandle" ∧ y'.cls ≠ "java/lang/invoke/VarHandle")
    (hlen : ∀ sig, parseMethodDescriptor y'.desc = some sig → argsL.length = sig.parameters.length) {st₀ : List Value} (hst : st₀ = argsL.reverse ++ .ref a :: st) (hW : (st.map fun v => v.category).sum = W) (hf : rm.frames + 1 ≤ R.frames) (hlo : W + (m' + 11) + rm.locals ≤ R.locals) (hk : k + rm.cells ≤ R.cells) (hn : n + rm.slots ≤ R.slots) (hls : ls.length = ml)
    (G : ∀ h', P h' → Go wd K₀ l Z R y bytes ml ret n0 kc ks Q h' (k + rm.cells) (n + rm.slots) pc' ls st) : Go wd K₀ l Z R y bytes ml ret n0 kc ks Q h k n pc ls st₀ := by
  subst hst hr'
  intro p e s0 s m args below meth c T L Bs C X hh N
  obtain ⟨hd, rfl⟩ := D
  have hZ := C.2.2.2.2.1
  obtain ⟨v, vm₁, ⟨B, Lb, kb, nb⟩, -, X', ⟨Lq, ⟨⟨hQ, hsz⟩, Ns⟩, e1, e2, e3⟩, st'⟩ := X.specialBack C.1 (y := y') hi C.2.2.2.1 (mvT hZ w1) (mvT hZ w2) (mvT hZ w4) hy (backOf (W := W) (Q := fun v h' L => ((R0 P) v h' ∧ h.size ≤ h'.size) ∧ Fr n0 L) (hM []) hZ w4 w3 hf hlo) (g := mkF m pc ls.toArray (argsL.reverse ++ .ref a :: st)) rfl
    (by rw [C.2.2.1]; simpa using hls) (Steps.refl _) (a := a) (argsL := argsL) (rest := st) hlen rfl (by show 2 * 0 + _ ≤ W; rw [← hW]; omega) (hb C.2.1 hd) (fun _ _ => ⟨rfl, hh, hk, hn⟩)
  dsimp only [Pt.U, Pt.locs, Pt.cells, Pt.slots] at X' hQ hsz e1 e2 e3 st'
  subst e1 e2 e3
  obtain ⟨rfl, hP⟩ := hQ
  exact (G B.heap hP p e s0 s m args below meth c B _ (Bs.mono hsz) C X' rfl (N.app Ns)).pre (fun t q => st'.trans q)
theorem go_callV0 {y' : MethodName} {b' : ByteArray} {m' : Nat} {r' : Option FieldType} {rm : Room} {idx W : Nat} {argsL : List Value} {P : Heap → Prop} {x' : MethodName} {K : String} {a : Addr} (D : Dc bytes pc (.invokevirtual idx) 3 pc') (hM : Con false l Z y' b' m' r' rm (.ref a :: argsL).toArray h n0 (R0 P)) (E : Exa Z h a K)
    (w1 : (Cond.methodLink y.cls idx x').before a0 Z = true) (w5 : (Cond.declares x').before a0 Z = true) (nf : ∀ s : State, Z.Warmed39 s.vm → NotFace s x') (w6 : (Cond.selects K x' y').before a0 Z = true) (w2 : (Cond.instanceMethod y').before a0 Z = true) (w3 : (Cond.initialized y'.cls).before a0 Z = true) (w4 : (Cond.code y' b' m' r').before a0 Z = true)
    (hy : x'.cls ≠ "java/lang/invoke/MethodHandle" ∧ x'.cls ≠ "java/lang/invoke/VarHandle") (hlen : ∀ sig, parseMethodDescriptor x'.desc = some sig → argsL.length = sig.parameters.length) {st₀ : List Value} (hst : st₀ = argsL.reverse ++ .ref a :: st) (hW : (st.map fun v => v.category).sum = W) (hf : rm.frames + 1 ≤ R.frames) (hlo : W + (m' + 11) + rm.locals ≤ R.locals) (hk : k + rm.cells ≤ R.cells) (hn : n + rm.slots ≤ R.slots) (hls : ls.length = ml)
    (G : ∀ h', P h' → Go wd K₀ l Z R y bytes ml ret n0 kc ks Q h' (k + rm.cells) (n + rm.slots) pc' ls st) : Go wd K₀ l Z R y bytes ml ret n0 kc ks Q h k n pc ls st₀ := by
  subst hst
  intro p e s0 s m args below meth c T L Bs C X hh N
  obtain ⟨hd, rfl⟩ := D
  have hZ := C.2.2.2.2.1
  obtain ⟨cq, kq, qa, qb, qc⟩ := isOf (T := T) hZ hh E
  obtain ⟨v, vm₁, ⟨B, Lb, kb, nb⟩, -, X', ⟨Lq, ⟨⟨hQ, hsz⟩, Ns⟩, e1, e2, e3⟩, st'⟩ := X.virtualBack C.1 (y := x') (z := y') C.2.2.2.1 (mvT hZ w1) (mvT hZ w5) (nf s hZ) (mvT hZ w6) (mvT hZ w2) hy (backOf (W := W) (Q := fun v h' L => ((R0 P) v h' ∧ h.size ≤ h'.size) ∧ Fr n0 L) (hM []) hZ w4 w3 hf hlo) qa qc (g := mkF m pc ls.toArray (argsL.reverse ++ .ref a :: st)) rfl
    (by rw [C.2.2.1]; simpa using hls) (Steps.refl _) (argsL := argsL) (rest := st) hlen rfl (by show 2 * 0 + _ ≤ W; rw [← hW]; omega) (hb C.2.1 hd) (fun _ _ => ⟨rfl, hh, hk, hn⟩)
  dsimp only [Pt.U, Pt.locs, Pt.cells, Pt.slots] at X' hQ hsz e1 e2 e3 st'
  subst e1 e2 e3
  obtain ⟨rfl, hP⟩ := hQ
  exact (G B.heap hP p e s0 s m args below meth c B _ (Bs.mono hsz) C X' rfl (N.app Ns)).pre (fun t q => st'.trans q)
theorem go_callP0 {y' : MethodName} {b' : ByteArray} {m' : Nat} {r' : Option FieldType} {rm : Room} {idx W : Nat} {argsL : List Value} {P : Heap → Prop} {K : String} {a : Addr} (D : Dc bytes pc (.invokevirtual idx) 3 pc') (hM : Con false l Z y' b' m' r' rm (.ref a :: argsL).toArray h n0 (R0 P)) (E : Exa Z h a K)
    (w1 : (Cond.methodLink y.cls idx y').before a0 Z = true) (w2 : (Cond.instanceMethod y').before a0 Z = true) {kk : Nat} (wi : (Cond.instantiable y'.cls kk).before a0 Z = true) (w5 : (Cond.privateMethod y').before a0 Z = true) (w3 : (Cond.initialized y'.cls).before a0 Z = true) (w4 : (Cond.code y' b' m' r').before a0 Z = true) (hy : y'.cls ≠ "java/lang/invoke/MethodHandle" ∧ y'.cls ≠ "java/lang/invoke/VarHandle")
    (hlen : ∀ sig, parseMethodDescriptor y'.desc = some sig → argsL.length = sig.parameters.length) {st₀ : List Value} (hst : st₀ = argsL.reverse ++ .ref a :: st) (hW : (st.map fun v => v.category).sum = W) (hf : rm.frames + 1 ≤ R.frames) (hlo : W + (m' + 11) + rm.locals ≤ R.locals) (hk : k + rm.cells ≤ R.cells) (hn : n + rm.slots ≤ R.slots) (hls : ls.length = ml)
    (G : ∀ h', P h' → Go wd K₀ l Z R y bytes ml ret n0 kc ks Q h' (k + rm.cells) (n + rm.slots) pc' ls st) : Go wd K₀ l Z R y bytes ml ret n0 kc ks Q h k n pc ls st₀ := by
  subst hst
  intro p e s0 s m args below meth c T L Bs C X hh N
  obtain ⟨hd, rfl⟩ := D
  have hZ := C.2.2.2.2.1
  obtain ⟨cq, q1, q2⟩ := E.cell
  have wi' : (Cond.instantiable y'.cls kk).before args s = true := mvT hZ wi
  obtain ⟨c2, k2, i1, i2, -, i4, -⟩ := Cond.instantiable_spec wi'
  have hpa : s.PrivateAt y' := Cond.privateMethod_at (mvP hZ w5 (args := #[]))
  have w6 : (Cond.selects y'.cls y' y').before args s = true := selects_self_of_private i1 i2 (Bool.or_eq_false_iff.mp i4).1 hpa (mvT hZ w2) hy
  obtain ⟨v, vm₁, ⟨B, Lb, kb, nb⟩, -, X', ⟨Lq, ⟨⟨hQ, hsz⟩, Ns⟩, e1, e2, e3⟩, st'⟩ := X.privateBack C.1 (y := y') C.2.2.2.1 (mvT hZ w1) (mvT hZ w2) w6 hpa (mvT hZ w4) hy (backOf (W := W) (Q := fun v h' L => ((R0 P) v h' ∧ h.size ≤ h'.size) ∧ Fr n0 L) (hM []) hZ w4 w3 hf hlo) (g := mkF m pc ls.toArray (argsL.reverse ++ .ref a :: st)) rfl
    (by rw [C.2.2.1]; simpa using hls) (Steps.refl _) (a := a) (by rw [hh]; exact q1) q2 (argsL := argsL) (rest := st) hlen rfl (by show 2 * 0 + _ ≤ W; rw [← hW]; omega) (hb C.2.1 hd) (fun _ _ => ⟨rfl, hh, hk, hn⟩)
  dsimp only [Pt.U, Pt.locs, Pt.cells, Pt.slots] at X' hQ hsz e1 e2 e3 st'
  subst e1 e2 e3
  obtain ⟨rfl, hP⟩ := hQ
  exact (G B.heap hP p e s0 s m args below meth c B _ (Bs.mono hsz) C X' rfl (N.app Ns)).pre (fun t q => st'.trans q)
theorem Base.since {s0 s : State} {vm' : Vm} {h' : Heap} (B : Base true s0 s h) (q : s.Since vm' h'.size) (g : h.size ≤ h'.size) : Base true s0 (s.setVm vm') h' := by
  obtain ⟨vm0, k0, rfl, hS, hk⟩ := B
  exact ⟨vm', h'.size, rfl, hS.trans q (Nat.le_trans hk g), Nat.le_refl _⟩
theorem Ctx.since {p : Program} {s : State} {m : MethodId} {meth : Method} {c : Code} {vm' : Vm} {k' : Nat} (C : Ctx K₀ Z y bytes ml ret p s m meth c) (q : s.Since vm' k') : Ctx KT Z y bytes ml ret p (s.setVm vm') m meth c :=
  ⟨C.1, C.2.1, C.2.2.1, by rw [show (s.setVm vm').vm = vm' from rfl, q.1.alike.findClass]; exact C.2.2.2.1, State.Warmed39.trans C.2.2.2.2.1 q.1, C.2.2.2.2.2.1, C.2.2.2.2.2.2.1, C.2.2.2.2.2.2.2.1, trivial⟩
theorem go_ldcS {idx nn : Nat} {text : String} (D : Dc bytes pc (.ldc idx) 2 pc') (w : (Cond.stringLink y.cls idx text).before a0 Z = true) (wS : ∀ a ∈ Bundle.stringAtoms, a.before a0 Z = true) (hn : 4 * text.toList.length ≤ nn) (hbig : nn ≤ 536870912) (hc : k + 2 ≤ R.cells) (hl : n + (nn + 4) ≤ R.slots)
    (G : ∀ (a : Addr) h', Ext h h' → Go true KT l Z R y bytes ml ret n0 kc ks Q h' (k + 2) (n + (nn + 4)) pc' ls (.ref a :: st)) : Go true K₀ l Z R y bytes ml ret n0 kc ks Q h k n pc ls st := by
  intro p e s0 s m args below meth c T L Bs C X hh N
  obtain ⟨hd, rfl⟩ := D
  obtain ⟨vm0, k0, rfl, hS, hk⟩ := Bs
  obtain ⟨a, T', h', k1, X', e', E, hS', hk', hZ', hf', st'⟩ := ldcS X C.1 C.2.2.2.2.1 C.2.2.2.1 w wS hh hS hk (g := mkF m pc ls.toArray st) rfl (hb C.2.1 hd) hn hbig hc hl
  exact (G a h' E p e s0 _ m args below meth c T' L ⟨_, k1, rfl, hS', hk'⟩ ⟨C.1, C.2.1, C.2.2.1, hf', hZ', C.2.2.2.2.2.1, C.2.2.2.2.2.2.1, C.2.2.2.2.2.2.2.1, trivial⟩ X' e' N).pre st'
theorem go_K (G : Go true KT l Z R y bytes ml ret n0 kc ks Q h k n pc ls st) : Go true K₀ l Z R y bytes ml ret n0 kc ks Q h k n pc ls st := fun p e s0 s m args below meth c T L B C X hh N => G p e s0 s m args below meth c T L B ⟨C.1, C.2.1, C.2.2.1, C.2.2.2.1, C.2.2.2.2.1, C.2.2.2.2.2.1, C.2.2.2.2.2.2.1, C.2.2.2.2.2.2.2.1, trivial⟩ X hh N
theorem go_ldcV {idx nn : Nat} {text : String} {vs : List Value} {z : Int32} (D : Dc bytes pc (.ldc idx) 2 pc') (w : (Cond.stringLink y.cls idx text).before a0 Z = true) (wS : ∀ a ∈ Bundle.stringAtoms, a.before a0 Z = true) (hld : Jvm.Lit.constHeld Z y.cls idx) (hcw : Jvm.Lit.compactW.before a0 Z = true)
    (ht : (∀ c ∈ text.toList, c.toNat < 256) ∧ text.toList.map (fun c => Value.int (Jvm.Lit.byteI c.toNat.toUInt16)) = vs) (hz : ¬ z < 0) (hlv : z.toNatClampNeg = vs.length) (hn : 4 * text.toList.length ≤ nn) (hbig : nn ≤ 536870912) (hc : k + 2 ≤ R.cells) (hl : n + (nn + 4) ≤ R.slots) (hn0 : Z.heap.size = n0)
    (G : ∀ (a b : Addr) (kb : ClassId) h', Ext h h' → Exa Z h' a "java/lang/String" → Fld Z h' a "java/lang/String" "coder" "B" (.int 0) → Fld Z h' a "java/lang/String" "value" "[B" (.ref b) → Arv Z h' b kb .byte z vs (.int 0) → Go true KT l Z R y bytes ml ret n0 kc ks Q h' (k + 2) (n + (nn + 4)) pc' ls (.ref a :: st)) : Go true (fun s => s = Z) l Z R y bytes ml ret n0 kc ks Q h k n pc ls st := by
  intro p e s0 s m args below meth c T L Bs C X hh N
  obtain ⟨hd, rfl⟩ := D
  obtain ⟨vm0, k0, rfl, hS, hk⟩ := Bs
  have hZs : s0.setVm vm0 = Z := C.2.2.2.2.2.2.2.2
  subst hZs
  obtain ⟨a, T', h', k1, b, kb, X', e', E, hS', hk', hZ', hf', F1, F2, F3, F4, -, -, -, -, st'⟩ := ldcSVL (Z := s0.setVm vm0) (s := s0) (vm0 := vm0) (Ts := []) X C.1 C.2.2.2.2.1 C.2.2.2.1 w wS hh hS hk (hn0 ▸ N) (fun _ _ q => q) IB.start (by simp) hld hcw ht hz hlv (g := mkF m pc ls.toArray st) rfl (hb C.2.1 hd) hn hbig hc hl
  exact (G a b kb h' E F1 F2 F3 F4 p e s0 _ m args below meth c T' L ⟨_, k1, rfl, hS', hk'⟩ ⟨C.1, C.2.1, C.2.2.1, hf', hZ', C.2.2.2.2.2.1, C.2.2.2.2.2.2.1, C.2.2.2.2.2.2.2.1, trivial⟩ X' e' N).pre st'
theorem con_ofZ {as' : Array Value} (hp : plainFor y = true) (he : Jvm.Sym.laidSlots as'.toList ++ List.replicate (ml - (Jvm.Sym.laidSlots as'.toList).length) .unset = ls) (G : Go wd (fun s => s = Z) l Z R y bytes ml ret n0 R.cells R.slots Q Z.heap 0 0 0 ls []) (ws : List Cond) :
    MetFree l y (head1 (Cond.code y bytes ml ret :: ws) R) (fun a U => a = as' ∧ U = Z) (fun _ _ _ _ _ => True) (fun _ U o U' => ∃ v L, o = .returned v ∧ ((Q v U'.heap ∧ Z.heap.size ≤ U'.heap.size) ∧ Fr n0 L) ∧ EndK wd U o U' L R.cells R.slots) := by
  refine MetFree.of_bodySF hp hisR ?_
  intro p e s m args below meth c s₁ Bd hml hP hK
  obtain ⟨rfl, hZ⟩ := hP
  subst hZ
  have X0 : Stand p l e R s m args below meth c s₁ [] 0 0 := Stand.of_body Bd
  have e0 : s₁.heap = s.heap := by rw [Bd.state]; rfl
  obtain ⟨s₂, o, h1, h2, h3, v, L, e1, ⟨q1, q2⟩, q3⟩ := G p e s s m args below meth c s₁ [] (Base.start s rfl) ⟨Bd.exec, Bd.bytes, hml, findClass_of_methodNamed Bd.named, State.Warmed39.refl s, Bd.returns, Bd.notSynchronized, (name_of_methodNamed Bd.named Bd.method).1, rfl⟩ X0 e0 (Fr.nil n0)
  exact ⟨s₂, o, (XT.entry (Ls := ls.toArray) (by simpa using he)).trans h1, h2, h3, v, L, e1, ⟨⟨q1, q3.size⟩, q2⟩, q3⟩
theorem go_cast {idx : Nat} {C0 : String} {a : Addr} (D : Dc bytes pc (.checkcast idx) 3 pc') (w : (Cond.classLink y.cls idx C0).before a0 Z = true) (F : Ins Z h a C0 true) (G : Go wd K₀ l Z R y bytes ml ret n0 kc ks Q h k n pc' ls (.ref a :: st)) : Go wd K₀ l Z R y bytes ml ret n0 kc ks Q h k n pc ls (.ref a :: st) := by
  intro p e s0 s m args below meth c T L Bs C X hh N
  obtain ⟨hd, rfl⟩ := D
  obtain ⟨T', X', e', st'⟩ := castY X C.1 C.2.2.2.2.1 C.2.2.2.1 w hh F (g := mkF m pc ls.toArray (.ref a :: st)) rfl rfl (hb C.2.1 hd)
  exact (G p e s0 s m args below meth c T' L Bs C X' e' N).pre st'
theorem go_inst {idx : Nat} {C0 : String} {a : Addr} (D : Dc bytes pc (.instanceof idx) 3 pc') (w : (Cond.classLink y.cls idx C0).before a0 Z = true) (F : Ins Z h a C0 true) (G : Go wd K₀ l Z R y bytes ml ret n0 kc ks Q h k n pc' ls (.int 1 :: st)) : Go wd K₀ l Z R y bytes ml ret n0 kc ks Q h k n pc ls (.ref a :: st) := by
  intro p e s0 s m args below meth c T L Bs C X hh N
  obtain ⟨hd, rfl⟩ := D
  obtain ⟨T', X', e', st'⟩ := instY X C.1 C.2.2.2.2.1 C.2.2.2.1 w hh F (g := mkF m pc ls.toArray (.ref a :: st)) rfl rfl (hb C.2.1 hd)
  exact (G p e s0 s m args below meth c T' L Bs C X' e' N).pre st'
theorem go_wcallS1 {y' : MethodName} {b' : ByteArray} {m' : Nat} {r' : Option FieldType} {rm : Room} {idx W : Nat} {argsL : List Value} {P : Value → Heap → Prop} (D : Dc bytes pc (.invokestatic idx) 3 pc') (hM : Con true l Z y' b' m' r' rm argsL.toArray h n0 (R1 P))
    (w1 : (Cond.methodLink y.cls idx y').before a0 Z = true) (w2 : (Cond.static y').before a0 Z = true) (w3 : (Cond.initialized y'.cls).before a0 Z = true) (w4 : (Cond.code y' b' m' r').before a0 Z = true) (hy : y'.cls ≠ "java/lang/invoke/MethodHandle" ∧ y'.cls ≠ "java/lang/invoke/VarHandle")
    (hlen : ∀ sig, parseMethodDescriptor y'.desc = some sig → argsL.length = sig.parameters.length) {st₀ : List Value} (hst : st₀ = argsL.reverse ++ st) (hW : (st.map fun v => v.category).sum = W) (hf : rm.frames + 1 ≤ R.frames) (hlo : W + (m' + 11) + rm.locals ≤ R.locals) (hk : k + rm.cells ≤ R.cells) (hn : n + rm.slots ≤ R.slots) (hls : ls.length = ml)
    (G : ∀ w h', P w h' → Go true KT l Z R y bytes ml ret n0 kc ks Q h' (k + rm.cells) (n + rm.slots) pc' ls (w :: st)) : Go true K₀ l Z R y bytes ml ret n0 kc ks Q h k n pc ls st₀ := by
  subst hst
  intro p e s0 s m args below meth c T L Bs C X hh N
  obtain ⟨hd, rfl⟩ := D
  have hZ := C.2.2.2.2.1
  obtain ⟨v, vm₁, ⟨B, Lb, kb, nb⟩, -, X', hSi, -, ⟨Lq, ⟨⟨hQ, hsz⟩, Ns⟩, e1, e2, e3⟩, st'⟩ := callSS X C.1 (y := y') C.2.2.2.1 (mvT hZ w1) (mvT hZ w2) (mvT hZ w3) (mvT hZ w4) hy (backOfS (W := W) (Q := fun v h' L => ((R1 P) v h' ∧ h.size ≤ h'.size) ∧ Fr n0 L) (hM []) hZ w4 w3 hf hlo) (g := mkF m pc ls.toArray (argsL.reverse ++ st)) rfl
    (by rw [C.2.2.1]; simpa using hls) (argsL := argsL) (rest := st) hlen rfl (by show 2 * 0 + _ ≤ W; rw [← hW]; omega) (hb C.2.1 hd) (fun _ _ => ⟨rfl, hh, hk, hn⟩)
  dsimp only [Pt.U, Pt.locs, Pt.cells, Pt.slots] at X' hSi hQ hsz e1 e2 e3 st'
  subst e1 e2 e3
  obtain ⟨w, rfl, hP⟩ := hQ
  exact (G w B.heap hP p e s0 _ m args below meth c B _ (Bs.since hSi hsz) (C.since hSi) X' rfl (N.app Ns)).pre (fun t q => st'.trans q)
theorem go_wcallV1 {y' : MethodName} {b' : ByteArray} {m' : Nat} {r' : Option FieldType} {rm : Room} {idx W : Nat} {argsL : List Value} {P : Value → Heap → Prop} {x' : MethodName} {K : String} {a : Addr} (D : Dc bytes pc (.invokevirtual idx) 3 pc') (hM : Con true l Z y' b' m' r' rm (.ref a :: argsL).toArray h n0 (R1 P)) (E : Exa Z h a K)
    (w1 : (Cond.methodLink y.cls idx x').before a0 Z = true) (w5 : (Cond.declares x').before a0 Z = true) (nf : ∀ s : State, Z.Warmed39 s.vm → NotFace s x') (w6 : (Cond.selects K x' y').before a0 Z = true) (w2 : (Cond.instanceMethod y').before a0 Z = true) (w3 : (Cond.initialized y'.cls).before a0 Z = true) (w4 : (Cond.code y' b' m' r').before a0 Z = true)
    (hy : x'.cls ≠ "java/lang/invoke/MethodHandle" ∧ x'.cls ≠ "java/lang/invoke/VarHandle") (hlen : ∀ sig, parseMethodDescriptor x'.desc = some sig → argsL.length = sig.parameters.length) {st₀ : List Value} (hst : st₀ = argsL.reverse ++ .ref a :: st) (hW : (st.map fun v => v.category).sum = W) (hf : rm.frames + 1 ≤ R.frames) (hlo : W + (m' + 11) + rm.locals ≤ R.locals) (hk : k + rm.cells ≤ R.cells) (hn : n + rm.slots ≤ R.slots) (hls : ls.length = ml)
    (G : ∀ w h', P w h' → Go true KT l Z R y bytes ml ret n0 kc ks Q h' (k + rm.cells) (n + rm.slots) pc' ls (w :: st)) : Go true K₀ l Z R y bytes ml ret n0 kc ks Q h k n pc ls st₀ := by
  subst hst
  intro p e s0 s m args below meth c T L Bs C X hh N
  obtain ⟨hd, rfl⟩ := D
  have hZ := C.2.2.2.2.1
  obtain ⟨cq, kq, qa, qb, qc⟩ := isOf (T := T) hZ hh E
  obtain ⟨v, vm₁, ⟨B, Lb, kb, nb⟩, -, X', hSi, -, ⟨Lq, ⟨⟨hQ, hsz⟩, Ns⟩, e1, e2, e3⟩, st'⟩ := X.virtualBackS C.1 (y := x') (z := y') C.2.2.2.1 (mvT hZ w1) (mvT hZ w5) (nf s hZ) (mvT hZ w6) (mvT hZ w2) hy (backOfS (W := W) (Q := fun v h' L => ((R1 P) v h' ∧ h.size ≤ h'.size) ∧ Fr n0 L) (hM []) hZ w4 w3 hf hlo) qa qc (g := mkF m pc ls.toArray (argsL.reverse ++ .ref a :: st)) rfl
    (by rw [C.2.2.1]; simpa using hls) (Steps.refl _) (argsL := argsL) (rest := st) hlen rfl (by show 2 * 0 + _ ≤ W; rw [← hW]; omega) (hb C.2.1 hd) (fun _ _ => ⟨rfl, hh, hk, hn⟩)
  dsimp only [Pt.U, Pt.locs, Pt.cells, Pt.slots] at X' hSi hQ hsz e1 e2 e3 st'
  subst e1 e2 e3
  obtain ⟨w, rfl, hP⟩ := hQ
  exact (G w B.heap hP p e s0 _ m args below meth c B _ (Bs.since hSi hsz) (C.since hSi) X' rfl (N.app Ns)).pre (fun t q => st'.trans q)
theorem go_wcallP1 {y' : MethodName} {b' : ByteArray} {m' : Nat} {r' : Option FieldType} {rm : Room} {idx W : Nat} {argsL : List Value} {P : Value → Heap → Prop} {K : String} {a : Addr} (D : Dc bytes pc (.invokevirtual idx) 3 pc') (hM : Con true l Z y' b' m' r' rm (.ref a :: argsL).toArray h n0 (R1 P)) (E : Exa Z h a K)
    (w1 : (Cond.methodLink y.cls idx y').before a0 Z = true) (w2 : (Cond.instanceMethod y').before a0 Z = true) {kk : Nat} (wi : (Cond.instantiable y'.cls kk).before a0 Z = true) (w5 : (Cond.privateMethod y').before a0 Z = true) (w3 : (Cond.initialized y'.cls).before a0 Z = true) (w4 : (Cond.code y' b' m' r').before a0 Z = true) (hy : y'.cls ≠ "java/lang/invoke/MethodHandle" ∧ y'.cls ≠ "java/lang/invoke/VarHandle")
    (hlen : ∀ sig, parseMethodDescriptor y'.desc = some sig → argsL.length = sig.parameters.length) {st₀ : List Value} (hst : st₀ = argsL.reverse ++ .ref a :: st) (hW : (st.map fun v => v.category).sum = W) (hf : rm.frames + 1 ≤ R.frames) (hlo : W + (m' + 11) + rm.locals ≤ R.locals) (hk : k + rm.cells ≤ R.cells) (hn : n + rm.slots ≤ R.slots) (hls : ls.length = ml)
    (G : ∀ w h', P w h' → Go true KT l Z R y bytes ml ret n0 kc ks Q h' (k + rm.cells) (n + rm.slots) pc' ls (w :: st)) : Go true K₀ l Z R y bytes ml ret n0 kc ks Q h k n pc ls st₀ := by
  subst hst
  intro p e s0 s m args below meth c T L Bs C X hh N
  obtain ⟨hd, rfl⟩ := D
  have hZ := C.2.2.2.2.1
  obtain ⟨cq, q1, q2⟩ := E.cell
  have wi' : (Cond.instantiable y'.cls kk).before args s = true := mvT hZ wi
  obtain ⟨c2, k2, i1, i2, -, i4, -⟩ := Cond.instantiable_spec wi'
  have hpa : s.PrivateAt y' := Cond.privateMethod_at (mvP hZ w5 (args := #[]))
  have w6 : (Cond.selects y'.cls y' y').before args s = true := selects_self_of_private i1 i2 (Bool.or_eq_false_iff.mp i4).1 hpa (mvT hZ w2) hy
  obtain ⟨v, vm₁, ⟨B, Lb, kb, nb⟩, -, X', hSi, -, ⟨Lq, ⟨⟨hQ, hsz⟩, Ns⟩, e1, e2, e3⟩, st'⟩ := X.privateBackS C.1 (y := y') C.2.2.2.1 (mvT hZ w1) (mvT hZ w2) w6 hpa (mvT hZ w4) hy (backOfS (W := W) (Q := fun v h' L => ((R1 P) v h' ∧ h.size ≤ h'.size) ∧ Fr n0 L) (hM []) hZ w4 w3 hf hlo) (g := mkF m pc ls.toArray (argsL.reverse ++ .ref a :: st)) rfl
    (by rw [C.2.2.1]; simpa using hls) (Steps.refl _) (a := a) (by rw [hh]; exact q1) q2 (argsL := argsL) (rest := st) hlen rfl (by show 2 * 0 + _ ≤ W; rw [← hW]; omega) (hb C.2.1 hd) (fun _ _ => ⟨rfl, hh, hk, hn⟩)
  dsimp only [Pt.U, Pt.locs, Pt.cells, Pt.slots] at X' hSi hQ hsz e1 e2 e3 st'
  subst e1 e2 e3
  obtain ⟨w, rfl, hP⟩ := hQ
  exact (G w B.heap hP p e s0 _ m args below meth c B _ (Bs.since hSi hsz) (C.since hSi) X' rfl (N.app Ns)).pre (fun t q => st'.trans q)
theorem go_wcallS0 {y' : MethodName} {b' : ByteArray} {m' : Nat} {r' : Option FieldType} {rm : Room} {idx W : Nat} {argsL : List Value} {P : Heap → Prop} (D : Dc bytes pc (.invokestatic idx) 3 pc') (hM : Con true l Z y' b' m' r' rm argsL.toArray h n0 (R0 P))
    (w1 : (Cond.methodLink y.cls idx y').before a0 Z = true) (w2 : (Cond.static y').before a0 Z = true) (w3 : (Cond.initialized y'.cls).before a0 Z = true) (w4 : (Cond.code y' b' m' r').before a0 Z = true) (hy : y'.cls ≠ "java/lang/invoke/MethodHandle" ∧ y'.cls ≠ "java/lang/invoke/VarHandle")
    (hlen : ∀ sig, parseMethodDescriptor y'.desc = some sig → argsL.length = sig.parameters.length) {st₀ : List Value} (hst : st₀ = argsL.reverse ++ st) (hW : (st.map fun v => v.category).sum = W) (hf : rm.frames + 1 ≤ R.frames) (hlo : W + (m' + 11) + rm.locals ≤ R.locals) (hk : k + rm.cells ≤ R.cells) (hn : n + rm.slots ≤ R.slots) (hls : ls.length = ml)
    (G : ∀ h', P h' → Go true KT l Z R y bytes ml ret n0 kc ks Q h' (k + rm.cells) (n + rm.slots) pc' ls st) : Go true K₀ l Z R y bytes ml ret n0 kc ks Q h k n pc ls st₀ := by
  subst hst
  intro p e s0 s m args below meth c T L Bs C X hh N
  obtain ⟨hd, rfl⟩ := D
  have hZ := C.2.2.2.2.1
  obtain ⟨v, vm₁, ⟨B, Lb, kb, nb⟩, -, X', hSi, -, ⟨Lq, ⟨⟨hQ, hsz⟩, Ns⟩, e1, e2, e3⟩, st'⟩ := callSS X C.1 (y := y') C.2.2.2.1 (mvT hZ w1) (mvT hZ w2) (mvT hZ w3) (mvT hZ w4) hy (backOfS (W := W) (Q := fun v h' L => ((R0 P) v h' ∧ h.size ≤ h'.size) ∧ Fr n0 L) (hM []) hZ w4 w3 hf hlo) (g := mkF m pc ls.toArray (argsL.reverse ++ st)) rfl
    (by rw [C.2.2.1]; simpa using hls) (argsL := argsL) (rest := st) hlen rfl (by show 2 * 0 + _ ≤ W; rw [← hW]; omega) (hb C.2.1 hd) (fun _ _ => ⟨rfl, hh, hk, hn⟩)
  dsimp only [Pt.U, Pt.locs, Pt.cells, Pt.slots] at X' hSi hQ hsz e1 e2 e3 st'
  subst e1 e2 e3
  obtain ⟨rfl, hP⟩ := hQ
  exact (G B.heap hP p e s0 _ m args below meth c B _ (Bs.since hSi hsz) (C.since hSi) X' rfl (N.app Ns)).pre (fun t q => st'.trans q)
theorem go_wcallN0 {y' : MethodName} {b' : ByteArray} {m' : Nat} {r' : Option FieldType} {rm : Room} {idx W : Nat} {argsL : List Value} {P : Heap → Prop} {a : Addr} (D : Dc bytes pc (.invokespecial idx) 3 pc') (hi : y'.name = "<init>") (hr' : r' = none) (hM : Con true l Z y' b' m' r' rm (.ref a :: argsL).toArray h n0 (R0 P))
    (w1 : (Cond.methodLink y.cls idx y').before a0 Z = true) (w2 : (Cond.instanceMethod y').before a0 Z = true) (w3 : (Cond.initialized y'.cls).before a0 Z = true) (w4 : (Cond.code y' b' m' r').before a0 Z = true) (hy : y'.cls ≠ "java/lang/invoke/MethodHandle" ∧ y'.cls ≠ "java/lang/invoke/VarHandle")
    (hlen : ∀ sig, parseMethodDescriptor y'.desc = some sig → argsL.length = sig.parameters.length) {st₀ : List Value} (hst : st₀ = argsL.reverse ++ .ref a :: st) (hW : (st.map fun v => v.category).sum = W) (hf : rm.frames + 1 ≤ R.frames) (hlo : W + (m' + 11) + rm.locals ≤ R.locals) (hk : k + rm.cells ≤ R.cells) (hn : n + rm.slots ≤ R.slots) (hls : ls.length = ml)
    (G : ∀ h', P h' → Go true KT l Z R y bytes ml ret n0 kc ks Q h' (k + rm.cells) (n + rm.slots) pc' ls st) : Go true K₀ l Z R y bytes ml ret n0 kc ks Q h k n pc ls st₀ := by
  subst hst hr'
  intro p e s0 s m args below meth c T L Bs C X hh N
  obtain ⟨hd, rfl⟩ := D
  have hZ := C.2.2.2.2.1
  obtain ⟨v, vm₁, ⟨B, Lb, kb, nb⟩, -, X', hSi, -, ⟨Lq, ⟨⟨hQ, hsz⟩, Ns⟩, e1, e2, e3⟩, st'⟩ := X.specialBackS C.1 (y := y') hi C.2.2.2.1 (mvT hZ w1) (mvT hZ w2) (mvT hZ w4) hy (backOfS (W := W) (Q := fun v h' L => ((R0 P) v h' ∧ h.size ≤ h'.size) ∧ Fr n0 L) (hM []) hZ w4 w3 hf hlo) (g := mkF m pc ls.toArray (argsL.reverse ++ .ref a :: st)) rfl
    (by rw [C.2.2.1]; simpa using hls) (Steps.refl _) (a := a) (argsL := argsL) (rest := st) hlen rfl (by show 2 * 0 + _ ≤ W; rw [← hW]; omega) (hb C.2.1 hd) (fun _ _ => ⟨rfl, hh, hk, hn⟩)
  dsimp only [Pt.U, Pt.locs, Pt.cells, Pt.slots] at X' hSi hQ hsz e1 e2 e3 st'
  subst e1 e2 e3
  obtain ⟨rfl, hP⟩ := hQ
  exact (G B.heap hP p e s0 _ m args below meth c B _ (Bs.since hSi hsz) (C.since hSi) X' rfl (N.app Ns)).pre (fun t q => st'.trans q)
theorem go_wcallV0 {y' : MethodName} {b' : ByteArray} {m' : Nat} {r' : Option FieldType} {rm : Room} {idx W : Nat} {argsL : List Value} {P : Heap → Prop} {x' : MethodName} {K : String} {a : Addr} (D : Dc bytes pc (.invokevirtual idx) 3 pc') (hM : Con true l Z y' b' m' r' rm (.ref a :: argsL).toArray h n0 (R0 P)) (E : Exa Z h a K)
    (w1 : (Cond.methodLink y.cls idx x').before a0 Z = true) (w5 : (Cond.declares x').before a0 Z = true) (nf : ∀ s : State, Z.Warmed39 s.vm → NotFace s x') (w6 : (Cond.selects K x' y').before a0 Z = true) (w2 : (Cond.instanceMethod y').before a0 Z = true) (w3 : (Cond.initialized y'.cls).before a0 Z = true) (w4 : (Cond.code y' b' m' r').before a0 Z = true)
    (hy : x'.cls ≠ "java/lang/invoke/MethodHandle" ∧ x'.cls ≠ "java/lang/invoke/VarHandle") (hlen : ∀ sig, parseMethodDescriptor x'.desc = some sig → argsL.length = sig.parameters.length) {st₀ : List Value} (hst : st₀ = argsL.reverse ++ .ref a :: st) (hW : (st.map fun v => v.category).sum = W) (hf : rm.frames + 1 ≤ R.frames) (hlo : W + (m' + 11) + rm.locals ≤ R.locals) (hk : k + rm.cells ≤ R.cells) (hn : n + rm.slots ≤ R.slots) (hls : ls.length = ml)
    (G : ∀ h', P h' → Go true KT l Z R y bytes ml ret n0 kc ks Q h' (k + rm.cells) (n + rm.slots) pc' ls st) : Go true K₀ l Z R y bytes ml ret n0 kc ks Q h k n pc ls st₀ := by
  subst hst
  intro p e s0 s m args below meth c T L Bs C X hh N
  obtain ⟨hd, rfl⟩ := D
  have hZ := C.2.2.2.2.1
  obtain ⟨cq, kq, qa, qb, qc⟩ := isOf (T := T) hZ hh E
  obtain ⟨v, vm₁, ⟨B, Lb, kb, nb⟩, -, X', hSi, -, ⟨Lq, ⟨⟨hQ, hsz⟩, Ns⟩, e1, e2, e3⟩, st'⟩ := X.virtualBackS C.1 (y := x') (z := y') C.2.2.2.1 (mvT hZ w1) (mvT hZ w5) (nf s hZ) (mvT hZ w6) (mvT hZ w2) hy (backOfS (W := W) (Q := fun v h' L => ((R0 P) v h' ∧ h.size ≤ h'.size) ∧ Fr n0 L) (hM []) hZ w4 w3 hf hlo) qa qc (g := mkF m pc ls.toArray (argsL.reverse ++ .ref a :: st)) rfl
    (by rw [C.2.2.1]; simpa using hls) (Steps.refl _) (argsL := argsL) (rest := st) hlen rfl (by show 2 * 0 + _ ≤ W; rw [← hW]; omega) (hb C.2.1 hd) (fun _ _ => ⟨rfl, hh, hk, hn⟩)
  dsimp only [Pt.U, Pt.locs, Pt.cells, Pt.slots] at X' hSi hQ hsz e1 e2 e3 st'
  subst e1 e2 e3
  obtain ⟨rfl, hP⟩ := hQ
  exact (G B.heap hP p e s0 _ m args below meth c B _ (Bs.since hSi hsz) (C.since hSi) X' rfl (N.app Ns)).pre (fun t q => st'.trans q)
theorem go_wcallP0 {y' : MethodName} {b' : ByteArray} {m' : Nat} {r' : Option FieldType} {rm : Room} {idx W : Nat} {argsL : List Value} {P : Heap → Prop} {K : String} {a : Addr} (D : Dc bytes pc (.invokevirtual idx) 3 pc') (hM : Con true l Z y' b' m' r' rm (.ref a :: argsL).toArray h n0 (R0 P)) (E : Exa Z h a K)
    (w1 : (Cond.methodLink y.cls idx y').before a0 Z = true) (w2 : (Cond.instanceMethod y').before a0 Z = true) {kk : Nat} (wi : (Cond.instantiable y'.cls kk).before a0 Z = true) (w5 : (Cond.privateMethod y').before a0 Z = true) (w3 : (Cond.initialized y'.cls).before a0 Z = true) (w4 : (Cond.code y' b' m' r').before a0 Z = true) (hy : y'.cls ≠ "java/lang/invoke/MethodHandle" ∧ y'.cls ≠ "java/lang/invoke/VarHandle")
    (hlen : ∀ sig, parseMethodDescriptor y'.desc = some sig → argsL.length = sig.parameters.length) {st₀ : List Value} (hst : st₀ = argsL.reverse ++ .ref a :: st) (hW : (st.map fun v => v.category).sum = W) (hf : rm.frames + 1 ≤ R.frames) (hlo : W + (m' + 11) + rm.locals ≤ R.locals) (hk : k + rm.cells ≤ R.cells) (hn : n + rm.slots ≤ R.slots) (hls : ls.length = ml)
    (G : ∀ h', P h' → Go true KT l Z R y bytes ml ret n0 kc ks Q h' (k + rm.cells) (n + rm.slots) pc' ls st) : Go true K₀ l Z R y bytes ml ret n0 kc ks Q h k n pc ls st₀ := by
  subst hst
  intro p e s0 s m args below meth c T L Bs C X hh N
  obtain ⟨hd, rfl⟩ := D
  have hZ := C.2.2.2.2.1
  obtain ⟨cq, q1, q2⟩ := E.cell
  have wi' : (Cond.instantiable y'.cls kk).before args s = true := mvT hZ wi
  obtain ⟨c2, k2, i1, i2, -, i4, -⟩ := Cond.instantiable_spec wi'
  have hpa : s.PrivateAt y' := Cond.privateMethod_at (mvP hZ w5 (args := #[]))
  have w6 : (Cond.selects y'.cls y' y').before args s = true := selects_self_of_private i1 i2 (Bool.or_eq_false_iff.mp i4).1 hpa (mvT hZ w2) hy
  obtain ⟨v, vm₁, ⟨B, Lb, kb, nb⟩, -, X', hSi, -, ⟨Lq, ⟨⟨hQ, hsz⟩, Ns⟩, e1, e2, e3⟩, st'⟩ := X.privateBackS C.1 (y := y') C.2.2.2.1 (mvT hZ w1) (mvT hZ w2) w6 hpa (mvT hZ w4) hy (backOfS (W := W) (Q := fun v h' L => ((R0 P) v h' ∧ h.size ≤ h'.size) ∧ Fr n0 L) (hM []) hZ w4 w3 hf hlo) (g := mkF m pc ls.toArray (argsL.reverse ++ .ref a :: st)) rfl
    (by rw [C.2.2.1]; simpa using hls) (Steps.refl _) (a := a) (by rw [hh]; exact q1) q2 (argsL := argsL) (rest := st) hlen rfl (by show 2 * 0 + _ ≤ W; rw [← hW]; omega) (hb C.2.1 hd) (fun _ _ => ⟨rfl, hh, hk, hn⟩)
  dsimp only [Pt.U, Pt.locs, Pt.cells, Pt.slots] at X' hSi hQ hsz e1 e2 e3 st'
  subst e1 e2 e3
  obtain ⟨rfl, hP⟩ := hQ
  exact (G B.heap hP p e s0 _ m args below meth c B _ (Bs.since hSi hsz) (C.since hSi) X' rfl (N.app Ns)).pre (fun t q => st'.trans q)
theorem go_initO {idx W : Nat} {a : Addr} (D : Dc bytes pc (.invokespecial idx) 3 pc') (w1 : (Cond.methodLink y.cls idx Lib.objectInit).before a0 Z = true) (w2 : (Cond.instanceMethod Lib.objectInit).before a0 Z = true) (w3 : (Cond.code Lib.objectInit ⟨#[0xb1]⟩ 1 none).before a0 Z = true)
    (hls : ls.length = ml) (hf : 1 ≤ R.frames) (hW : (st.map fun v => v.category).sum = W) (hlo : W + 12 ≤ R.locals) (G : Go wd K₀ l Z R y bytes ml ret n0 kc ks Q h k n pc' ls st) : Go wd K₀ l Z R y bytes ml ret n0 kc ks Q h k n pc ls (.ref a :: st) := by
  intro p e s0 s m args below meth c T L Bs C X hh N
  obtain ⟨hd, rfl⟩ := D
  obtain ⟨T', X', e', st'⟩ := initO X C.1 C.2.2.2.2.1 C.2.2.2.1 w1 w2 w3 hh (g := mkF m pc ls.toArray (.ref a :: st)) rfl (by rw [C.2.2.1]; simpa using hls) rfl (hb C.2.1 hd) hf (W := W) (by show 2 * 0 + _ ≤ W; rw [← hW]; omega) hlo
  exact (G p e s0 s m args below meth c T' L Bs C X' e' N).pre st'
/-! ## 2. fields, objects, arrays, by the library's own facts -/
theorem go_getF {idx : Nat} {R0 O nm d host : String} {a : Addr} {v : Value} (D : Dc bytes pc (.getfield idx) 3 pc') (w : (Cond.fieldLink y.cls idx R0 nm d).before a0 Z = true ∨ (Cond.fieldLinkNest y.cls idx R0 nm d host).before a0 Z = true) (via : Via Z R0 O nm d) (F : Fld Z h a O nm d v) (G : Go wd K₀ l Z R y bytes ml ret n0 kc ks Q h k n pc' ls (v :: st)) : Go wd K₀ l Z R y bytes ml ret n0 kc ks Q h k n pc ls (.ref a :: st) := by
  intro p e s0 s m args below meth c T L Bs C X hh N
  obtain ⟨hd, rfl⟩ := D
  obtain ⟨T', X', e', st'⟩ := getF X C.1 C.2.2.2.2.1 C.2.2.2.1 w via hh F (g := mkF m pc ls.toArray (.ref a :: st)) rfl rfl (hb C.2.1 hd)
  exact (G p e s0 s m args below meth c T' L Bs C X' e' N).pre st'
theorem go_getS {idx : Nat} {R0 O nm d host : String} {v : Value} (D : Dc bytes pc (.getstatic idx) 3 pc') (w : (Cond.fieldLink y.cls idx R0 nm d).before a0 Z = true ∨ (Cond.fieldLinkNest y.cls idx R0 nm d host).before a0 Z = true) (via : Via Z R0 O nm d) (F : Sta Z h O nm d v) (G : Go wd K₀ l Z R y bytes ml ret n0 kc ks Q h k n pc' ls (v :: st)) : Go wd K₀ l Z R y bytes ml ret n0 kc ks Q h k n pc ls st := by
  intro p e s0 s m args below meth c T L Bs C X hh N
  obtain ⟨hd, rfl⟩ := D
  obtain ⟨T', X', e', st'⟩ := getS2 X C.1 C.2.2.2.2.1 C.2.2.2.1 w via hh F (g := mkF m pc ls.toArray st) rfl (hb C.2.1 hd)
  exact (G p e s0 s m args below meth c T' L Bs C X' e' N).pre st'
theorem go_putF {idx kk : Nat} {R0 O nm d host K : String} {ty : FieldType} {a : Addr} {v old : Value} (D : Dc bytes pc (.putfield idx) 3 pc') (w : (Cond.fieldLink y.cls idx R0 nm d).before a0 Z = true ∨ (Cond.fieldLinkNest y.cls idx R0 nm d host).before a0 Z = true) (via : Via Z R0 O nm d) (F : Fld Z h a O nm d old) (E : Exa Z h a K)
    (Lw : (Cond.lays K O nm d).before a0 Z = true ∨ ((Cond.laysFinal K O nm d).before a0 Z = true ∧ y.cls = O ∧ y.name = "<init>")) (wi : (Cond.instantiable K kk).before a0 Z = true) (hty : parseFieldDescriptor d = some ty) (hnr : narrow ty v = v) (hfi : fits ty v = true) (ha : n0 ≤ a)
    (G : ∀ h', Wr h h' a (Jvm.RoadKit.slotOf Z O nm d) v → Go wd K₀ l Z R y bytes ml ret n0 kc ks Q h' k n pc' ls st) : Go wd K₀ l Z R y bytes ml ret n0 kc ks Q h k n pc ls (v :: .ref a :: st) := by
  intro p e s0 s m args below meth c T L Bs C X hh N
  obtain ⟨hd, rfl⟩ := D
  obtain ⟨T', h', X', e', W', st'⟩ := putF X C.1 C.2.2.2.2.1 C.2.2.2.1 w via hh F E (Lw.imp id fun q => ⟨q.1, q.2.1, C.2.2.2.2.2.2.2.1.trans q.2.2⟩) wi hty hnr hfi (g := mkF m pc ls.toArray (v :: .ref a :: st)) rfl rfl (hb C.2.1 hd)
  exact (G h' W' p e s0 s m args below meth c T' _ (Bs.mono (Nat.le_of_eq W'.size.symm)) C X' e' (Fr.snoc X' N ha)).pre st'
theorem go_newO {idx sl : Nat} {K : String} (D : Dc bytes pc (.new idx) 3 pc') (w : (Cond.classLink y.cls idx K).before a0 Z = true) (wi : (Cond.instantiable K sl).before a0 Z = true) (wz : (Cond.initialized K).before a0 Z = true) (hk : k + 1 ≤ R.cells) (hn : n + sl ≤ R.slots)
    (G : ∀ h', Ext h h' → Exa Z h' h.size K → (∀ {O nm d : String} {ty : FieldType}, Laid Z a0 K O nm d → parseFieldDescriptor d = some ty → Fld Z h' h.size O nm d (defaultValue ty)) → Go wd K₀ l Z R y bytes ml ret n0 kc ks Q h' (k + 1) (n + sl) pc' ls (.ref h.size :: st)) : Go wd K₀ l Z R y bytes ml ret n0 kc ks Q h k n pc ls st := by
  intro p e s0 s m args below meth c T L Bs C X hh N
  obtain ⟨hd, rfl⟩ := D
  obtain ⟨T', h', X', e', E', A', F', -, st'⟩ := newO X C.1 C.2.2.2.2.1 C.2.2.2.1 w wi wz hh (g := mkF m pc ls.toArray st) rfl (hb C.2.1 hd) hk hn
  exact (G h' E' A' F' p e s0 s m args below meth c T' _ (Bs.mono E'.1) C X' e' N).pre st'
theorem go_newP {aty : ArrayType} {z : Int32} {ad : String} (D : Dc bytes pc (.newarray aty) 2 pc') (w : (Cond.arrayClass (newarray.typeOf aty)).before a0 Z = true) (hz : ¬ z < 0) (cap : Nat) (hcap : z.toNatClampNeg ≤ cap) (hb8 : cap * 8 ≤ 536870912) (hk : k + 1 ≤ R.cells) (hn : n + cap ≤ R.slots) (had : "[" ++ (newarray.typeOf aty).toString = ad)
    (G : ∀ h' cA, Ext h h' → Arr Z h' h.size (newA cA (newarray.typeOf aty) z) (newarray.typeOf aty) → Exa Z h' h.size ad → Go wd K₀ l Z R y bytes ml ret n0 kc ks Q h' (k + 1) (n + cap) pc' ls (.ref h.size :: st)) : Go wd K₀ l Z R y bytes ml ret n0 kc ks Q h k n pc ls (.int z :: st) := by
  intro p e s0 s m args below meth c T L Bs C X hh N
  obtain ⟨hd, rfl⟩ := D
  obtain ⟨T', h', cA, X', e', E', A', F', st'⟩ := newPE X C.1 C.2.2.2.2.1 w hh (g := mkF m pc ls.toArray (.int z :: st)) rfl (hb C.2.1 hd) rfl hz hcap hb8 hk hn had
  exact (G h' cA E' A' F' p e s0 s m args below meth c T' _ (Bs.mono E'.1) C X' e' N).pre st'
theorem go_newR {idx : Nat} {K : String} {z : Int32} {ad : String} (D : Dc bytes pc (.anewarray idx) 3 pc') (w1 : (Cond.classLink y.cls idx K).before a0 Z = true) (w2 : (Cond.arrayOver (.object K)).before a0 Z = true) (hz : ¬ z < 0) (cap : Nat) (hcap : z.toNatClampNeg ≤ cap) (hb8 : cap * 8 ≤ 536870912) (hk : k + 1 ≤ R.cells) (hn : n + cap ≤ R.slots) (had : "[" ++ (FieldType.object K).toString = ad)
    (G : ∀ h' cA, Ext h h' → Arr Z h' h.size (newA cA (.object K) z) (.object K) → Exa Z h' h.size ad → Ovr Z cA K → Go wd K₀ l Z R y bytes ml ret n0 kc ks Q h' (k + 1) (n + cap) pc' ls (.ref h.size :: st)) : Go wd K₀ l Z R y bytes ml ret n0 kc ks Q h k n pc ls (.int z :: st) := by
  intro p e s0 s m args below meth c T L Bs C X hh N
  obtain ⟨hd, rfl⟩ := D
  obtain ⟨T', h', cA, X', e', E', A', F', O', st'⟩ := newRE X C.1 C.2.2.2.2.1 C.2.2.2.1 w1 w2 hh (g := mkF m pc ls.toArray (.int z :: st)) rfl (hb C.2.1 hd) rfl hz hcap hb8 hk hn had
  exact (G h' cA E' A' F' O' p e s0 s m args below meth c T' _ (Bs.mono E'.1) C X' e' N).pre st'
theorem go_len {a : Addr} {cl : Cell} {ty : FieldType} {z : Int32} (D : Dc bytes pc .arraylength 1 pc') (A : Arr Z h a cl ty) (hz : cl.slots.size.toInt32 = z) (G : Go wd K₀ l Z R y bytes ml ret n0 kc ks Q h k n pc' ls (.int z :: st)) : Go wd K₀ l Z R y bytes ml ret n0 kc ks Q h k n pc ls (.ref a :: st) := by
  intro p e s0 s m args below meth c T L Bs C X hh N
  obtain ⟨hd, rfl⟩ := D
  subst hz
  exact (G p e s0 s m args below meth c T L Bs C X hh N).pre fun t q => X.arraylength C.1 (by rw [hh]; exact A.1) (State.isArrayOf_alike C.2.2.2.2.1.alike A.2.1) (g := mkF m pc ls.toArray (.ref a :: st)) rfl rfl (hb C.2.1 hd) _ q
theorem go_iaload {a : Addr} {cl : Cell} {j : Int32} {v : Value} (D : Dc bytes pc .iaload 1 pc') (A : Arr Z h a cl .int) (hj : ¬ (j < 0 ∨ cl.slots.size ≤ j.toNatClampNeg)) (hv : cl.slots[j.toNatClampNeg]? = some v) (G : Go wd K₀ l Z R y bytes ml ret n0 kc ks Q h k n pc' ls (v :: st)) : Go wd K₀ l Z R y bytes ml ret n0 kc ks Q h k n pc ls (.int j :: .ref a :: st) := by
  intro p e s0 s m args below meth c T L Bs C X hh N
  obtain ⟨hd, rfl⟩ := D
  exact (G p e s0 s m args below meth c T L Bs C X hh N).pre fun t q => X.iaload C.1 (j := j) (v := v) (by rw [hh]; exact A.1) (State.isArrayOf_alike C.2.2.2.2.1.alike A.2.1) A.2.2 hj hv (g := mkF m pc ls.toArray (.int j :: .ref a :: st)) rfl rfl (hb C.2.1 hd) _ q
theorem go_caload {a : Addr} {cl : Cell} {j : Int32} {v : Value} (D : Dc bytes pc .caload 1 pc') (A : Arr Z h a cl .char) (hj : ¬ (j < 0 ∨ cl.slots.size ≤ j.toNatClampNeg)) (hv : cl.slots[j.toNatClampNeg]? = some v) (G : Go wd K₀ l Z R y bytes ml ret n0 kc ks Q h k n pc' ls (v :: st)) : Go wd K₀ l Z R y bytes ml ret n0 kc ks Q h k n pc ls (.int j :: .ref a :: st) := by
  intro p e s0 s m args below meth c T L Bs C X hh N
  obtain ⟨hd, rfl⟩ := D
  exact (G p e s0 s m args below meth c T L Bs C X hh N).pre fun t q => X.caload C.1 (j := j) (v := v) (by rw [hh]; exact A.1) (State.isArrayOf_alike C.2.2.2.2.1.alike A.2.1) A.2.2 hj hv (g := mkF m pc ls.toArray (.int j :: .ref a :: st)) rfl rfl (hb C.2.1 hd) _ q
theorem go_baload {a : Addr} {cl : Cell} {j : Int32} {v : Value} (D : Dc bytes pc .baload 1 pc') (A : Arr Z h a cl .byte) (hj : ¬ (j < 0 ∨ cl.slots.size ≤ j.toNatClampNeg)) (hv : cl.slots[j.toNatClampNeg]? = some v) (G : Go wd K₀ l Z R y bytes ml ret n0 kc ks Q h k n pc' ls (v :: st)) : Go wd K₀ l Z R y bytes ml ret n0 kc ks Q h k n pc ls (.int j :: .ref a :: st) := by
  intro p e s0 s m args below meth c T L Bs C X hh N
  obtain ⟨hd, rfl⟩ := D
  exact (G p e s0 s m args below meth c T L Bs C X hh N).pre fun t q => X.baloadBytes C.1 (j := j) (v := v) (by rw [hh]; exact A.1) (State.isArrayOf_alike C.2.2.2.2.1.alike A.2.1) A.2.2 hj hv (g := mkF m pc ls.toArray (.int j :: .ref a :: st)) rfl rfl (hb C.2.1 hd) _ q
theorem go_laload {a : Addr} {cl : Cell} {j : Int32} {v : Value} (D : Dc bytes pc .laload 1 pc') (A : Arr Z h a cl .long) (hj : ¬ (j < 0 ∨ cl.slots.size ≤ j.toNatClampNeg)) (hv : cl.slots[j.toNatClampNeg]? = some v) (G : Go wd K₀ l Z R y bytes ml ret n0 kc ks Q h k n pc' ls (v :: st)) : Go wd K₀ l Z R y bytes ml ret n0 kc ks Q h k n pc ls (.int j :: .ref a :: st) := by
  intro p e s0 s m args below meth c T L Bs C X hh N
  obtain ⟨hd, rfl⟩ := D
  exact (G p e s0 s m args below meth c T L Bs C X hh N).pre fun t q => X.laload C.1 (j := j) (v := v) (by rw [hh]; exact A.1) (State.isArrayOf_alike C.2.2.2.2.1.alike A.2.1) A.2.2 hj hv (g := mkF m pc ls.toArray (.int j :: .ref a :: st)) rfl rfl (hb C.2.1 hd) _ q
theorem go_aaload {a : Addr} {cl : Cell} {ty : FieldType} {j : Int32} {v : Value} (D : Dc bytes pc .aaload 1 pc') (A : Arr Z h a cl ty) (hty : ty.isReference = true) (hj : ¬ (j < 0 ∨ cl.slots.size ≤ j.toNatClampNeg)) (hv : cl.slots[j.toNatClampNeg]? = some v) (G : Go wd K₀ l Z R y bytes ml ret n0 kc ks Q h k n pc' ls (v :: st)) : Go wd K₀ l Z R y bytes ml ret n0 kc ks Q h k n pc ls (.int j :: .ref a :: st) := by
  intro p e s0 s m args below meth c T L Bs C X hh N
  obtain ⟨hd, rfl⟩ := D
  exact (G p e s0 s m args below meth c T L Bs C X hh N).pre fun t q => X.aaload C.1 (j := j) (v := v) (by rw [hh]; exact A.1) (State.isArrayOf_alike C.2.2.2.2.1.alike A.2.1) hty A.2.2 hj hv (g := mkF m pc ls.toArray (.int j :: .ref a :: st)) rfl rfl (hb C.2.1 hd) _ q
theorem go_iastore {a : Addr} {cl : Cell} {j : Int32} {x : Int32} (D : Dc bytes pc .iastore 1 pc') (A : Arr Z h a cl .int) (hj : ¬ (j < 0 ∨ cl.slots.size ≤ j.toNatClampNeg)) (ha : n0 ≤ a) (G : ∀ h', Wr h h' a j.toNatClampNeg (.int x) → Go wd K₀ l Z R y bytes ml ret n0 kc ks Q h' k n pc' ls st) : Go wd K₀ l Z R y bytes ml ret n0 kc ks Q h k n pc ls (.int x :: .int j :: .ref a :: st) := by
  intro p e s0 s m args below meth c T L Bs C X hh N
  obtain ⟨hd, rfl⟩ := D
  obtain ⟨T', h', X', e', W', st'⟩ := stI X C.1 C.2.2.2.2.1 hh A hj (g := mkF m pc ls.toArray (.int x :: .int j :: .ref a :: st)) rfl rfl (hb C.2.1 hd)
  exact (G h' W' p e s0 s m args below meth c T' _ (Bs.mono (Nat.le_of_eq W'.size.symm)) C X' e' (Fr.snoc X' N ha)).pre st'
theorem go_lastore {a : Addr} {cl : Cell} {j : Int32} {x : Int64} (D : Dc bytes pc .lastore 1 pc') (A : Arr Z h a cl .long) (hj : ¬ (j < 0 ∨ cl.slots.size ≤ j.toNatClampNeg)) (ha : n0 ≤ a) (G : ∀ h', Wr h h' a j.toNatClampNeg (.long x) → Go wd K₀ l Z R y bytes ml ret n0 kc ks Q h' k n pc' ls st) : Go wd K₀ l Z R y bytes ml ret n0 kc ks Q h k n pc ls (.long x :: .int j :: .ref a :: st) := by
  intro p e s0 s m args below meth c T L Bs C X hh N
  obtain ⟨hd, rfl⟩ := D
  obtain ⟨T', h', X', e', W', st'⟩ := stJ X C.1 C.2.2.2.2.1 hh A hj (g := mkF m pc ls.toArray (.long x :: .int j :: .ref a :: st)) rfl rfl (hb C.2.1 hd)
  exact (G h' W' p e s0 s m args below meth c T' _ (Bs.mono (Nat.le_of_eq W'.size.symm)) C X' e' (Fr.snoc X' N ha)).pre st'
theorem go_castore {a : Addr} {cl : Cell} {j : Int32} {x : Int32} (D : Dc bytes pc .castore 1 pc') (A : Arr Z h a cl .char) (hj : ¬ (j < 0 ∨ cl.slots.size ≤ j.toNatClampNeg)) (ha : n0 ≤ a) (G : ∀ h', Wr h h' a j.toNatClampNeg (.int (nar .char x)) → Go wd K₀ l Z R y bytes ml ret n0 kc ks Q h' k n pc' ls st) : Go wd K₀ l Z R y bytes ml ret n0 kc ks Q h k n pc ls (.int x :: .int j :: .ref a :: st) := by
  intro p e s0 s m args below meth c T L Bs C X hh N
  obtain ⟨hd, rfl⟩ := D
  obtain ⟨T', h', X', e', W', st'⟩ := stC X C.1 C.2.2.2.2.1 hh A hj (g := mkF m pc ls.toArray (.int x :: .int j :: .ref a :: st)) rfl rfl (hb C.2.1 hd)
  exact (G h' W' p e s0 s m args below meth c T' _ (Bs.mono (Nat.le_of_eq W'.size.symm)) C X' e' (Fr.snoc X' N ha)).pre st'
theorem go_bastore {a : Addr} {cl : Cell} {j : Int32} {x : Int32} (D : Dc bytes pc .bastore 1 pc') (A : Arr Z h a cl .byte) (hj : ¬ (j < 0 ∨ cl.slots.size ≤ j.toNatClampNeg)) (ha : n0 ≤ a) (G : ∀ h', Wr h h' a j.toNatClampNeg (.int (nar .byte x)) → Go wd K₀ l Z R y bytes ml ret n0 kc ks Q h' k n pc' ls st) : Go wd K₀ l Z R y bytes ml ret n0 kc ks Q h k n pc ls (.int x :: .int j :: .ref a :: st) := by
  intro p e s0 s m args below meth c T L Bs C X hh N
  obtain ⟨hd, rfl⟩ := D
  obtain ⟨T', h', X', e', W', st'⟩ := stB X C.1 C.2.2.2.2.1 hh A hj (g := mkF m pc ls.toArray (.int x :: .int j :: .ref a :: st)) rfl rfl (hb C.2.1 hd)
  exact (G h' W' p e s0 s m args below meth c T' _ (Bs.mono (Nat.le_of_eq W'.size.symm)) C X' e' (Fr.snoc X' N ha)).pre st'
theorem go_zastore {a : Addr} {cl : Cell} {j : Int32} {x : Int32} (D : Dc bytes pc .bastore 1 pc') (A : Arr Z h a cl .boolean) (hj : ¬ (j < 0 ∨ cl.slots.size ≤ j.toNatClampNeg)) (ha : n0 ≤ a) (G : ∀ h', Wr h h' a j.toNatClampNeg (.int (nar .boolean x)) → Go wd K₀ l Z R y bytes ml ret n0 kc ks Q h' k n pc' ls st) : Go wd K₀ l Z R y bytes ml ret n0 kc ks Q h k n pc ls (.int x :: .int j :: .ref a :: st) := by
  intro p e s0 s m args below meth c T L Bs C X hh N
  obtain ⟨hd, rfl⟩ := D
  obtain ⟨T', h', X', e', W', st'⟩ := stZ X C.1 C.2.2.2.2.1 hh A hj (g := mkF m pc ls.toArray (.int x :: .int j :: .ref a :: st)) rfl rfl (hb C.2.1 hd)
  exact (G h' W' p e s0 s m args below meth c T' _ (Bs.mono (Nat.le_of_eq W'.size.symm)) C X' e' (Fr.snoc X' N ha)).pre st'
theorem go_aastore {a : Addr} {cl : Cell} {ty : FieldType} {j : Int32} {v : Value} (D : Dc bytes pc .aastore 1 pc') (A : Arr Z h a cl ty) (hj : ¬ (j < 0 ∨ cl.slots.size ≤ j.toNatClampNeg)) (hty : ty.isReference = true) (F : Sto Z h a v) (ha : n0 ≤ a) (G : ∀ h', Wr h h' a j.toNatClampNeg v → Go wd K₀ l Z R y bytes ml ret n0 kc ks Q h' k n pc' ls st) : Go wd K₀ l Z R y bytes ml ret n0 kc ks Q h k n pc ls (v :: .int j :: .ref a :: st) := by
  intro p e s0 s m args below meth c T L Bs C X hh N
  obtain ⟨hd, rfl⟩ := D
  obtain ⟨T', h', X', e', W', st'⟩ := stR X C.1 C.2.2.2.2.1 hh A hj hty F (g := mkF m pc ls.toArray (v :: .int j :: .ref a :: st)) rfl rfl (hb C.2.1 hd)
  exact (G h' W' p e s0 s m args below meth c T' _ (Bs.mono (Nat.le_of_eq W'.size.symm)) C X' e' (Fr.snoc X' N ha)).pre st'
end Walk
end Jvm.OwnGo
namespace Jvm.OwnGo
open Jvm Sem ClassFile Op Lib Jvm.Stand Jvm.Free Jvm.LawKit Jvm.RoadKit
/-! ## 3. the heap since the start, as a list of what lies where -/
abbrev FD := (String × String × String) × Value
abbrev Desc := (String × List FD) ⊕ (FieldType × String × List Value)
def slotF (Z : State) (f : FD) : Nat := Jvm.RoadKit.slotOf Z f.1.1 f.1.2.1 f.1.2.2
def Is (Z : State) (h : Heap) (a : Addr) : Desc → Prop
  | .inl (K, fs) => Exa Z h a K ∧ (fs.map (slotF Z)).Nodup ∧ ∀ f ∈ fs, Fld Z h a f.1.1 f.1.2.1 f.1.2.2 f.2
  | .inr (ty, ad, vs) => Exa Z h a ad ∧ ∃ c : Cell, Arr Z h a c ty ∧ c.slots = vs.toArray ∧ vs.length < 2 ^ 31 ∧ (∀ v ∈ vs, fits ty v = true) ∧ ∀ K, ty = .object K → Ovr Z c.cls K
def Hp (Z : State) (n0 : Nat) (h : Heap) (L : List (Addr × Desc)) : Prop := Old Z n0 h ∧ (L.map Prod.fst).Nodup ∧ ∀ x ∈ L, n0 ≤ x.1 ∧ Is Z h x.1 x.2
def LaysD (Z : State) (a0 : Array Value) (K : String) : List FD → Prop
  | [] => True
  | f :: r => (Laid Z a0 K f.1.1 f.1.2.1 f.1.2.2 ∧ ∃ t, parseFieldDescriptor f.1.2.2 = some t ∧ defaultValue t = f.2) ∧ LaysD Z a0 K r
def front {α : Type} (L : List α) (i : Nat) : List α := match L[i]? with | some x => x :: L.eraseIdx i | none => L
section Hp
variable {Z : State} {n0 : Nat} {h h' : Heap} {L : List (Addr × Desc)} {a b : Addr} {K ad O nm d : String} {fs : List FD} {vs : List Value} {ty : FieldType} {v old : Value} {i j sl : Nat} {a0 : Array Value}
theorem Is.ext {D : Desc} (E : Ext h h') (F : Is Z h a D) : Is Z h' a D := by
  rcases D with ⟨K, fs⟩ | ⟨ty, ad, vs⟩
  · obtain ⟨h1, h2, h3⟩ := F; exact ⟨h1.ext E, h2, fun f hf => (h3 f hf).ext E⟩
  · obtain ⟨h1, c, h2, r⟩ := F; exact ⟨h1.ext E, c, h2.ext E, r⟩
theorem Is.other {D : Desc} (W : Wr h h' b sl v) (ne : a ≠ b) (F : Is Z h a D) : Is Z h' a D := by
  rcases D with ⟨K, fs⟩ | ⟨ty, ad, vs⟩
  · obtain ⟨h1, h2, h3⟩ := F; exact ⟨h1.wr W, h2, fun f hf => (h3 f hf).other W (Or.inl ne)⟩
  · obtain ⟨h1, c, h2, r⟩ := F; exact ⟨h1.wr W, c, h2.other W ne, r⟩
theorem Is.exa {D : Desc} (F : Is Z h a D) : ∃ K, Exa Z h a K := by
  rcases D with ⟨K, fs⟩ | ⟨ty, ad, vs⟩
  · exact ⟨K, F.1⟩
  · exact ⟨ad, F.1⟩
theorem mem_upd {α : Type} {L : List α} {i : Nat} {x y : α} (hx : x ∈ lupd L i y) : x = y ∨ ∃ q, q ≠ i ∧ L[q]? = some x := by
  rw [upd_set] at hx
  obtain ⟨q, hq⟩ := List.mem_iff_getElem?.mp hx
  rw [List.getElem?_set] at hq
  split at hq
  · rename_i e
    split at hq
    · left; exact (Option.some.inj hq).symm
    · cases hq
  · rename_i e
    exact Or.inr ⟨q, fun u => e u.symm, hq⟩
theorem Hp.mem (hi : L[i]? = some (a, D)) : (a, D) ∈ L := List.mem_of_getElem? hi
theorem Hp.is {D : Desc} (P : Hp Z n0 h L) (hi : L[i]? = some (a, D)) : Is Z h a D := (P.2.2 _ (List.mem_of_getElem? hi)).2
theorem Hp.ge {D : Desc} (P : Hp Z n0 h L) (hi : L[i]? = some (a, D)) : n0 ≤ a := (P.2.2 _ (List.mem_of_getElem? hi)).1
theorem Hp.exa (P : Hp Z n0 h L) (hi : L[i]? = some (a, .inl (K, fs))) : Exa Z h a K := (P.is hi).1
theorem Hp.exaA (P : Hp Z n0 h L) (hi : L[i]? = some (a, .inr (ty, ad, vs))) : Exa Z h a ad := (P.is hi).1
theorem Hp.fld (P : Hp Z n0 h L) (hi : L[i]? = some (a, .inl (K, fs))) (hj : fs[j]? = some ((O, nm, d), v)) : Fld Z h a O nm d v := (P.is hi).2.2 _ (List.mem_of_getElem? hj)
theorem Hp.lt {D : Desc} (P : Hp Z n0 h L) (hx : (a, D) ∈ L) : a < h.size := by
  obtain ⟨K, E⟩ := (P.2.2 _ hx).2.exa; exact E.lt
theorem Hp.ne {D D' : Desc} (P : Hp Z n0 h L) (hi : L[i]? = some (a, D)) (hj : L[j]? = some (b, D')) (q : i ≠ j) : a ≠ b := fun e => q (by
  have hl : i < (L.map Prod.fst).length := by rw [List.length_map]; exact (List.getElem?_eq_some_iff.mp hi).1
  refine (List.getElem?_inj hl P.2.1).mp ?_
  rw [List.getElem?_map, List.getElem?_map, hi, hj]; simp [e])
theorem map_upd {α β : Type} {f : α → β} {L : List α} {i : Nat} {x y : α} (hi : L[i]? = some x) (e : f y = f x) : (lupd L i y).map f = L.map f := by
  rw [upd_set]
  apply List.ext_getElem?
  intro q
  rw [List.getElem?_map, List.getElem?_map, List.getElem?_set]
  split
  · rename_i u
    subst u
    obtain ⟨hl, -⟩ := List.getElem?_eq_some_iff.mp hi
    rw [if_pos hl, hi]; simp [e]
  · rfl
theorem Hp.wr {D D' : Desc} (P : Hp Z n0 h L) (hi : L[i]? = some (a, D)) (W : Wr h h' a sl v) (I : Is Z h' a D') : Hp Z n0 h' (lupd L i (a, D')) := by
  have ha := P.ge hi
  refine ⟨P.1.wr W ha, by rw [map_upd (f := Prod.fst) (y := (a, D')) hi rfl]; exact P.2.1, fun x hx => ?_⟩
  rcases mem_upd hx with rfl | ⟨q, hq, hx'⟩
  · exact ⟨ha, I⟩
  · obtain ⟨b, D2⟩ := x
    exact ⟨P.ge hx', (P.is hx').other W (P.ne hx' hi hq)⟩
theorem Hp.put (P : Hp Z n0 h L) (hi : L[i]? = some (a, .inl (K, fs))) (hj : fs[j]? = some ((O, nm, d), old)) (W : Wr h h' a (Jvm.RoadKit.slotOf Z O nm d) v) : Hp Z n0 h' (lupd L i (a, .inl (K, lupd fs j ((O, nm, d), v)))) := by
  obtain ⟨h1, h2, h3⟩ := P.is hi
  refine P.wr hi W ⟨h1.wr W, by rw [map_upd (f := slotF Z) (y := ((O, nm, d), v)) hj rfl]; exact h2, fun f hf => ?_⟩
  rcases mem_upd hf with rfl | ⟨q, hq, hf'⟩
  · exact (h3 _ (List.mem_of_getElem? hj)).same W
  · refine (h3 _ (List.mem_of_getElem? hf')).other W (Or.inr fun e => hq ?_)
    have hl : q < (fs.map (slotF Z)).length := by rw [List.length_map]; exact (List.getElem?_eq_some_iff.mp hf').1
    refine (List.getElem?_inj hl h2).mp ?_
    rw [List.getElem?_map, List.getElem?_map, hf', hj]; simp [slotF, e]
theorem Hp.aput (P : Hp Z n0 h L) (hi : L[i]? = some (a, .inr (ty, ad, vs))) (hv : fits ty v = true) (W : Wr h h' a j v) : Hp Z n0 h' (lupd L i (a, .inr (ty, ad, lupd vs j v))) := by
  obtain ⟨h1, c, h2, h3, h4, h5, h6⟩ := P.is hi
  refine P.wr hi W ⟨h1.wr W, c.setSlot j v, h2.same W, ?_, ?_, fun w hw => ?_, h6⟩
  · rw [upd_set]; show c.slots.setIfInBounds j v = _; rw [h3]; simp
  · rw [upd_set]; simpa using h4
  · rcases mem_upd hw with rfl | ⟨q, -, hq⟩
    · exact hv
    · exact h5 _ (List.mem_of_getElem? hq)
theorem Hp.grow {D : Desc} (P : Hp Z n0 h L) (E : Ext h h') (I : Is Z h' h.size D) : Hp Z n0 h' ((h.size, D) :: L) := by
  have hs : n0 ≤ h.size := by have := P.1.1; have := P.1.2.1; omega
  refine ⟨P.1.ext E, ?_, fun x hx => ?_⟩
  · rw [List.map_cons, List.nodup_cons]
    refine ⟨fun hm => ?_, P.2.1⟩
    obtain ⟨⟨b, D2⟩, hb, e⟩ := List.mem_map.mp hm
    have q := P.lt hb
    have e' : b = h.size := e
    rw [e'] at q
    exact Nat.lt_irrefl _ q
  · rcases List.mem_cons.mp hx with rfl | hx'
    · exact ⟨hs, I⟩
    · exact ⟨(P.2.2 _ hx').1, (P.2.2 _ hx').2.ext E⟩
theorem lays_mem : ∀ {fs : List FD}, LaysD Z a0 K fs → ∀ f ∈ fs, Laid Z a0 K f.1.1 f.1.2.1 f.1.2.2 ∧ ∃ t, parseFieldDescriptor f.1.2.2 = some t ∧ defaultValue t = f.2
  | [], _, _, hf => nomatch hf
  | _ :: _, H, f, hf => (List.mem_cons.mp hf).elim (fun e => e ▸ H.1) (lays_mem H.2 f)
theorem lays_nodup : ∀ {fs : List FD}, LaysD Z a0 K fs → (fs.map fun f => f.1.2.1).Nodup → (fs.map (slotF Z)).Nodup
  | [], _, _ => List.nodup_nil
  | f :: r, H, N => by
    rw [List.map_cons, List.nodup_cons] at N ⊢
    refine ⟨fun hm => ?_, lays_nodup H.2 N.2⟩
    obtain ⟨g, hg, e⟩ := List.mem_map.mp hm
    obtain ⟨Lg, t', ht', -⟩ := lays_mem H.2 g hg
    obtain ⟨Lf, t, ht, -⟩ := H.1
    exact slot_ne Lf Lg (fun q => N.1 (List.mem_map.mpr ⟨g, hg, q.symm⟩)) ht ht' e.symm
theorem Hp.new (P : Hp Z n0 h L) (E : Ext h h') (A : Exa Z h' h.size K) (F : ∀ {O nm d : String} {ty : FieldType}, Laid Z a0 K O nm d → parseFieldDescriptor d = some ty → Fld Z h' h.size O nm d (defaultValue ty)) (Ld : LaysD Z a0 K fs) (nd : (fs.map fun f => f.1.2.1).Nodup) : Hp Z n0 h' ((h.size, .inl (K, fs)) :: L) :=
  P.grow E ⟨A, lays_nodup Ld nd, fun f hf => by
    obtain ⟨Lf, t, ht, e⟩ := lays_mem Ld f hf
    rw [← e]; exact F Lf ht⟩
theorem Hp.newA {cA : ClassId} {z : Int32} (P : Hp Z n0 h L) (E : Ext h h') (A : Arr Z h' h.size (newA cA ty z) ty) (X : Exa Z h' h.size ad) (O : ∀ K, ty = .object K → Ovr Z cA K) (hvs : List.replicate z.toNatClampNeg (defaultValue ty) = vs) (hz : ¬ z < 0) : Hp Z n0 h' ((h.size, .inr (ty, ad, vs)) :: L) :=
  P.grow E ⟨X, _, A, by rw [← hvs]; simp [Jvm.RoadKit.newA], by rw [← hvs, List.length_replicate]; exact (back32 hz).2, fun w hw => by
    rw [← hvs] at hw; rw [List.eq_of_mem_replicate hw]; cases ty <;> rfl, O⟩
theorem Hp.perm {L' : List (Addr × Desc)} (P : Hp Z n0 h L) (q : L'.Perm L) : Hp Z n0 h L' := ⟨P.1, ((q.map Prod.fst).nodup_iff).mpr P.2.1, fun x hx => P.2.2 x (q.mem_iff.mp hx)⟩
theorem erase_perm {α : Type} : ∀ (L : List α) (i : Nat) (h : i < L.length), (L[i] :: L.eraseIdx i).Perm L
  | [], _, h => absurd h (Nat.not_lt_zero _)
  | _ :: _, 0, _ => List.Perm.refl _
  | a :: l, i + 1, h => by
    have hl : i < l.length := Nat.lt_of_succ_lt_succ h
    show (l[i] :: a :: l.eraseIdx i).Perm (a :: l)
    exact (List.Perm.swap _ _ _).trans ((erase_perm l i hl).cons a)
theorem front_perm {α : Type} (L : List α) (i : Nat) : (front L i).Perm L := by
  unfold front
  cases hx : L[i]? with
  | none => exact List.Perm.refl _
  | some x =>
    obtain ⟨hl, rfl⟩ := List.getElem?_eq_some_iff.mp hx
    exact erase_perm L i hl
theorem Hp.front (P : Hp Z n0 h L) (i : Nat) : Hp Z n0 h (front L i) := P.perm (front_perm L i)
theorem Hp.tail {x : Addr × Desc} (P : Hp Z n0 h (x :: L)) : Hp Z n0 h L := ⟨P.1, (List.nodup_cons.mp P.2.1).2, fun z hz => P.2.2 z (List.mem_cons_of_mem _ hz)⟩
theorem Hp.ext (P : Hp Z n0 h L) (E : Ext h h') : Hp Z n0 h' L := ⟨P.1.ext E, P.2.1, fun x hx => ⟨(P.2.2 _ hx).1, (P.2.2 _ hx).2.ext E⟩⟩
theorem Hp.nil (P : Hp Z n0 h L) : Hp Z n0 h [] := ⟨P.1, List.nodup_nil, fun z hz => nomatch hz⟩
theorem Hp.start (s : State) : Hp s s.heap.size s.heap [] := ⟨Old.start s, List.nodup_nil, fun z hz => nomatch hz⟩
theorem Hp.sto {y : Addr} {fs : List FD} (P : Hp Z n0 h L) (hi : L[i]? = some (a, .inr (.object K, ad, vs))) (hj : L[j]? = some (y, .inl (K, fs))) : Sto Z h a (.ref y) := by
  obtain ⟨-, c, h2, -, -, -, h6⟩ := P.is hi
  exact Sto.of h2 (h6 K rfl) (Ins.self (P.exa hj))
theorem Hp.stoI {y : Addr} (P : Hp Z n0 h L) (hi : L[i]? = some (a, .inr (.object K, ad, vs))) (I : Ins Z h y K true) : Sto Z h a (.ref y) := by
  obtain ⟨-, c, h2, -, -, -, h6⟩ := P.is hi
  exact Sto.of h2 (h6 K rfl) I
theorem inb {c : Cell} {j : Int32} (hc : c.slots = vs.toArray) (hj : ¬ j < 0) (hv : vs[j.toNatClampNeg]? = some v) : ¬ (j < 0 ∨ c.slots.size ≤ j.toNatClampNeg) := by
  have := (List.getElem?_eq_some_iff.mp hv).1
  rw [hc]; simp; exact ⟨by simpa using Int32.not_lt.mp hj, this⟩
theorem inb' {c : Cell} {j : Int32} (hc : c.slots = vs.toArray) (hj : ¬ j < 0) (hv : j.toNatClampNeg < vs.length) : ¬ (j < 0 ∨ c.slots.size ≤ j.toNatClampNeg) := by
  rw [hc]; simp; exact ⟨by simpa using Int32.not_lt.mp hj, hv⟩
end Hp
section WalkHp
variable {wd : Bool} {K₀ : State → Prop} {l : Launch} {Z : State} {R : Room} {y : MethodName} {bytes : ByteArray} {ml : Nat} {ret : Option FieldType} {n0 kc ks : Nat} {Q : Option Value → Heap → Prop} {h : Heap} {k n pc pc' tg : Nat} {ls : List Slot} {st : List Value} {a0 : Array Value} {L : List (Addr × Desc)} {i j : Nat} {K ad O nm d R0 host : String} {fs : List FD} {vs : List Value} {a : Addr} {ty : FieldType} {v old : Value}
theorem go_get {idx : Nat} (P : Hp Z n0 h L) (i j : Nat) (D : Dc bytes pc (.getfield idx) 3 pc') (hi : L[i]? = some (a, .inl (K, fs))) (hj : fs[j]? = some ((O, nm, d), v)) (w : (Cond.fieldLink y.cls idx O nm d).before a0 Z = true) (G : Go wd K₀ l Z R y bytes ml ret n0 kc ks Q h k n pc' ls (v :: st)) : Go wd K₀ l Z R y bytes ml ret n0 kc ks Q h k n pc ls (.ref a :: st) :=
  go_getF (host := "") D (Or.inl w) Via.refl (P.fld hi hj) G
theorem go_getN {idx : Nat} (P : Hp Z n0 h L) (i j : Nat) (D : Dc bytes pc (.getfield idx) 3 pc') (hi : L[i]? = some (a, .inl (K, fs))) (hj : fs[j]? = some ((O, nm, d), v)) (w : (Cond.fieldLinkNest y.cls idx O nm d host).before a0 Z = true) (G : Go wd K₀ l Z R y bytes ml ret n0 kc ks Q h k n pc' ls (v :: st)) : Go wd K₀ l Z R y bytes ml ret n0 kc ks Q h k n pc ls (.ref a :: st) :=
  go_getF (host := host) D (Or.inr w) Via.refl (P.fld hi hj) G
theorem go_put {idx kk : Nat} (P : Hp Z n0 h L) (i j : Nat) (ty : FieldType) (D : Dc bytes pc (.putfield idx) 3 pc') (hi : L[i]? = some (a, .inl (K, fs))) (hj : fs[j]? = some ((O, nm, d), old)) (w : (Cond.fieldLink y.cls idx O nm d).before a0 Z = true)
    (Lw : (Cond.lays K O nm d).before a0 Z = true ∨ ((Cond.laysFinal K O nm d).before a0 Z = true ∧ y.cls = O ∧ y.name = "<init>")) (wi : (Cond.instantiable K kk).before a0 Z = true) (hty : parseFieldDescriptor d = some ty) (hnr : narrow ty v = v) (hfi : fits ty v = true)
    (G : ∀ h', Hp Z n0 h' (lupd L i (a, .inl (K, lupd fs j ((O, nm, d), v)))) → Go wd K₀ l Z R y bytes ml ret n0 kc ks Q h' k n pc' ls st) : Go wd K₀ l Z R y bytes ml ret n0 kc ks Q h k n pc ls (v :: .ref a :: st) :=
  go_putF (host := "") D (Or.inl w) Via.refl (P.fld hi hj) (P.exa hi) Lw wi hty hnr hfi (P.ge hi) fun h' W => G h' (P.put hi hj W)
theorem go_new {idx sl : Nat} (P : Hp Z n0 h L) (fs : List FD) (D : Dc bytes pc (.new idx) 3 pc') (w : (Cond.classLink y.cls idx K).before a0 Z = true) (wi : (Cond.instantiable K sl).before a0 Z = true) (wz : (Cond.initialized K).before a0 Z = true) (Ld : LaysD Z a0 K fs) (nd : (fs.map fun f => f.1.2.1).Nodup) (hk : k + 1 ≤ R.cells) (hn : n + sl ≤ R.slots)
    (G : ∀ h' a, Hp Z n0 h' ((a, .inl (K, fs)) :: L) → Go wd K₀ l Z R y bytes ml ret n0 kc ks Q h' (k + 1) (n + sl) pc' ls (.ref a :: st)) : Go wd K₀ l Z R y bytes ml ret n0 kc ks Q h k n pc ls st :=
  go_newO D w wi wz hk hn fun h' E A F => G h' h.size (P.new E A F Ld nd)
theorem go_newarr {aty : ArrayType} {z : Int32} (P : Hp Z n0 h L) (ad : String) (vs : List Value) (cap : Nat) (D : Dc bytes pc (.newarray aty) 2 pc') (w : (Cond.arrayClass (newarray.typeOf aty)).before a0 Z = true) (hz : ¬ z < 0) (hcap : z.toNatClampNeg ≤ cap) (hb8 : cap * 8 ≤ 536870912) (had : "[" ++ (newarray.typeOf aty).toString = ad) (hty : newarray.typeOf aty = ty) (hvs : List.replicate z.toNatClampNeg (defaultValue ty) = vs) (hk : k + 1 ≤ R.cells) (hn : n + cap ≤ R.slots)
    (G : ∀ h' a, Hp Z n0 h' ((a, .inr (ty, ad, vs)) :: L) → Go wd K₀ l Z R y bytes ml ret n0 kc ks Q h' (k + 1) (n + cap) pc' ls (.ref a :: st)) : Go wd K₀ l Z R y bytes ml ret n0 kc ks Q h k n pc ls (.int z :: st) :=
  go_newP D w hz cap hcap hb8 hk hn had fun h' cA E A X => G h' h.size (P.newA E (hty ▸ A) X (fun K q => by subst hty; cases aty <;> cases q) hvs hz)
theorem go_newobjarr {idx : Nat} {z : Int32} (P : Hp Z n0 h L) (ad : String) (vs : List Value) (cap : Nat) (D : Dc bytes pc (.anewarray idx) 3 pc') (w1 : (Cond.classLink y.cls idx K).before a0 Z = true) (w2 : (Cond.arrayOver (.object K)).before a0 Z = true) (hz : ¬ z < 0) (hcap : z.toNatClampNeg ≤ cap) (hb8 : cap * 8 ≤ 536870912) (had : "[" ++ (FieldType.object K).toString = ad) (hvs : List.replicate z.toNatClampNeg Value.null = vs) (hk : k + 1 ≤ R.cells) (hn : n + cap ≤ R.slots)
    (G : ∀ h' a, Hp Z n0 h' ((a, .inr (.object K, ad, vs)) :: L) → Go wd K₀ l Z R y bytes ml ret n0 kc ks Q h' (k + 1) (n + cap) pc' ls (.ref a :: st)) : Go wd K₀ l Z R y bytes ml ret n0 kc ks Q h k n pc ls (.int z :: st) :=
  go_newR D w1 w2 hz cap hcap hb8 hk hn had fun h' cA E A X O => G h' h.size (P.newA E A X (fun K' q => by cases q; exact O) hvs hz)
theorem go_alen {z : Int32} (P : Hp Z n0 h L) (i : Nat) (D : Dc bytes pc .arraylength 1 pc') (hi : L[i]? = some (a, .inr (ty, ad, vs))) (hz : vs.length.toInt32 = z) (G : Go wd K₀ l Z R y bytes ml ret n0 kc ks Q h k n pc' ls (.int z :: st)) : Go wd K₀ l Z R y bytes ml ret n0 kc ks Q h k n pc ls (.ref a :: st) := by
  obtain ⟨-, c, h2, h3, -⟩ := P.is hi
  exact go_len D h2 (by rw [h3]; simpa using hz) G
theorem go_ialoadH {q : Int32} (P : Hp Z n0 h L) (i : Nat) (D : Dc bytes pc .iaload 1 pc') (hi : L[i]? = some (a, .inr (.int, ad, vs))) (hq : ¬ q < 0) (hv : vs[q.toNatClampNeg]? = some v) (G : Go wd K₀ l Z R y bytes ml ret n0 kc ks Q h k n pc' ls (v :: st)) : Go wd K₀ l Z R y bytes ml ret n0 kc ks Q h k n pc ls (.int q :: .ref a :: st) := by
  obtain ⟨-, c, h2, h3, -⟩ := P.is hi
  exact go_iaload D h2 (inb h3 hq hv) (by rw [h3]; simpa using hv) G
theorem go_caloadH {q : Int32} (P : Hp Z n0 h L) (i : Nat) (D : Dc bytes pc .caload 1 pc') (hi : L[i]? = some (a, .inr (.char, ad, vs))) (hq : ¬ q < 0) (hv : vs[q.toNatClampNeg]? = some v) (G : Go wd K₀ l Z R y bytes ml ret n0 kc ks Q h k n pc' ls (v :: st)) : Go wd K₀ l Z R y bytes ml ret n0 kc ks Q h k n pc ls (.int q :: .ref a :: st) := by
  obtain ⟨-, c, h2, h3, -⟩ := P.is hi
  exact go_caload D h2 (inb h3 hq hv) (by rw [h3]; simpa using hv) G
theorem go_baloadH {q : Int32} (P : Hp Z n0 h L) (i : Nat) (D : Dc bytes pc .baload 1 pc') (hi : L[i]? = some (a, .inr (.byte, ad, vs))) (hq : ¬ q < 0) (hv : vs[q.toNatClampNeg]? = some v) (G : Go wd K₀ l Z R y bytes ml ret n0 kc ks Q h k n pc' ls (v :: st)) : Go wd K₀ l Z R y bytes ml ret n0 kc ks Q h k n pc ls (.int q :: .ref a :: st) := by
  obtain ⟨-, c, h2, h3, -⟩ := P.is hi
  exact go_baload D h2 (inb h3 hq hv) (by rw [h3]; simpa using hv) G
theorem go_laloadH {q : Int32} (P : Hp Z n0 h L) (i : Nat) (D : Dc bytes pc .laload 1 pc') (hi : L[i]? = some (a, .inr (.long, ad, vs))) (hq : ¬ q < 0) (hv : vs[q.toNatClampNeg]? = some v) (G : Go wd K₀ l Z R y bytes ml ret n0 kc ks Q h k n pc' ls (v :: st)) : Go wd K₀ l Z R y bytes ml ret n0 kc ks Q h k n pc ls (.int q :: .ref a :: st) := by
  obtain ⟨-, c, h2, h3, -⟩ := P.is hi
  exact go_laload D h2 (inb h3 hq hv) (by rw [h3]; simpa using hv) G
theorem go_aaloadH {q : Int32} (P : Hp Z n0 h L) (i : Nat) (D : Dc bytes pc .aaload 1 pc') (hi : L[i]? = some (a, .inr (ty, ad, vs))) (hty : ty.isReference = true) (hq : ¬ q < 0) (hv : vs[q.toNatClampNeg]? = some v) (G : Go wd K₀ l Z R y bytes ml ret n0 kc ks Q h k n pc' ls (v :: st)) : Go wd K₀ l Z R y bytes ml ret n0 kc ks Q h k n pc ls (.int q :: .ref a :: st) := by
  obtain ⟨-, c, h2, h3, -⟩ := P.is hi
  exact go_aaload D h2 hty (inb h3 hq hv) (by rw [h3]; simpa using hv) G
theorem go_iastoreH {q : Int32} {x : Int32} (P : Hp Z n0 h L) (i : Nat) (D : Dc bytes pc .iastore 1 pc') (hi : L[i]? = some (a, .inr (.int, ad, vs))) (hq : ¬ q < 0) (hv : q.toNatClampNeg < vs.length) (G : ∀ h', Hp Z n0 h' (lupd L i (a, .inr (.int, ad, lupd vs q.toNatClampNeg (.int x)))) → Go wd K₀ l Z R y bytes ml ret n0 kc ks Q h' k n pc' ls st) : Go wd K₀ l Z R y bytes ml ret n0 kc ks Q h k n pc ls (.int x :: .int q :: .ref a :: st) := by
  obtain ⟨-, c, h2, h3, -⟩ := P.is hi
  exact go_iastore D h2 (inb' h3 hq hv) (P.ge hi) fun h' W => G h' (P.aput hi rfl W)
theorem go_lastoreH {q : Int32} {x : Int64} (P : Hp Z n0 h L) (i : Nat) (D : Dc bytes pc .lastore 1 pc') (hi : L[i]? = some (a, .inr (.long, ad, vs))) (hq : ¬ q < 0) (hv : q.toNatClampNeg < vs.length) (G : ∀ h', Hp Z n0 h' (lupd L i (a, .inr (.long, ad, lupd vs q.toNatClampNeg (.long x)))) → Go wd K₀ l Z R y bytes ml ret n0 kc ks Q h' k n pc' ls st) : Go wd K₀ l Z R y bytes ml ret n0 kc ks Q h k n pc ls (.long x :: .int q :: .ref a :: st) := by
  obtain ⟨-, c, h2, h3, -⟩ := P.is hi
  exact go_lastore D h2 (inb' h3 hq hv) (P.ge hi) fun h' W => G h' (P.aput hi rfl W)
theorem go_castoreH {q : Int32} {x : Int32} (P : Hp Z n0 h L) (i : Nat) (D : Dc bytes pc .castore 1 pc') (hi : L[i]? = some (a, .inr (.char, ad, vs))) (hq : ¬ q < 0) (hv : q.toNatClampNeg < vs.length) (G : ∀ h', Hp Z n0 h' (lupd L i (a, .inr (.char, ad, lupd vs q.toNatClampNeg (.int (nar .char x))))) → Go wd K₀ l Z R y bytes ml ret n0 kc ks Q h' k n pc' ls st) : Go wd K₀ l Z R y bytes ml ret n0 kc ks Q h k n pc ls (.int x :: .int q :: .ref a :: st) := by
  obtain ⟨-, c, h2, h3, -⟩ := P.is hi
  exact go_castore D h2 (inb' h3 hq hv) (P.ge hi) fun h' W => G h' (P.aput hi (fits_nar_char x) W)
theorem go_bastoreH {q : Int32} {x : Int32} (P : Hp Z n0 h L) (i : Nat) (D : Dc bytes pc .bastore 1 pc') (hi : L[i]? = some (a, .inr (.byte, ad, vs))) (hq : ¬ q < 0) (hv : q.toNatClampNeg < vs.length) (G : ∀ h', Hp Z n0 h' (lupd L i (a, .inr (.byte, ad, lupd vs q.toNatClampNeg (.int (nar .byte x))))) → Go wd K₀ l Z R y bytes ml ret n0 kc ks Q h' k n pc' ls st) : Go wd K₀ l Z R y bytes ml ret n0 kc ks Q h k n pc ls (.int x :: .int q :: .ref a :: st) := by
  obtain ⟨-, c, h2, h3, -⟩ := P.is hi
  exact go_bastore D h2 (inb' h3 hq hv) (P.ge hi) fun h' W => G h' (P.aput hi (fits_nar_byte x) W)
theorem go_zastoreH {q : Int32} {x : Int32} (P : Hp Z n0 h L) (i : Nat) (D : Dc bytes pc .bastore 1 pc') (hi : L[i]? = some (a, .inr (.boolean, ad, vs))) (hq : ¬ q < 0) (hv : q.toNatClampNeg < vs.length) (G : ∀ h', Hp Z n0 h' (lupd L i (a, .inr (.boolean, ad, lupd vs q.toNatClampNeg (.int (nar .boolean x))))) → Go wd K₀ l Z R y bytes ml ret n0 kc ks Q h' k n pc' ls st) : Go wd K₀ l Z R y bytes ml ret n0 kc ks Q h k n pc ls (.int x :: .int q :: .ref a :: st) := by
  obtain ⟨-, c, h2, h3, -⟩ := P.is hi
  exact go_zastore D h2 (inb' h3 hq hv) (P.ge hi) fun h' W => G h' (P.aput hi (fits_nar_bool x) W)
theorem go_clone {idx W : Nat} (P : Hp Z n0 h L) (i : Nat) (cap : Nat) (D : Dc bytes pc (.invokevirtual idx) 3 pc') (hi : L[i]? = some (a, .inr (ty, ad, vs)))
    (w1 : (Cond.methodLink y.cls idx ⟨ad, "clone", "()Ljava/lang/Object;"⟩).before a0 Z = true) (w2 : (Cond.sameMethod ad "java/lang/Object" "clone" "()Ljava/lang/Object;").before a0 Z = true) (w3 : (Cond.native ⟨"java/lang/Object", "clone", "()Ljava/lang/Object;"⟩).before a0 Z = true)
    (w4 : (Cond.instanceMethod ⟨"java/lang/Object", "clone", "()Ljava/lang/Object;"⟩).before a0 Z = true) (w5 : (Cond.selects ad ⟨ad, "clone", "()Ljava/lang/Object;"⟩ ⟨"java/lang/Object", "clone", "()Ljava/lang/Object;"⟩).before a0 Z = true) (w6 : (Cond.castable ad "java/lang/Cloneable").before a0 Z = true)
    (hlen : vs.length ≤ cap) (hls : ls.length = ml) (hf : 1 ≤ R.frames) (hW : (st.map fun v => v.category).sum = W) (hlo : W + 14 ≤ R.locals) (hk : k + 1 ≤ R.cells) (hn : n + cap ≤ R.slots)
    (G : ∀ h' b, Hp Z n0 h' ((b, .inr (ty, ad, vs)) :: L) → Go wd K₀ l Z R y bytes ml ret n0 kc ks Q h' (k + 1) (n + cap) pc' ls (.ref b :: st)) : Go wd K₀ l Z R y bytes ml ret n0 kc ks Q h k n pc ls (.ref a :: st) := by
  obtain ⟨E, cl, A, hs, hl31, hfit, hov⟩ := P.is hi
  intro p e s0 s m args below meth c T L' Bs C X hh N
  obtain ⟨hd, rfl⟩ := D
  have FC : FitC Z cl := fitC_of A fun q hq v hv => hfit v (by rw [hs] at hv; exact List.mem_of_getElem? (by simpa using hv))
  obtain ⟨T', h', X', e', ex, A', E', st'⟩ := cloneA X C.1 C.2.2.2.2.1 C.2.2.2.1 w1 w2 w3 w4 w5 w6 hh A E FC (g := mkF m pc ls.toArray (.ref a :: st)) rfl (by rw [C.2.2.1]; simpa using hls) rfl (hb C.2.1 hd) hf (W := W) (cap := cap) (by show 2 * 0 + _ ≤ W; rw [← hW]; omega) hlo (by rw [hs]; simpa using hlen) hk hn
  exact (G h' h.size (P.grow ex ⟨E', cloneOf cl, A', hs, hl31, hfit, hov⟩) p e s0 s m args below meth c T' L' (Bs.mono ex.1) C X' e' N).pre st'
def Dts (bytes : ByteArray) (pc : Nat) (x : Int32) (tg : Nat) : Prop := ∃ (d lo hi : Int) (offs : Array Int) (len : Nat) (o : Int), decode bytes pc = .ok (.tableswitch d lo hi offs, len) ∧ ¬ (x.toInt < lo ∨ x.toInt > hi) ∧ offs[(x.toInt - lo).toNat]? = some o ∧ 0 ≤ (pc : Int) + o ∧ ((pc : Int) + o).toNat = tg
def Dlk (bytes : ByteArray) (pc : Nat) (x : Int32) (tg : Nat) : Prop := ∃ (d : Int) (prs : Array (Int × Int)) (len : Nat), decode bytes pc = .ok (.lookupswitch d prs, len) ∧ (prs.toList.zip (prs.toList.drop 1)).all (fun (a, next) => a.1 < next.1) = true ∧ 0 ≤ (pc : Int) + lookupswitch.offset prs.toList d x.toInt ∧ ((pc : Int) + lookupswitch.offset prs.toList d x.toInt).toNat = tg
theorem lswX {tb : Tables} [Ours tb] {e : Env} {below : List Frame} {T target : State} {m : MethodId} {c : Code} {g : JFrame} (h : At T m c below) (hx : tb.exec = Jvm.exec) (hg : g.method = m) {d : Int} {prs : Array (Int × Int)} {len : Nat} {pc0 pc' : Nat} (hpc : g.pc = pc0) (hd : decode c.code g.pc = .ok (.lookupswitch d prs, len)) {i : Int32} {rest : List Value} (hs : g.stack = .int i :: rest)
    (hor : (prs.toList.zip (prs.toList.drop 1)).all (fun (a, next) => a.1 < next.1) = true) (ho : 0 ≤ (pc0 : Int) + lookupswitch.offset prs.toList d i.toInt) (hp : ((pc0 : Int) + lookupswitch.offset prs.toList d i.toInt).toNat = pc')
    (hr : Steps tb e below (T.setTop { g with pc := pc', stack := rest }) target) : Steps tb e below (T.setTop g) target := by
  subst hg hpc hp
  jvm_step h [h.top, hx, hd, hs, hor, ho, lookupswitch.wp_chain]
  exact ⟨by simpa using hor, hr⟩
theorem go_tsw {x : Int32} (D : Dts bytes pc x tg) (G : Go wd K₀ l Z R y bytes ml ret n0 kc ks Q h k n tg ls st) : Go wd K₀ l Z R y bytes ml ret n0 kc ks Q h k n pc ls (.int x :: st) := by
  obtain ⟨d, lo, hi, offs, len, o, hd, h1, h2, h3, h4⟩ := D
  exact go_pure G (fun C X t => XS.tswIn X.here C.1 (g := mkF _ pc ls.toArray (.int x :: st)) rfl (pc0 := pc) rfl (hb C.2.1 hd) rfl h1 h2 h3 h4)
theorem go_lsw {x : Int32} (D : Dlk bytes pc x tg) (G : Go wd K₀ l Z R y bytes ml ret n0 kc ks Q h k n tg ls st) : Go wd K₀ l Z R y bytes ml ret n0 kc ks Q h k n pc ls (.int x :: st) := by
  obtain ⟨d, prs, len, hd, h1, h3, h4⟩ := D
  exact go_pure G (fun C X t => lswX X.here C.1 (g := mkF _ pc ls.toArray (.int x :: st)) rfl (pc0 := pc) rfl (hb C.2.1 hd) rfl h1 h3 h4)
theorem Hp.insA {i : Nat} (P : Hp Z n0 h L) (hi : L[i]? = some (a, .inr (ty, ad, vs))) : Ins Z h a ad true := Ins.self (P.exaA hi)
theorem go_aastoreH {q : Int32} (P : Hp Z n0 h L) (i : Nat) (D : Dc bytes pc .aastore 1 pc') (hi : L[i]? = some (a, .inr (ty, ad, vs))) (hty : ty.isReference = true) (hf : fits ty v = true) (hq : ¬ q < 0) (hv : q.toNatClampNeg < vs.length) (F : Sto Z h a v) (G : ∀ h', Hp Z n0 h' (lupd L i (a, .inr (ty, ad, lupd vs q.toNatClampNeg v))) → Go wd K₀ l Z R y bytes ml ret n0 kc ks Q h' k n pc' ls st) : Go wd K₀ l Z R y bytes ml ret n0 kc ks Q h k n pc ls (v :: .int q :: .ref a :: st) := by
  obtain ⟨-, c, h2, h3, -⟩ := P.is hi
  exact go_aastore D h2 (inb' h3 hq hv) hty F (P.ge hi) fun h' W => G h' (P.aput hi hf W)
end WalkHp
end Jvm.OwnGo
namespace Jvm.Pilot.@@N@@
open Jvm Jvm.ClassFile Sem Op Lib Jvm.Free Jvm.Stand Jvm.LawKit Jvm.RoadKit Bundle Jvm.OwnGo Jvm.Pilot.@@N@@.Jvm.D
theorem t0 {Z : State} {a0 : Array Value} (hw : ∀ d ∈ tables_1, d.before a0 Z = true) : (Jvm.Cond.classLink "com/example/umbrella_state/umbrellastate/runtime/DelayedDeliveriesIsEmptyPinLaw" (7 : Nat) "com/example/umbrella_state/umbrellastate/runtime/DelayedDeliveries").before a0 Z = true := hw _ (List.mem_of_getElem? (i := 0) rfl)
theorem t1 {Z : State} {a0 : Array Value} (hw : ∀ d ∈ tables_1, d.before a0 Z = true) : (Jvm.Cond.instantiable "com/example/umbrella_state/umbrellastate/runtime/DelayedDeliveries" (2 : Nat)).before a0 Z = true := hw _ (List.mem_of_getElem? (i := 1) rfl)
theorem t2 {Z : State} {a0 : Array Value} (hw : ∀ d ∈ tables_1, d.before a0 Z = true) : (Jvm.Cond.initialized "com/example/umbrella_state/umbrellastate/runtime/DelayedDeliveries").before a0 Z = true := hw _ (List.mem_of_getElem? (i := 2) rfl)
theorem t3 {Z : State} {a0 : Array Value} (hw : ∀ d ∈ tables_1, d.before a0 Z = true) : (Jvm.Cond.methodLink "com/example/umbrella_state/umbrellastate/runtime/DelayedDeliveriesIsEmptyPinLaw" (9 : Nat) ({ cls := "com/example/umbrella_state/umbrellastate/runtime/DelayedDeliveries", name := "<init>", desc := "()V" } : Jvm.MethodName)).before a0 Z = true := hw _ (List.mem_of_getElem? (i := 3) rfl)
theorem t4 {Z : State} {a0 : Array Value} (hw : ∀ d ∈ tables_1, d.before a0 Z = true) : (Jvm.Cond.instanceMethod ({ cls := "com/example/umbrella_state/umbrellastate/runtime/DelayedDeliveries", name := "<init>", desc := "()V" } : Jvm.MethodName)).before a0 Z = true := hw _ (List.mem_of_getElem? (i := 4) rfl)
theorem t5 {Z : State} {a0 : Array Value} (hw : ∀ d ∈ tables_1, d.before a0 Z = true) : (Jvm.Cond.code ({ cls := "com/example/umbrella_state/umbrellastate/runtime/DelayedDeliveries", name := "<init>", desc := "()V" } : Jvm.MethodName) prog_52_method_1_code (1 : Nat) (Option.none : Option Jvm.ClassFile.FieldType)).before a0 Z = true := hw _ (List.mem_of_getElem? (i := 5) rfl)
theorem t6 {Z : State} {a0 : Array Value} (hw : ∀ d ∈ tables_1, d.before a0 Z = true) : (Jvm.Cond.methodLink "com/example/umbrella_state/umbrellastate/runtime/DelayedDeliveries" (1 : Nat) ({ cls := "java/lang/Object", name := "<init>", desc := "()V" } : Jvm.MethodName)).before a0 Z = true := hw _ (List.mem_of_getElem? (i := 6) rfl)
theorem t7 {Z : State} {a0 : Array Value} (hw : ∀ d ∈ tables_1, d.before a0 Z = true) : (Jvm.Cond.instanceMethod ({ cls := "java/lang/Object", name := "<init>", desc := "()V" } : Jvm.MethodName)).before a0 Z = true := hw _ (List.mem_of_getElem? (i := 7) rfl)
theorem t8 {Z : State} {a0 : Array Value} (hw : ∀ d ∈ tables_1, d.before a0 Z = true) : (Jvm.Cond.code ({ cls := "java/lang/Object", name := "<init>", desc := "()V" } : Jvm.MethodName) object_method_1_code (1 : Nat) (Option.none : Option Jvm.ClassFile.FieldType)).before a0 Z = true := hw _ (List.mem_of_getElem? (i := 8) rfl)
theorem t9 {Z : State} {a0 : Array Value} (hw : ∀ d ∈ tables_1, d.before a0 Z = true) : (Jvm.Cond.classLink "com/example/umbrella_state/umbrellastate/runtime/DelayedDeliveries" (7 : Nat) "com/example/umbrella_state/umbrellastate/runtime/Delivery").before a0 Z = true := hw _ (List.mem_of_getElem? (i := 9) rfl)
theorem t10 {Z : State} {a0 : Array Value} (hw : ∀ d ∈ tables_1, d.before a0 Z = true) : (Jvm.Cond.arrayOver (Jvm.ClassFile.FieldType.object "com/example/umbrella_state/umbrellastate/runtime/Delivery")).before a0 Z = true := hw _ (List.mem_of_getElem? (i := 10) rfl)
theorem t11 {Z : State} {a0 : Array Value} (hw : ∀ d ∈ tables_1, d.before a0 Z = true) : (Jvm.Cond.fieldLink "com/example/umbrella_state/umbrellastate/runtime/DelayedDeliveries" (9 : Nat) "com/example/umbrella_state/umbrellastate/runtime/DelayedDeliveries" "heap" "[Lcom/example/umbrella_state/umbrellastate/runtime/Delivery;").before a0 Z = true := hw _ (List.mem_of_getElem? (i := 11) rfl)
theorem t12 {Z : State} {a0 : Array Value} (hw : ∀ d ∈ tables_1, d.before a0 Z = true) : (Jvm.Cond.lays "com/example/umbrella_state/umbrellastate/runtime/DelayedDeliveries" "com/example/umbrella_state/umbrellastate/runtime/DelayedDeliveries" "heap" "[Lcom/example/umbrella_state/umbrellastate/runtime/Delivery;").before a0 Z = true := hw _ (List.mem_of_getElem? (i := 12) rfl)
theorem t13 {Z : State} {a0 : Array Value} (hw : ∀ d ∈ tables_1, d.before a0 Z = true) : (Jvm.Cond.classLink "com/example/umbrella_state/umbrellastate/runtime/DelayedDeliveriesIsEmptyPinLaw" (10 : Nat) "com/example/umbrella_state/umbrellastate/runtime/Delivery").before a0 Z = true := hw _ (List.mem_of_getElem? (i := 13) rfl)
theorem t14 {Z : State} {a0 : Array Value} (hw : ∀ d ∈ tables_1, d.before a0 Z = true) : (Jvm.Cond.instantiable "com/example/umbrella_state/umbrellastate/runtime/Delivery" (5 : Nat)).before a0 Z = true := hw _ (List.mem_of_getElem? (i := 14) rfl)
theorem t15 {Z : State} {a0 : Array Value} (hw : ∀ d ∈ tables_1, d.before a0 Z = true) : (Jvm.Cond.initialized "com/example/umbrella_state/umbrellastate/runtime/Delivery").before a0 Z = true := hw _ (List.mem_of_getElem? (i := 15) rfl)
theorem t16 {Z : State} {a0 : Array Value} (hw : ∀ d ∈ tables_1, d.before a0 Z = true) : (Jvm.Cond.methodLink "com/example/umbrella_state/umbrellastate/runtime/DelayedDeliveriesIsEmptyPinLaw" (12 : Nat) ({ cls := "com/example/umbrella_state/umbrellastate/runtime/Delivery", name := "<init>", desc := "(Ljava/util/function/Consumer;Lcom/example/umbrella_state/umbrellastate/model/Message;JJ)V" } : Jvm.MethodName)).before a0 Z = true := hw _ (List.mem_of_getElem? (i := 16) rfl)
theorem t17 {Z : State} {a0 : Array Value} (hw : ∀ d ∈ tables_1, d.before a0 Z = true) : (Jvm.Cond.instanceMethod ({ cls := "com/example/umbrella_state/umbrellastate/runtime/Delivery", name := "<init>", desc := "(Ljava/util/function/Consumer;Lcom/example/umbrella_state/umbrellastate/model/Message;JJ)V" } : Jvm.MethodName)).before a0 Z = true := hw _ (List.mem_of_getElem? (i := 17) rfl)
theorem t18 {Z : State} {a0 : Array Value} (hw : ∀ d ∈ tables_1, d.before a0 Z = true) : (Jvm.Cond.code ({ cls := "com/example/umbrella_state/umbrellastate/runtime/Delivery", name := "<init>", desc := "(Ljava/util/function/Consumer;Lcom/example/umbrella_state/umbrellastate/model/Message;JJ)V" } : Jvm.MethodName) prog_54_method_1_code (7 : Nat) (Option.none : Option Jvm.ClassFile.FieldType)).before a0 Z = true := hw _ (List.mem_of_getElem? (i := 18) rfl)
theorem t19 {Z : State} {a0 : Array Value} (hw : ∀ d ∈ tables_1, d.before a0 Z = true) : (Jvm.Cond.methodLink "com/example/umbrella_state/umbrellastate/runtime/Delivery" (3 : Nat) ({ cls := "java/lang/Object", name := "<init>", desc := "()V" } : Jvm.MethodName)).before a0 Z = true := hw _ (List.mem_of_getElem? (i := 19) rfl)
theorem t20 {Z : State} {a0 : Array Value} (hw : ∀ d ∈ tables_1, d.before a0 Z = true) : (Jvm.Cond.fieldLink "com/example/umbrella_state/umbrellastate/runtime/Delivery" (9 : Nat) "com/example/umbrella_state/umbrellastate/runtime/Delivery" "handler" "Ljava/util/function/Consumer;").before a0 Z = true := hw _ (List.mem_of_getElem? (i := 20) rfl)
theorem t21 {Z : State} {a0 : Array Value} (hw : ∀ d ∈ tables_1, d.before a0 Z = true) : (Jvm.Cond.lays "com/example/umbrella_state/umbrellastate/runtime/Delivery" "com/example/umbrella_state/umbrellastate/runtime/Delivery" "handler" "Ljava/util/function/Consumer;").before a0 Z = true := hw _ (List.mem_of_getElem? (i := 21) rfl)
theorem t22 {Z : State} {a0 : Array Value} (hw : ∀ d ∈ tables_1, d.before a0 Z = true) : (Jvm.Cond.fieldLink "com/example/umbrella_state/umbrellastate/runtime/Delivery" (15 : Nat) "com/example/umbrella_state/umbrellastate/runtime/Delivery" "message" "Lcom/example/umbrella_state/umbrellastate/model/Message;").before a0 Z = true := hw _ (List.mem_of_getElem? (i := 22) rfl)
theorem t23 {Z : State} {a0 : Array Value} (hw : ∀ d ∈ tables_1, d.before a0 Z = true) : (Jvm.Cond.lays "com/example/umbrella_state/umbrellastate/runtime/Delivery" "com/example/umbrella_state/umbrellastate/runtime/Delivery" "message" "Lcom/example/umbrella_state/umbrellastate/model/Message;").before a0 Z = true := hw _ (List.mem_of_getElem? (i := 23) rfl)
theorem t24 {Z : State} {a0 : Array Value} (hw : ∀ d ∈ tables_1, d.before a0 Z = true) : (Jvm.Cond.fieldLink "com/example/umbrella_state/umbrellastate/runtime/Delivery" (19 : Nat) "com/example/umbrella_state/umbrellastate/runtime/Delivery" "due" "J").before a0 Z = true := hw _ (List.mem_of_getElem? (i := 24) rfl)
theorem t25 {Z : State} {a0 : Array Value} (hw : ∀ d ∈ tables_1, d.before a0 Z = true) : (Jvm.Cond.laysFinal "com/example/umbrella_state/umbrellastate/runtime/Delivery" "com/example/umbrella_state/umbrellastate/runtime/Delivery" "due" "J").before a0 Z = true := hw _ (List.mem_of_getElem? (i := 25) rfl)
theorem t26 {Z : State} {a0 : Array Value} (hw : ∀ d ∈ tables_1, d.before a0 Z = true) : (Jvm.Cond.fieldLink "com/example/umbrella_state/umbrellastate/runtime/Delivery" (23 : Nat) "com/example/umbrella_state/umbrellastate/runtime/Delivery" "order" "J").before a0 Z = true := hw _ (List.mem_of_getElem? (i := 26) rfl)
theorem t27 {Z : State} {a0 : Array Value} (hw : ∀ d ∈ tables_1, d.before a0 Z = true) : (Jvm.Cond.laysFinal "com/example/umbrella_state/umbrellastate/runtime/Delivery" "com/example/umbrella_state/umbrellastate/runtime/Delivery" "order" "J").before a0 Z = true := hw _ (List.mem_of_getElem? (i := 27) rfl)
theorem t28 {Z : State} {a0 : Array Value} (hw : ∀ d ∈ tables_1, d.before a0 Z = true) : (Jvm.Cond.methodLink "com/example/umbrella_state/umbrellastate/runtime/DelayedDeliveriesIsEmptyPinLaw" (19 : Nat) ({ cls := "com/example/umbrella_state/umbrellastate/runtime/DelayedDeliveries", name := "isEmpty", desc := "()Z" } : Jvm.MethodName)).before a0 Z = true := hw _ (List.mem_of_getElem? (i := 28) rfl)
theorem t29 {Z : State} {a0 : Array Value} (hw : ∀ d ∈ tables_1, d.before a0 Z = true) : (Jvm.Cond.declares ({ cls := "com/example/umbrella_state/umbrellastate/runtime/DelayedDeliveries", name := "isEmpty", desc := "()Z" } : Jvm.MethodName)).before a0 Z = true := hw _ (List.mem_of_getElem? (i := 29) rfl)
theorem t30 {Z : State} {a0 : Array Value} (hw : ∀ d ∈ tables_1, d.before a0 Z = true) : (Jvm.Cond.instanceMethod ({ cls := "com/example/umbrella_state/umbrellastate/runtime/DelayedDeliveries", name := "isEmpty", desc := "()Z" } : Jvm.MethodName)).before a0 Z = true := hw _ (List.mem_of_getElem? (i := 30) rfl)
theorem t31 {Z : State} {a0 : Array Value} (hw : ∀ d ∈ tables_1, d.before a0 Z = true) : (Jvm.Cond.selects "com/example/umbrella_state/umbrellastate/runtime/DelayedDeliveries" ({ cls := "com/example/umbrella_state/umbrellastate/runtime/DelayedDeliveries", name := "isEmpty", desc := "()Z" } : Jvm.MethodName) ({ cls := "com/example/umbrella_state/umbrellastate/runtime/DelayedDeliveries", name := "isEmpty", desc := "()Z" } : Jvm.MethodName)).before a0 Z = true := hw _ (List.mem_of_getElem? (i := 31) rfl)
theorem t32 {Z : State} {a0 : Array Value} (hw : ∀ d ∈ tables_1, d.before a0 Z = true) : (Jvm.Cond.code ({ cls := "com/example/umbrella_state/umbrellastate/runtime/DelayedDeliveries", name := "isEmpty", desc := "()Z" } : Jvm.MethodName) prog_52_method_2_code (1 : Nat) (Option.some Jvm.ClassFile.FieldType.boolean)).before a0 Z = true := hw _ (List.mem_of_getElem? (i := 32) rfl)
theorem t33 {Z : State} {a0 : Array Value} (hw : ∀ d ∈ tables_1, d.before a0 Z = true) : (Jvm.Cond.fieldLink "com/example/umbrella_state/umbrellastate/runtime/DelayedDeliveries" (15 : Nat) "com/example/umbrella_state/umbrellastate/runtime/DelayedDeliveries" "size" "I").before a0 Z = true := hw _ (List.mem_of_getElem? (i := 33) rfl)
theorem t34 {Z : State} {a0 : Array Value} (hw : ∀ d ∈ tables_1, d.before a0 Z = true) : (Jvm.Cond.lays "com/example/umbrella_state/umbrellastate/runtime/DelayedDeliveries" "com/example/umbrella_state/umbrellastate/runtime/DelayedDeliveries" "size" "I").before a0 Z = true := hw _ (List.mem_of_getElem? (i := 34) rfl)
theorem t35 {Z : State} {a0 : Array Value} (hw : ∀ d ∈ tables_1, d.before a0 Z = true) : (Jvm.Cond.methodLink "com/example/umbrella_state/umbrellastate/runtime/DelayedDeliveriesIsEmptyPinLaw" (23 : Nat) ({ cls := "com/example/umbrella_state/umbrellastate/runtime/DelayedDeliveries", name := "poll", desc := "()Lcom/example/umbrella_state/umbrellastate/runtime/Delivery;" } : Jvm.MethodName)).before a0 Z = true := hw _ (List.mem_of_getElem? (i := 35) rfl)
theorem t36 {Z : State} {a0 : Array Value} (hw : ∀ d ∈ tables_1, d.before a0 Z = true) : (Jvm.Cond.declares ({ cls := "com/example/umbrella_state/umbrellastate/runtime/DelayedDeliveries", name := "poll", desc := "()Lcom/example/umbrella_state/umbrellastate/runtime/Delivery;" } : Jvm.MethodName)).before a0 Z = true := hw _ (List.mem_of_getElem? (i := 36) rfl)
theorem t37 {Z : State} {a0 : Array Value} (hw : ∀ d ∈ tables_1, d.before a0 Z = true) : (Jvm.Cond.instanceMethod ({ cls := "com/example/umbrella_state/umbrellastate/runtime/DelayedDeliveries", name := "poll", desc := "()Lcom/example/umbrella_state/umbrellastate/runtime/Delivery;" } : Jvm.MethodName)).before a0 Z = true := hw _ (List.mem_of_getElem? (i := 37) rfl)
theorem t38 {Z : State} {a0 : Array Value} (hw : ∀ d ∈ tables_1, d.before a0 Z = true) : (Jvm.Cond.selects "com/example/umbrella_state/umbrellastate/runtime/DelayedDeliveries" ({ cls := "com/example/umbrella_state/umbrellastate/runtime/DelayedDeliveries", name := "poll", desc := "()Lcom/example/umbrella_state/umbrellastate/runtime/Delivery;" } : Jvm.MethodName) ({ cls := "com/example/umbrella_state/umbrellastate/runtime/DelayedDeliveries", name := "poll", desc := "()Lcom/example/umbrella_state/umbrellastate/runtime/Delivery;" } : Jvm.MethodName)).before a0 Z = true := hw _ (List.mem_of_getElem? (i := 38) rfl)
theorem t39 {Z : State} {a0 : Array Value} (hw : ∀ d ∈ tables_1, d.before a0 Z = true) : (Jvm.Cond.code ({ cls := "com/example/umbrella_state/umbrellastate/runtime/DelayedDeliveries", name := "poll", desc := "()Lcom/example/umbrella_state/umbrellastate/runtime/Delivery;" } : Jvm.MethodName) prog_52_method_5_code (11 : Nat) (Option.some (Jvm.ClassFile.FieldType.object "com/example/umbrella_state/umbrellastate/runtime/Delivery"))).before a0 Z = true := hw _ (List.mem_of_getElem? (i := 39) rfl)
theorem t40 {Z : State} {a0 : Array Value} (hw : ∀ d ∈ tables_1, d.before a0 Z = true) : (Jvm.Cond.methodLink "com/example/umbrella_state/umbrellastate/runtime/DelayedDeliveriesIsEmptyPinLaw" (15 : Nat) ({ cls := "com/example/umbrella_state/umbrellastate/runtime/DelayedDeliveries", name := "add", desc := "(Lcom/example/umbrella_state/umbrellastate/runtime/Delivery;)V" } : Jvm.MethodName)).before a0 Z = true := hw _ (List.mem_of_getElem? (i := 40) rfl)
theorem t41 {Z : State} {a0 : Array Value} (hw : ∀ d ∈ tables_1, d.before a0 Z = true) : (Jvm.Cond.declares ({ cls := "com/example/umbrella_state/umbrellastate/runtime/DelayedDeliveries", name := "add", desc := "(Lcom/example/umbrella_state/umbrellastate/runtime/Delivery;)V" } : Jvm.MethodName)).before a0 Z = true := hw _ (List.mem_of_getElem? (i := 41) rfl)
theorem t42 {Z : State} {a0 : Array Value} (hw : ∀ d ∈ tables_1, d.before a0 Z = true) : (Jvm.Cond.instanceMethod ({ cls := "com/example/umbrella_state/umbrellastate/runtime/DelayedDeliveries", name := "add", desc := "(Lcom/example/umbrella_state/umbrellastate/runtime/Delivery;)V" } : Jvm.MethodName)).before a0 Z = true := hw _ (List.mem_of_getElem? (i := 42) rfl)
theorem t43 {Z : State} {a0 : Array Value} (hw : ∀ d ∈ tables_1, d.before a0 Z = true) : (Jvm.Cond.selects "com/example/umbrella_state/umbrellastate/runtime/DelayedDeliveries" ({ cls := "com/example/umbrella_state/umbrellastate/runtime/DelayedDeliveries", name := "add", desc := "(Lcom/example/umbrella_state/umbrellastate/runtime/Delivery;)V" } : Jvm.MethodName) ({ cls := "com/example/umbrella_state/umbrellastate/runtime/DelayedDeliveries", name := "add", desc := "(Lcom/example/umbrella_state/umbrellastate/runtime/Delivery;)V" } : Jvm.MethodName)).before a0 Z = true := hw _ (List.mem_of_getElem? (i := 43) rfl)
theorem t44 {Z : State} {a0 : Array Value} (hw : ∀ d ∈ tables_1, d.before a0 Z = true) : (Jvm.Cond.code ({ cls := "com/example/umbrella_state/umbrellastate/runtime/DelayedDeliveries", name := "add", desc := "(Lcom/example/umbrella_state/umbrellastate/runtime/Delivery;)V" } : Jvm.MethodName) prog_52_method_4_code (5 : Nat) (Option.none : Option Jvm.ClassFile.FieldType)).before a0 Z = true := hw _ (List.mem_of_getElem? (i := 44) rfl)
theorem t46 {Z : State} {a0 : Array Value} (hw : ∀ d ∈ tables_1, d.before a0 Z = true) : (Jvm.Cond.methodLink "com/example/umbrella_state/umbrellastate/runtime/DelayedDeliveries" (26 : Nat) ({ cls := "com/example/umbrella_state/umbrellastate/runtime/DelayedDeliveries", name := "parentOf", desc := "(I)I" } : Jvm.MethodName)).before a0 Z = true := hw _ (List.mem_of_getElem? (i := 46) rfl)
theorem t47 {Z : State} {a0 : Array Value} (hw : ∀ d ∈ tables_1, d.before a0 Z = true) : (Jvm.Cond.static ({ cls := "com/example/umbrella_state/umbrellastate/runtime/DelayedDeliveries", name := "parentOf", desc := "(I)I" } : Jvm.MethodName)).before a0 Z = true := hw _ (List.mem_of_getElem? (i := 47) rfl)
theorem t48 {Z : State} {a0 : Array Value} (hw : ∀ d ∈ tables_1, d.before a0 Z = true) : (Jvm.Cond.code ({ cls := "com/example/umbrella_state/umbrellastate/runtime/DelayedDeliveries", name := "parentOf", desc := "(I)I" } : Jvm.MethodName) prog_52_method_11_code (1 : Nat) (Option.some Jvm.ClassFile.FieldType.int)).before a0 Z = true := hw _ (List.mem_of_getElem? (i := 48) rfl)
theorem t49 {Z : State} {a0 : Array Value} (hw : ∀ d ∈ tables_1, d.before a0 Z = true) : (Jvm.Cond.methodLink "com/example/umbrella_state/umbrellastate/runtime/DelayedDeliveries" (30 : Nat) ({ cls := "com/example/umbrella_state/umbrellastate/runtime/DelayedDeliveries", name := "goesBefore", desc := "(Lcom/example/umbrella_state/umbrellastate/runtime/Delivery;Lcom/example/umbrella_state/umbrellastate/runtime/Delivery;)Z" } : Jvm.MethodName)).before a0 Z = true := hw _ (List.mem_of_getElem? (i := 49) rfl)
theorem t50 {Z : State} {a0 : Array Value} (hw : ∀ d ∈ tables_1, d.before a0 Z = true) : (Jvm.Cond.static ({ cls := "com/example/umbrella_state/umbrellastate/runtime/DelayedDeliveries", name := "goesBefore", desc := "(Lcom/example/umbrella_state/umbrellastate/runtime/Delivery;Lcom/example/umbrella_state/umbrellastate/runtime/Delivery;)Z" } : Jvm.MethodName)).before a0 Z = true := hw _ (List.mem_of_getElem? (i := 50) rfl)
theorem t51 {Z : State} {a0 : Array Value} (hw : ∀ d ∈ tables_1, d.before a0 Z = true) : (Jvm.Cond.code ({ cls := "com/example/umbrella_state/umbrellastate/runtime/DelayedDeliveries", name := "goesBefore", desc := "(Lcom/example/umbrella_state/umbrellastate/runtime/Delivery;Lcom/example/umbrella_state/umbrellastate/runtime/Delivery;)Z" } : Jvm.MethodName) prog_52_method_10_code (2 : Nat) (Option.some Jvm.ClassFile.FieldType.boolean)).before a0 Z = true := hw _ (List.mem_of_getElem? (i := 51) rfl)
theorem t52 {Z : State} {a0 : Array Value} (hw : ∀ d ∈ tables_1, d.before a0 Z = true) : (Jvm.Cond.fieldLink "com/example/umbrella_state/umbrellastate/runtime/DelayedDeliveries" (54 : Nat) "com/example/umbrella_state/umbrellastate/runtime/Delivery" "due" "J").before a0 Z = true := hw _ (List.mem_of_getElem? (i := 52) rfl)
theorem t53 {Z : State} {a0 : Array Value} (hw : ∀ d ∈ tables_1, d.before a0 Z = true) : (Jvm.Cond.methodLink "com/example/umbrella_state/umbrellastate/runtime/DelayedDeliveries" (34 : Nat) ({ cls := "com/example/umbrella_state/umbrellastate/runtime/DelayedDeliveries", name := "lesserChild", desc := "([Lcom/example/umbrella_state/umbrellastate/runtime/Delivery;II)I" } : Jvm.MethodName)).before a0 Z = true := hw _ (List.mem_of_getElem? (i := 53) rfl)
theorem t54 {Z : State} {a0 : Array Value} (hw : ∀ d ∈ tables_1, d.before a0 Z = true) : (Jvm.Cond.static ({ cls := "com/example/umbrella_state/umbrellastate/runtime/DelayedDeliveries", name := "lesserChild", desc := "([Lcom/example/umbrella_state/umbrellastate/runtime/Delivery;II)I" } : Jvm.MethodName)).before a0 Z = true := hw _ (List.mem_of_getElem? (i := 54) rfl)
theorem t55 {Z : State} {a0 : Array Value} (hw : ∀ d ∈ tables_1, d.before a0 Z = true) : (Jvm.Cond.code ({ cls := "com/example/umbrella_state/umbrellastate/runtime/DelayedDeliveries", name := "lesserChild", desc := "([Lcom/example/umbrella_state/umbrellastate/runtime/Delivery;II)I" } : Jvm.MethodName) prog_52_method_9_code (5 : Nat) (Option.some Jvm.ClassFile.FieldType.int)).before a0 Z = true := hw _ (List.mem_of_getElem? (i := 55) rfl)
theorem t56 {Z : State} {a0 : Array Value} (hw : ∀ d ∈ tables_1, d.before a0 Z = true) : (Jvm.Cond.fieldLink "com/example/umbrella_state/umbrellastate/runtime/DelayedDeliveries" (58 : Nat) "com/example/umbrella_state/umbrellastate/runtime/Delivery" "order" "J").before a0 Z = true := hw _ (List.mem_of_getElem? (i := 56) rfl)
theorem pd0 : parseMethodDescriptor "(I)I" = some ⟨[.int], some .int⟩ := by decide +kernel
theorem pd1 : parseMethodDescriptor "(Lcom/example/umbrella_state/umbrellastate/runtime/Delivery;Lcom/example/umbrella_state/umbrellastate/runtime/Delivery;)Z" = some ⟨[(.object "com/example/umbrella_state/umbrellastate/runtime/Delivery"), (.object "com/example/umbrella_state/umbrellastate/runtime/Delivery")], some .boolean⟩ := by decide +kernel
theorem pd2 : parseMethodDescriptor "([Lcom/example/umbrella_state/umbrellastate/runtime/Delivery;II)I" = some ⟨[(.array (.object "com/example/umbrella_state/umbrellastate/runtime/Delivery")), .int, .int], some .int⟩ := by decide +kernel
theorem pd3 : parseMethodDescriptor "()V" = some ⟨[], none⟩ := by decide +kernel
theorem pd4 : parseMethodDescriptor "(Ljava/util/function/Consumer;Lcom/example/umbrella_state/umbrellastate/model/Message;JJ)V" = some ⟨[(.object "java/util/function/Consumer"), (.object "com/example/umbrella_state/umbrellastate/model/Message"), .long, .long], none⟩ := by decide +kernel
theorem pd5 : parseMethodDescriptor "()Z" = some ⟨[], some .boolean⟩ := by decide +kernel
theorem pd6 : parseMethodDescriptor "()Lcom/example/umbrella_state/umbrellastate/runtime/Delivery;" = some ⟨[], some (.object "com/example/umbrella_state/umbrellastate/runtime/Delivery")⟩ := by decide +kernel
theorem pd7 : parseMethodDescriptor "(Lcom/example/umbrella_state/umbrellastate/runtime/Delivery;)V" = some ⟨[(.object "com/example/umbrella_state/umbrellastate/runtime/Delivery")], none⟩ := by decide +kernel
theorem pn0 : plainName "com/example/umbrella_state/umbrellastate/runtime/Delivery" = true := by first | (simp [plainName, overriddenIn]; done) | decide +kernel
theorem pn1 : plainName "com/example/umbrella_state/umbrellastate/runtime/DelayedDeliveries" = true := by first | (simp [plainName, overriddenIn]; done) | decide +kernel
theorem pn2 : plainName "com/example/umbrella_state/umbrellastate/runtime/DelayedDeliveriesIsEmptyPinLaw" = true := by first | (simp [plainName, overriddenIn]; done) | decide +kernel
theorem c3_0 : Dal prog_54_method_1_code 0 0 1 := Or.inr ⟨0, (by decide +kernel), rfl, rfl⟩
theorem c3_1 : Dc prog_54_method_1_code 1 (.invokespecial 3) 3 4 := ⟨(by decide +kernel), rfl⟩
theorem c3_4 : Dal prog_54_method_1_code 4 0 5 := Or.inr ⟨0, (by decide +kernel), rfl, rfl⟩
theorem c3_5 : Dal prog_54_method_1_code 5 1 6 := Or.inr ⟨1, (by decide +kernel), rfl, rfl⟩
theorem c3_6 : Dc prog_54_method_1_code 6 (.putfield 9) 3 9 := ⟨(by decide +kernel), rfl⟩
theorem c3_9 : Dal prog_54_method_1_code 9 0 10 := Or.inr ⟨0, (by decide +kernel), rfl, rfl⟩
theorem c3_10 : Dal prog_54_method_1_code 10 2 11 := Or.inr ⟨2, (by decide +kernel), rfl, rfl⟩
theorem c3_11 : Dc prog_54_method_1_code 11 (.putfield 15) 3 14 := ⟨(by decide +kernel), rfl⟩
theorem c3_14 : Dal prog_54_method_1_code 14 0 15 := Or.inr ⟨0, (by decide +kernel), rfl, rfl⟩
theorem c3_15 : Dll prog_54_method_1_code 15 3 16 := Or.inr ⟨3, (by decide +kernel), rfl, rfl⟩
theorem c3_16 : Dc prog_54_method_1_code 16 (.putfield 19) 3 19 := ⟨(by decide +kernel), rfl⟩
theorem c3_19 : Dal prog_54_method_1_code 19 0 20 := Or.inr ⟨0, (by decide +kernel), rfl, rfl⟩
theorem c3_20 : Dll prog_54_method_1_code 20 5 22 := Or.inl ⟨(by decide +kernel), rfl⟩
theorem c3_22 : Dc prog_54_method_1_code 22 (.putfield 23) 3 25 := ⟨(by decide +kernel), rfl⟩
theorem c3_25 : Dc prog_54_method_1_code 25 .return_ 1 26 := ⟨(by decide +kernel), rfl⟩
theorem c1_0 : Dal prog_52_method_1_code 0 0 1 := Or.inr ⟨0, (by decide +kernel), rfl, rfl⟩
theorem c1_1 : Dc prog_52_method_1_code 1 (.invokespecial 1) 3 4 := ⟨(by decide +kernel), rfl⟩
theorem c1_4 : Dal prog_52_method_1_code 4 0 5 := Or.inr ⟨0, (by decide +kernel), rfl, rfl⟩
theorem c1_5 : Dp prog_52_method_1_code 5 8 7 := Or.inr (Or.inl ⟨8, (by decide +kernel), by decide, rfl⟩)
theorem c1_7 : Dc prog_52_method_1_code 7 (.anewarray 7) 3 10 := ⟨(by decide +kernel), rfl⟩
theorem c1_10 : Dc prog_52_method_1_code 10 (.putfield 9) 3 13 := ⟨(by decide +kernel), rfl⟩
theorem c1_13 : Dc prog_52_method_1_code 13 .return_ 1 14 := ⟨(by decide +kernel), rfl⟩
theorem c7_0 : Dil prog_52_method_11_code 0 0 1 := Or.inr ⟨0, (by decide +kernel), rfl, rfl⟩
theorem c7_1 : Dp prog_52_method_11_code 1 1 2 := Or.inl ⟨1, (by decide +kernel), by decide, rfl⟩
theorem c7_2 : Dc prog_52_method_11_code 2 .isub 1 3 := ⟨(by decide +kernel), rfl⟩
theorem c7_3 : Dp prog_52_method_11_code 3 1 4 := Or.inl ⟨1, (by decide +kernel), by decide, rfl⟩
theorem c7_4 : Dc prog_52_method_11_code 4 .iushr 1 5 := ⟨(by decide +kernel), rfl⟩
theorem c7_5 : Dc prog_52_method_11_code 5 .ireturn 1 6 := ⟨(by decide +kernel), rfl⟩
theorem c8_0 : Dal prog_52_method_10_code 0 0 1 := Or.inr ⟨0, (by decide +kernel), rfl, rfl⟩
theorem c8_1 : Dc prog_52_method_10_code 1 (.getfield 54) 3 4 := ⟨(by decide +kernel), rfl⟩
theorem c8_4 : Dal prog_52_method_10_code 4 1 5 := Or.inr ⟨1, (by decide +kernel), rfl, rfl⟩
theorem c8_5 : Dc prog_52_method_10_code 5 (.getfield 54) 3 8 := ⟨(by decide +kernel), rfl⟩
theorem c8_8 : Dc prog_52_method_10_code 8 .lcmp 1 9 := ⟨(by decide +kernel), rfl⟩
theorem c8_9 : Db prog_52_method_10_code 9 (.ifCond .lt) 12 36 := ⟨27, (by decide +kernel), rfl, by decide, by decide⟩
theorem c8_12 : Dal prog_52_method_10_code 12 0 13 := Or.inr ⟨0, (by decide +kernel), rfl, rfl⟩
theorem c8_13 : Dc prog_52_method_10_code 13 (.getfield 54) 3 16 := ⟨(by decide +kernel), rfl⟩
theorem c8_16 : Dal prog_52_method_10_code 16 1 17 := Or.inr ⟨1, (by decide +kernel), rfl, rfl⟩
theorem c8_17 : Dc prog_52_method_10_code 17 (.getfield 54) 3 20 := ⟨(by decide +kernel), rfl⟩
theorem c8_20 : Dc prog_52_method_10_code 20 .lcmp 1 21 := ⟨(by decide +kernel), rfl⟩
theorem c8_21 : Db prog_52_method_10_code 21 (.ifCond .ne) 24 40 := ⟨19, (by decide +kernel), rfl, by decide, by decide⟩
theorem c8_24 : Dal prog_52_method_10_code 24 0 25 := Or.inr ⟨0, (by decide +kernel), rfl, rfl⟩
theorem c8_25 : Dc prog_52_method_10_code 25 (.getfield 58) 3 28 := ⟨(by decide +kernel), rfl⟩
theorem c8_28 : Dal prog_52_method_10_code 28 1 29 := Or.inr ⟨1, (by decide +kernel), rfl, rfl⟩
theorem c8_29 : Dc prog_52_method_10_code 29 (.getfield 58) 3 32 := ⟨(by decide +kernel), rfl⟩
theorem c8_32 : Dc prog_52_method_10_code 32 .lcmp 1 33 := ⟨(by decide +kernel), rfl⟩
theorem c8_33 : Db prog_52_method_10_code 33 (.ifCond .ge) 36 40 := ⟨7, (by decide +kernel), rfl, by decide, by decide⟩
theorem c8_36 : Dp prog_52_method_10_code 36 1 37 := Or.inl ⟨1, (by decide +kernel), by decide, rfl⟩
theorem c8_37 : Db prog_52_method_10_code 37 .goto 40 41 := ⟨4, (by decide +kernel), rfl, by decide, by decide⟩
theorem c8_40 : Dp prog_52_method_10_code 40 0 41 := Or.inl ⟨0, (by decide +kernel), by decide, rfl⟩
theorem c8_41 : Dc prog_52_method_10_code 41 .ireturn 1 42 := ⟨(by decide +kernel), rfl⟩
theorem c4_0 : Dal prog_52_method_2_code 0 0 1 := Or.inr ⟨0, (by decide +kernel), rfl, rfl⟩
theorem c4_1 : Dc prog_52_method_2_code 1 (.getfield 15) 3 4 := ⟨(by decide +kernel), rfl⟩
theorem c4_4 : Db prog_52_method_2_code 4 (.ifCond .ne) 7 11 := ⟨7, (by decide +kernel), rfl, by decide, by decide⟩
theorem c4_7 : Dp prog_52_method_2_code 7 1 8 := Or.inl ⟨1, (by decide +kernel), by decide, rfl⟩
theorem c4_8 : Db prog_52_method_2_code 8 .goto 11 12 := ⟨4, (by decide +kernel), rfl, by decide, by decide⟩
theorem c4_11 : Dp prog_52_method_2_code 11 0 12 := Or.inl ⟨0, (by decide +kernel), by decide, rfl⟩
theorem c4_12 : Dc prog_52_method_2_code 12 .ireturn 1 13 := ⟨(by decide +kernel), rfl⟩
theorem c6_0 : Dal prog_52_method_4_code 0 0 1 := Or.inr ⟨0, (by decide +kernel), rfl, rfl⟩
theorem c6_1 : Dc prog_52_method_4_code 1 (.getfield 15) 3 4 := ⟨(by decide +kernel), rfl⟩
theorem c6_4 : Dal prog_52_method_4_code 4 0 5 := Or.inr ⟨0, (by decide +kernel), rfl, rfl⟩
theorem c6_5 : Dc prog_52_method_4_code 5 (.getfield 9) 3 8 := ⟨(by decide +kernel), rfl⟩
theorem c6_8 : Dc prog_52_method_4_code 8 .arraylength 1 9 := ⟨(by decide +kernel), rfl⟩
theorem c6_9 : Db prog_52_method_4_code 9 (.if_icmp .ne) 12 32 := ⟨23, (by decide +kernel), rfl, by decide, by decide⟩
theorem c6_12 : Dal prog_52_method_4_code 12 0 13 := Or.inr ⟨0, (by decide +kernel), rfl, rfl⟩
theorem c6_13 : Dal prog_52_method_4_code 13 0 14 := Or.inr ⟨0, (by decide +kernel), rfl, rfl⟩
theorem c6_14 : Dc prog_52_method_4_code 14 (.getfield 9) 3 17 := ⟨(by decide +kernel), rfl⟩
theorem c6_17 : Dp prog_52_method_4_code 17 2 18 := Or.inl ⟨2, (by decide +kernel), by decide, rfl⟩
theorem c6_18 : Dal prog_52_method_4_code 18 0 19 := Or.inr ⟨0, (by decide +kernel), rfl, rfl⟩
theorem c6_19 : Dc prog_52_method_4_code 19 (.getfield 15) 3 22 := ⟨(by decide +kernel), rfl⟩
theorem c6_22 : Dc prog_52_method_4_code 22 .imul 1 23 := ⟨(by decide +kernel), rfl⟩
theorem c6_23 : Dc prog_52_method_4_code 23 (.invokestatic 19) 3 26 := ⟨(by decide +kernel), rfl⟩
theorem c6_26 : Dc prog_52_method_4_code 26 (.checkcast 25) 3 29 := ⟨(by decide +kernel), rfl⟩
theorem c6_29 : Dc prog_52_method_4_code 29 (.putfield 9) 3 32 := ⟨(by decide +kernel), rfl⟩
theorem c6_32 : Dal prog_52_method_4_code 32 0 33 := Or.inr ⟨0, (by decide +kernel), rfl, rfl⟩
theorem c6_33 : Dc prog_52_method_4_code 33 (.getfield 15) 3 36 := ⟨(by decide +kernel), rfl⟩
theorem c6_36 : Dis prog_52_method_4_code 36 2 37 := Or.inr ⟨2, (by decide +kernel), rfl, rfl⟩
theorem c6_37 : Dil prog_52_method_4_code 37 2 38 := Or.inr ⟨2, (by decide +kernel), rfl, rfl⟩
theorem c6_38 : Db prog_52_method_4_code 38 (.ifCond .le) 41 65 := ⟨27, (by decide +kernel), rfl, by decide, by decide⟩
theorem c6_41 : Dal prog_52_method_4_code 41 1 42 := Or.inr ⟨1, (by decide +kernel), rfl, rfl⟩
theorem c6_42 : Dal prog_52_method_4_code 42 0 43 := Or.inr ⟨0, (by decide +kernel), rfl, rfl⟩
theorem c6_43 : Dc prog_52_method_4_code 43 (.getfield 9) 3 46 := ⟨(by decide +kernel), rfl⟩
theorem c6_46 : Dil prog_52_method_4_code 46 2 47 := Or.inr ⟨2, (by decide +kernel), rfl, rfl⟩
theorem c6_47 : Dc prog_52_method_4_code 47 (.invokestatic 26) 3 50 := ⟨(by decide +kernel), rfl⟩
theorem c6_50 : Dc prog_52_method_4_code 50 .aaload 1 51 := ⟨(by decide +kernel), rfl⟩
theorem c6_51 : Dc prog_52_method_4_code 51 (.invokestatic 30) 3 54 := ⟨(by decide +kernel), rfl⟩
theorem c6_54 : Db prog_52_method_4_code 54 (.ifCond .eq) 57 65 := ⟨11, (by decide +kernel), rfl, by decide, by decide⟩
theorem c6_57 : Dil prog_52_method_4_code 57 2 58 := Or.inr ⟨2, (by decide +kernel), rfl, rfl⟩
theorem c6_58 : Dc prog_52_method_4_code 58 (.invokestatic 26) 3 61 := ⟨(by decide +kernel), rfl⟩
theorem c6_61 : Dis prog_52_method_4_code 61 2 62 := Or.inr ⟨2, (by decide +kernel), rfl, rfl⟩
theorem c6_62 : Db prog_52_method_4_code 62 .goto 65 37 := ⟨(-25), (by decide +kernel), rfl, by decide, by decide⟩
theorem c6_65 : Dal prog_52_method_4_code 65 0 66 := Or.inr ⟨0, (by decide +kernel), rfl, rfl⟩
theorem c6_66 : Dc prog_52_method_4_code 66 (.getfield 15) 3 69 := ⟨(by decide +kernel), rfl⟩
theorem c6_69 : Dis prog_52_method_4_code 69 3 70 := Or.inr ⟨3, (by decide +kernel), rfl, rfl⟩
theorem c6_70 : Dil prog_52_method_4_code 70 3 71 := Or.inr ⟨3, (by decide +kernel), rfl, rfl⟩
theorem c6_71 : Dil prog_52_method_4_code 71 2 72 := Or.inr ⟨2, (by decide +kernel), rfl, rfl⟩
theorem c6_72 : Db prog_52_method_4_code 72 (.if_icmp .le) 75 101 := ⟨29, (by decide +kernel), rfl, by decide, by decide⟩
theorem c6_75 : Dil prog_52_method_4_code 75 3 76 := Or.inr ⟨3, (by decide +kernel), rfl, rfl⟩
theorem c6_76 : Dp prog_52_method_4_code 76 1 77 := Or.inl ⟨1, (by decide +kernel), by decide, rfl⟩
theorem c6_77 : Dc prog_52_method_4_code 77 .isub 1 78 := ⟨(by decide +kernel), rfl⟩
theorem c6_78 : Dp prog_52_method_4_code 78 1 79 := Or.inl ⟨1, (by decide +kernel), by decide, rfl⟩
theorem c6_79 : Dc prog_52_method_4_code 79 .iushr 1 80 := ⟨(by decide +kernel), rfl⟩
theorem c6_80 : Dis prog_52_method_4_code 80 4 82 := Or.inl ⟨(by decide +kernel), rfl⟩
theorem c6_82 : Dal prog_52_method_4_code 82 0 83 := Or.inr ⟨0, (by decide +kernel), rfl, rfl⟩
theorem c6_83 : Dc prog_52_method_4_code 83 (.getfield 9) 3 86 := ⟨(by decide +kernel), rfl⟩
theorem c6_86 : Dil prog_52_method_4_code 86 3 87 := Or.inr ⟨3, (by decide +kernel), rfl, rfl⟩
theorem c6_87 : Dal prog_52_method_4_code 87 0 88 := Or.inr ⟨0, (by decide +kernel), rfl, rfl⟩
theorem c6_88 : Dc prog_52_method_4_code 88 (.getfield 9) 3 91 := ⟨(by decide +kernel), rfl⟩
theorem c6_91 : Dil prog_52_method_4_code 91 4 93 := Or.inl ⟨(by decide +kernel), rfl⟩
theorem c6_93 : Dc prog_52_method_4_code 93 .aaload 1 94 := ⟨(by decide +kernel), rfl⟩
theorem c6_94 : Dc prog_52_method_4_code 94 .aastore 1 95 := ⟨(by decide +kernel), rfl⟩
theorem c6_95 : Dil prog_52_method_4_code 95 4 97 := Or.inl ⟨(by decide +kernel), rfl⟩
theorem c6_97 : Dis prog_52_method_4_code 97 3 98 := Or.inr ⟨3, (by decide +kernel), rfl, rfl⟩
theorem c6_98 : Db prog_52_method_4_code 98 .goto 101 70 := ⟨(-28), (by decide +kernel), rfl, by decide, by decide⟩
theorem c6_101 : Dal prog_52_method_4_code 101 0 102 := Or.inr ⟨0, (by decide +kernel), rfl, rfl⟩
theorem c6_102 : Dc prog_52_method_4_code 102 (.getfield 9) 3 105 := ⟨(by decide +kernel), rfl⟩
theorem c6_105 : Dil prog_52_method_4_code 105 2 106 := Or.inr ⟨2, (by decide +kernel), rfl, rfl⟩
theorem c6_106 : Dal prog_52_method_4_code 106 1 107 := Or.inr ⟨1, (by decide +kernel), rfl, rfl⟩
theorem c6_107 : Dc prog_52_method_4_code 107 .aastore 1 108 := ⟨(by decide +kernel), rfl⟩
theorem c6_108 : Dal prog_52_method_4_code 108 0 109 := Or.inr ⟨0, (by decide +kernel), rfl, rfl⟩
theorem c6_109 : Dc prog_52_method_4_code 109 .dup 1 110 := ⟨(by decide +kernel), rfl⟩
theorem c6_110 : Dc prog_52_method_4_code 110 (.getfield 15) 3 113 := ⟨(by decide +kernel), rfl⟩
theorem c6_113 : Dp prog_52_method_4_code 113 1 114 := Or.inl ⟨1, (by decide +kernel), by decide, rfl⟩
theorem c6_114 : Dc prog_52_method_4_code 114 .iadd 1 115 := ⟨(by decide +kernel), rfl⟩
theorem c6_115 : Dc prog_52_method_4_code 115 (.putfield 15) 3 118 := ⟨(by decide +kernel), rfl⟩
theorem c6_118 : Dc prog_52_method_4_code 118 .return_ 1 119 := ⟨(by decide +kernel), rfl⟩
theorem c9_0 : Dp prog_52_method_9_code 0 2 1 := Or.inl ⟨2, (by decide +kernel), by decide, rfl⟩
theorem c9_1 : Dil prog_52_method_9_code 1 1 2 := Or.inr ⟨1, (by decide +kernel), rfl, rfl⟩
theorem c9_2 : Dc prog_52_method_9_code 2 .imul 1 3 := ⟨(by decide +kernel), rfl⟩
theorem c9_3 : Dp prog_52_method_9_code 3 1 4 := Or.inl ⟨1, (by decide +kernel), by decide, rfl⟩
theorem c9_4 : Dc prog_52_method_9_code 4 .iadd 1 5 := ⟨(by decide +kernel), rfl⟩
theorem c9_5 : Dis prog_52_method_9_code 5 3 6 := Or.inr ⟨3, (by decide +kernel), rfl, rfl⟩
theorem c9_6 : Dil prog_52_method_9_code 6 3 7 := Or.inr ⟨3, (by decide +kernel), rfl, rfl⟩
theorem c9_7 : Dil prog_52_method_9_code 7 2 8 := Or.inr ⟨2, (by decide +kernel), rfl, rfl⟩
theorem c9_8 : Db prog_52_method_9_code 8 (.if_icmp .lt) 11 13 := ⟨5, (by decide +kernel), rfl, by decide, by decide⟩
theorem c9_11 : Dp prog_52_method_9_code 11 (-1) 12 := Or.inl ⟨(-1), (by decide +kernel), by decide, rfl⟩
theorem c9_12 : Dc prog_52_method_9_code 12 .ireturn 1 13 := ⟨(by decide +kernel), rfl⟩
theorem c9_13 : Dil prog_52_method_9_code 13 3 14 := Or.inr ⟨3, (by decide +kernel), rfl, rfl⟩
theorem c9_14 : Dp prog_52_method_9_code 14 1 15 := Or.inl ⟨1, (by decide +kernel), by decide, rfl⟩
theorem c9_15 : Dc prog_52_method_9_code 15 .iadd 1 16 := ⟨(by decide +kernel), rfl⟩
theorem c9_16 : Dis prog_52_method_9_code 16 4 18 := Or.inl ⟨(by decide +kernel), rfl⟩
theorem c9_18 : Dil prog_52_method_9_code 18 4 20 := Or.inl ⟨(by decide +kernel), rfl⟩
theorem c9_20 : Dil prog_52_method_9_code 20 2 21 := Or.inr ⟨2, (by decide +kernel), rfl, rfl⟩
theorem c9_21 : Db prog_52_method_9_code 21 (.if_icmp .ge) 24 42 := ⟨21, (by decide +kernel), rfl, by decide, by decide⟩
theorem c9_24 : Dal prog_52_method_9_code 24 0 25 := Or.inr ⟨0, (by decide +kernel), rfl, rfl⟩
theorem c9_25 : Dil prog_52_method_9_code 25 4 27 := Or.inl ⟨(by decide +kernel), rfl⟩
theorem c9_27 : Dc prog_52_method_9_code 27 .aaload 1 28 := ⟨(by decide +kernel), rfl⟩
theorem c9_28 : Dal prog_52_method_9_code 28 0 29 := Or.inr ⟨0, (by decide +kernel), rfl, rfl⟩
theorem c9_29 : Dil prog_52_method_9_code 29 3 30 := Or.inr ⟨3, (by decide +kernel), rfl, rfl⟩
theorem c9_30 : Dc prog_52_method_9_code 30 .aaload 1 31 := ⟨(by decide +kernel), rfl⟩
theorem c9_31 : Dc prog_52_method_9_code 31 (.invokestatic 30) 3 34 := ⟨(by decide +kernel), rfl⟩
theorem c9_34 : Db prog_52_method_9_code 34 (.ifCond .eq) 37 42 := ⟨8, (by decide +kernel), rfl, by decide, by decide⟩
theorem c9_37 : Dil prog_52_method_9_code 37 4 39 := Or.inl ⟨(by decide +kernel), rfl⟩
theorem c9_39 : Db prog_52_method_9_code 39 .goto 42 43 := ⟨4, (by decide +kernel), rfl, by decide, by decide⟩
theorem c9_42 : Dil prog_52_method_9_code 42 3 43 := Or.inr ⟨3, (by decide +kernel), rfl, rfl⟩
theorem c9_43 : Dc prog_52_method_9_code 43 .ireturn 1 44 := ⟨(by decide +kernel), rfl⟩
theorem c5_0 : Dal prog_52_method_5_code 0 0 1 := Or.inr ⟨0, (by decide +kernel), rfl, rfl⟩
theorem c5_1 : Dc prog_52_method_5_code 1 (.getfield 15) 3 4 := ⟨(by decide +kernel), rfl⟩
theorem c5_4 : Db prog_52_method_5_code 4 (.ifCond .ne) 7 9 := ⟨5, (by decide +kernel), rfl, by decide, by decide⟩
theorem c5_7 : Dc prog_52_method_5_code 7 .aconst_null 1 8 := ⟨(by decide +kernel), rfl⟩
theorem c5_8 : Dc prog_52_method_5_code 8 .areturn 1 9 := ⟨(by decide +kernel), rfl⟩
theorem c5_9 : Dal prog_52_method_5_code 9 0 10 := Or.inr ⟨0, (by decide +kernel), rfl, rfl⟩
theorem c5_10 : Dc prog_52_method_5_code 10 (.getfield 15) 3 13 := ⟨(by decide +kernel), rfl⟩
theorem c5_13 : Dp prog_52_method_5_code 13 1 14 := Or.inl ⟨1, (by decide +kernel), by decide, rfl⟩
theorem c5_14 : Dc prog_52_method_5_code 14 .isub 1 15 := ⟨(by decide +kernel), rfl⟩
theorem c5_15 : Dis prog_52_method_5_code 15 1 16 := Or.inr ⟨1, (by decide +kernel), rfl, rfl⟩
theorem c5_16 : Dal prog_52_method_5_code 16 0 17 := Or.inr ⟨0, (by decide +kernel), rfl, rfl⟩
theorem c5_17 : Dc prog_52_method_5_code 17 (.getfield 9) 3 20 := ⟨(by decide +kernel), rfl⟩
theorem c5_20 : Dil prog_52_method_5_code 20 1 21 := Or.inr ⟨1, (by decide +kernel), rfl, rfl⟩
theorem c5_21 : Dc prog_52_method_5_code 21 .aaload 1 22 := ⟨(by decide +kernel), rfl⟩
theorem c5_22 : Das prog_52_method_5_code 22 2 23 := Or.inr ⟨2, (by decide +kernel), rfl, rfl⟩
theorem c5_23 : Dlc prog_52_method_5_code 23 0 24 := ⟨0, (by decide +kernel), by decide, rfl⟩
theorem c5_24 : Dls prog_52_method_5_code 24 3 25 := Or.inr ⟨3, (by decide +kernel), rfl, rfl⟩
theorem c5_25 : Dp prog_52_method_5_code 25 0 26 := Or.inl ⟨0, (by decide +kernel), by decide, rfl⟩
theorem c5_26 : Dis prog_52_method_5_code 26 5 28 := Or.inl ⟨(by decide +kernel), rfl⟩
theorem c5_28 : Dp prog_52_method_5_code 28 0 29 := Or.inl ⟨0, (by decide +kernel), by decide, rfl⟩
theorem c5_29 : Dis prog_52_method_5_code 29 6 31 := Or.inl ⟨(by decide +kernel), rfl⟩
theorem c5_31 : Dal prog_52_method_5_code 31 0 32 := Or.inr ⟨0, (by decide +kernel), rfl, rfl⟩
theorem c5_32 : Dc prog_52_method_5_code 32 (.getfield 9) 3 35 := ⟨(by decide +kernel), rfl⟩
theorem c5_35 : Dil prog_52_method_5_code 35 6 37 := Or.inl ⟨(by decide +kernel), rfl⟩
theorem c5_37 : Dil prog_52_method_5_code 37 1 38 := Or.inr ⟨1, (by decide +kernel), rfl, rfl⟩
theorem c5_38 : Dc prog_52_method_5_code 38 (.invokestatic 34) 3 41 := ⟨(by decide +kernel), rfl⟩
theorem c5_41 : Dis prog_52_method_5_code 41 7 43 := Or.inl ⟨(by decide +kernel), rfl⟩
theorem c5_43 : Dil prog_52_method_5_code 43 7 45 := Or.inl ⟨(by decide +kernel), rfl⟩
theorem c5_45 : Db prog_52_method_5_code 45 (.ifCond .lt) 48 93 := ⟨48, (by decide +kernel), rfl, by decide, by decide⟩
theorem c5_48 : Dal prog_52_method_5_code 48 0 49 := Or.inr ⟨0, (by decide +kernel), rfl, rfl⟩
theorem c5_49 : Dc prog_52_method_5_code 49 (.getfield 9) 3 52 := ⟨(by decide +kernel), rfl⟩
theorem c5_52 : Dil prog_52_method_5_code 52 7 54 := Or.inl ⟨(by decide +kernel), rfl⟩
theorem c5_54 : Dc prog_52_method_5_code 54 .aaload 1 55 := ⟨(by decide +kernel), rfl⟩
theorem c5_55 : Dal prog_52_method_5_code 55 2 56 := Or.inr ⟨2, (by decide +kernel), rfl, rfl⟩
theorem c5_56 : Dc prog_52_method_5_code 56 (.invokestatic 30) 3 59 := ⟨(by decide +kernel), rfl⟩
theorem c5_59 : Db prog_52_method_5_code 59 (.ifCond .ne) 62 65 := ⟨6, (by decide +kernel), rfl, by decide, by decide⟩
theorem c5_62 : Db prog_52_method_5_code 62 .goto 65 93 := ⟨31, (by decide +kernel), rfl, by decide, by decide⟩
theorem c5_65 : Dil prog_52_method_5_code 65 7 67 := Or.inl ⟨(by decide +kernel), rfl⟩
theorem c5_67 : Dp prog_52_method_5_code 67 2 68 := Or.inl ⟨2, (by decide +kernel), by decide, rfl⟩
theorem c5_68 : Dil prog_52_method_5_code 68 6 70 := Or.inl ⟨(by decide +kernel), rfl⟩
theorem c5_70 : Dc prog_52_method_5_code 70 .imul 1 71 := ⟨(by decide +kernel), rfl⟩
theorem c5_71 : Dp prog_52_method_5_code 71 1 72 := Or.inl ⟨1, (by decide +kernel), by decide, rfl⟩
theorem c5_72 : Dc prog_52_method_5_code 72 .iadd 1 73 := ⟨(by decide +kernel), rfl⟩
theorem c5_73 : Db prog_52_method_5_code 73 (.if_icmp .eq) 76 83 := ⟨10, (by decide +kernel), rfl, by decide, by decide⟩
theorem c5_76 : Dll prog_52_method_5_code 76 3 77 := Or.inr ⟨3, (by decide +kernel), rfl, rfl⟩
theorem c5_77 : Dlc prog_52_method_5_code 77 1 78 := ⟨1, (by decide +kernel), by decide, rfl⟩
theorem c5_78 : Dil prog_52_method_5_code 78 5 80 := Or.inl ⟨(by decide +kernel), rfl⟩
theorem c5_80 : Dc prog_52_method_5_code 80 .lshl 1 81 := ⟨(by decide +kernel), rfl⟩
theorem c5_81 : Dc prog_52_method_5_code 81 .lor 1 82 := ⟨(by decide +kernel), rfl⟩
theorem c5_82 : Dls prog_52_method_5_code 82 3 83 := Or.inr ⟨3, (by decide +kernel), rfl, rfl⟩
theorem c5_83 : Dil prog_52_method_5_code 83 7 85 := Or.inl ⟨(by decide +kernel), rfl⟩
theorem c5_85 : Dis prog_52_method_5_code 85 6 87 := Or.inl ⟨(by decide +kernel), rfl⟩
theorem c5_87 : Dinc prog_52_method_5_code 87 5 1 90 := ⟨1, (by decide +kernel), by decide, rfl⟩
theorem c5_90 : Db prog_52_method_5_code 90 .goto 93 31 := ⟨(-59), (by decide +kernel), rfl, by decide, by decide⟩
theorem c5_93 : Dal prog_52_method_5_code 93 0 94 := Or.inr ⟨0, (by decide +kernel), rfl, rfl⟩
theorem c5_94 : Dc prog_52_method_5_code 94 (.getfield 9) 3 97 := ⟨(by decide +kernel), rfl⟩
theorem c5_97 : Dp prog_52_method_5_code 97 0 98 := Or.inl ⟨0, (by decide +kernel), by decide, rfl⟩
theorem c5_98 : Dc prog_52_method_5_code 98 .aaload 1 99 := ⟨(by decide +kernel), rfl⟩
theorem c5_99 : Das prog_52_method_5_code 99 7 101 := Or.inl ⟨(by decide +kernel), rfl⟩
theorem c5_101 : Dp prog_52_method_5_code 101 0 102 := Or.inl ⟨0, (by decide +kernel), by decide, rfl⟩
theorem c5_102 : Dis prog_52_method_5_code 102 8 104 := Or.inl ⟨(by decide +kernel), rfl⟩
theorem c5_104 : Dp prog_52_method_5_code 104 0 105 := Or.inl ⟨0, (by decide +kernel), by decide, rfl⟩
theorem c5_105 : Dis prog_52_method_5_code 105 9 107 := Or.inl ⟨(by decide +kernel), rfl⟩
theorem c5_107 : Dil prog_52_method_5_code 107 9 109 := Or.inl ⟨(by decide +kernel), rfl⟩
theorem c5_109 : Dil prog_52_method_5_code 109 5 111 := Or.inl ⟨(by decide +kernel), rfl⟩
theorem c5_111 : Db prog_52_method_5_code 111 (.if_icmp .ge) 114 154 := ⟨43, (by decide +kernel), rfl, by decide, by decide⟩
theorem c5_114 : Dp prog_52_method_5_code 114 2 115 := Or.inl ⟨2, (by decide +kernel), by decide, rfl⟩
theorem c5_115 : Dil prog_52_method_5_code 115 8 117 := Or.inl ⟨(by decide +kernel), rfl⟩
theorem c5_117 : Dc prog_52_method_5_code 117 .imul 1 118 := ⟨(by decide +kernel), rfl⟩
theorem c5_118 : Dp prog_52_method_5_code 118 1 119 := Or.inl ⟨1, (by decide +kernel), by decide, rfl⟩
theorem c5_119 : Dc prog_52_method_5_code 119 .iadd 1 120 := ⟨(by decide +kernel), rfl⟩
theorem c5_120 : Dll prog_52_method_5_code 120 3 121 := Or.inr ⟨3, (by decide +kernel), rfl, rfl⟩
theorem c5_121 : Dil prog_52_method_5_code 121 9 123 := Or.inl ⟨(by decide +kernel), rfl⟩
theorem c5_123 : Dc prog_52_method_5_code 123 .lushr 1 124 := ⟨(by decide +kernel), rfl⟩
theorem c5_124 : Dlc prog_52_method_5_code 124 1 125 := ⟨1, (by decide +kernel), by decide, rfl⟩
theorem c5_125 : Dc prog_52_method_5_code 125 .land 1 126 := ⟨(by decide +kernel), rfl⟩
theorem c5_126 : Dc prog_52_method_5_code 126 .l2i 1 127 := ⟨(by decide +kernel), rfl⟩
theorem c5_127 : Dc prog_52_method_5_code 127 .iadd 1 128 := ⟨(by decide +kernel), rfl⟩
theorem c5_128 : Dis prog_52_method_5_code 128 10 130 := Or.inl ⟨(by decide +kernel), rfl⟩
theorem c5_130 : Dal prog_52_method_5_code 130 0 131 := Or.inr ⟨0, (by decide +kernel), rfl, rfl⟩
theorem c5_131 : Dc prog_52_method_5_code 131 (.getfield 9) 3 134 := ⟨(by decide +kernel), rfl⟩
theorem c5_134 : Dil prog_52_method_5_code 134 8 136 := Or.inl ⟨(by decide +kernel), rfl⟩
theorem c5_136 : Dal prog_52_method_5_code 136 0 137 := Or.inr ⟨0, (by decide +kernel), rfl, rfl⟩
theorem c5_137 : Dc prog_52_method_5_code 137 (.getfield 9) 3 140 := ⟨(by decide +kernel), rfl⟩
theorem c5_140 : Dil prog_52_method_5_code 140 10 142 := Or.inl ⟨(by decide +kernel), rfl⟩
theorem c5_142 : Dc prog_52_method_5_code 142 .aaload 1 143 := ⟨(by decide +kernel), rfl⟩
theorem c5_143 : Dc prog_52_method_5_code 143 .aastore 1 144 := ⟨(by decide +kernel), rfl⟩
theorem c5_144 : Dil prog_52_method_5_code 144 10 146 := Or.inl ⟨(by decide +kernel), rfl⟩
theorem c5_146 : Dis prog_52_method_5_code 146 8 148 := Or.inl ⟨(by decide +kernel), rfl⟩
theorem c5_148 : Dinc prog_52_method_5_code 148 9 1 151 := ⟨1, (by decide +kernel), by decide, rfl⟩
theorem c5_151 : Db prog_52_method_5_code 151 .goto 154 107 := ⟨(-44), (by decide +kernel), rfl, by decide, by decide⟩
theorem c5_154 : Dal prog_52_method_5_code 154 0 155 := Or.inr ⟨0, (by decide +kernel), rfl, rfl⟩
theorem c5_155 : Dc prog_52_method_5_code 155 (.getfield 9) 3 158 := ⟨(by decide +kernel), rfl⟩
theorem c5_158 : Dil prog_52_method_5_code 158 8 160 := Or.inl ⟨(by decide +kernel), rfl⟩
theorem c5_160 : Dal prog_52_method_5_code 160 2 161 := Or.inr ⟨2, (by decide +kernel), rfl, rfl⟩
theorem c5_161 : Dc prog_52_method_5_code 161 .aastore 1 162 := ⟨(by decide +kernel), rfl⟩
theorem c5_162 : Dal prog_52_method_5_code 162 0 163 := Or.inr ⟨0, (by decide +kernel), rfl, rfl⟩
theorem c5_163 : Dc prog_52_method_5_code 163 (.getfield 9) 3 166 := ⟨(by decide +kernel), rfl⟩
theorem c5_166 : Dil prog_52_method_5_code 166 1 167 := Or.inr ⟨1, (by decide +kernel), rfl, rfl⟩
theorem c5_167 : Dc prog_52_method_5_code 167 .aconst_null 1 168 := ⟨(by decide +kernel), rfl⟩
theorem c5_168 : Dc prog_52_method_5_code 168 .aastore 1 169 := ⟨(by decide +kernel), rfl⟩
theorem c5_169 : Dal prog_52_method_5_code 169 0 170 := Or.inr ⟨0, (by decide +kernel), rfl, rfl⟩
theorem c5_170 : Dil prog_52_method_5_code 170 1 171 := Or.inr ⟨1, (by decide +kernel), rfl, rfl⟩
theorem c5_171 : Dc prog_52_method_5_code 171 (.putfield 15) 3 174 := ⟨(by decide +kernel), rfl⟩
theorem c5_174 : Dal prog_52_method_5_code 174 7 176 := Or.inl ⟨(by decide +kernel), rfl⟩
theorem c5_176 : Dc prog_52_method_5_code 176 .areturn 1 177 := ⟨(by decide +kernel), rfl⟩
theorem c0_0 : Dil code 0 0 1 := Or.inr ⟨0, at_0, rfl, rfl⟩
theorem c0_1 : Dp code 1 3 2 := Or.inl ⟨3, at_1, by decide, rfl⟩
theorem c0_2 : Dc code 2 .iand 1 3 := ⟨at_2, rfl⟩
theorem c0_3 : Dis code 3 10 5 := Or.inl ⟨at_3, rfl⟩
theorem c0_5 : Dil code 5 1 6 := Or.inr ⟨1, at_5, rfl, rfl⟩
theorem c0_6 : Dp code 6 3 7 := Or.inl ⟨3, at_6, by decide, rfl⟩
theorem c0_7 : Dc code 7 .iand 1 8 := ⟨at_7, rfl⟩
theorem c0_8 : Dis code 8 11 10 := Or.inl ⟨at_8, rfl⟩
theorem c0_10 : Dc code 10 (.new 7) 3 13 := ⟨at_10, rfl⟩
theorem c0_13 : Dc code 13 .dup 1 14 := ⟨at_13, rfl⟩
theorem c0_14 : Dc code 14 (.invokespecial 9) 3 17 := ⟨at_14, rfl⟩
theorem c0_17 : Das code 17 12 19 := Or.inl ⟨at_17, rfl⟩
theorem c0_19 : Dc code 19 (.new 10) 3 22 := ⟨at_19, rfl⟩
theorem c0_22 : Dc code 22 .dup 1 23 := ⟨at_22, rfl⟩
theorem c0_23 : Dc code 23 .aconst_null 1 24 := ⟨at_23, rfl⟩
theorem c0_24 : Dc code 24 .aconst_null 1 25 := ⟨at_24, rfl⟩
theorem c0_25 : Dll code 25 2 26 := Or.inr ⟨2, at_25, rfl, rfl⟩
theorem c0_26 : Dll code 26 4 28 := Or.inl ⟨at_26, rfl⟩
theorem c0_28 : Dc code 28 (.invokespecial 12) 3 31 := ⟨at_28, rfl⟩
theorem c0_31 : Das code 31 13 33 := Or.inl ⟨at_31, rfl⟩
theorem c0_33 : Dc code 33 (.new 10) 3 36 := ⟨at_33, rfl⟩
theorem c0_36 : Dc code 36 .dup 1 37 := ⟨at_36, rfl⟩
theorem c0_37 : Dc code 37 .aconst_null 1 38 := ⟨at_37, rfl⟩
theorem c0_38 : Dc code 38 .aconst_null 1 39 := ⟨at_38, rfl⟩
theorem c0_39 : Dll code 39 6 41 := Or.inl ⟨at_39, rfl⟩
theorem c0_41 : Dll code 41 8 43 := Or.inl ⟨at_41, rfl⟩
theorem c0_43 : Dc code 43 (.invokespecial 12) 3 46 := ⟨at_43, rfl⟩
theorem c0_46 : Das code 46 14 48 := Or.inl ⟨at_46, rfl⟩
theorem c0_48 : Dil code 48 10 50 := Or.inl ⟨at_48, rfl⟩
theorem c0_50 : Dp code 50 1 51 := Or.inl ⟨1, at_50, by decide, rfl⟩
theorem c0_51 : Db code 51 (.if_icmp .lt) 54 61 := ⟨10, at_51, rfl, by decide, by decide⟩
theorem c0_54 : Dal code 54 12 56 := Or.inl ⟨at_54, rfl⟩
theorem c0_56 : Dal code 56 13 58 := Or.inl ⟨at_56, rfl⟩
theorem c0_58 : Dc code 58 (.invokevirtual 15) 3 61 := ⟨at_58, rfl⟩
theorem c0_61 : Dil code 61 10 63 := Or.inl ⟨at_61, rfl⟩
theorem c0_63 : Dp code 63 2 64 := Or.inl ⟨2, at_63, by decide, rfl⟩
theorem c0_64 : Db code 64 (.if_icmp .lt) 67 74 := ⟨10, at_64, rfl, by decide, by decide⟩
theorem c0_67 : Dal code 67 12 69 := Or.inl ⟨at_67, rfl⟩
theorem c0_69 : Dal code 69 14 71 := Or.inl ⟨at_69, rfl⟩
theorem c0_71 : Dc code 71 (.invokevirtual 15) 3 74 := ⟨at_71, rfl⟩
theorem c0_74 : Dil code 74 10 76 := Or.inl ⟨at_74, rfl⟩
theorem c0_76 : Dp code 76 3 77 := Or.inl ⟨3, at_76, by decide, rfl⟩
theorem c0_77 : Db code 77 (.if_icmp .lt) 80 87 := ⟨10, at_77, rfl, by decide, by decide⟩
theorem c0_80 : Dal code 80 12 82 := Or.inl ⟨at_80, rfl⟩
theorem c0_82 : Dal code 82 13 84 := Or.inl ⟨at_82, rfl⟩
theorem c0_84 : Dc code 84 (.invokevirtual 15) 3 87 := ⟨at_84, rfl⟩
theorem c0_87 : Dal code 87 12 89 := Or.inl ⟨at_87, rfl⟩
theorem c0_89 : Dc code 89 (.invokevirtual 19) 3 92 := ⟨at_89, rfl⟩
theorem c0_92 : Dil code 92 10 94 := Or.inl ⟨at_92, rfl⟩
theorem c0_94 : Db code 94 (.ifCond .ne) 97 101 := ⟨7, at_94, rfl, by decide, by decide⟩
theorem c0_97 : Dp code 97 1 98 := Or.inl ⟨1, at_97, by decide, rfl⟩
theorem c0_98 : Db code 98 .goto 101 102 := ⟨4, at_98, rfl, by decide, by decide⟩
theorem c0_101 : Dp code 101 0 102 := Or.inl ⟨0, at_101, by decide, rfl⟩
theorem c0_102 : Db code 102 (.if_icmp .ne) 105 109 := ⟨7, at_102, rfl, by decide, by decide⟩
theorem c0_105 : Dp code 105 1 106 := Or.inl ⟨1, at_105, by decide, rfl⟩
theorem c0_106 : Db code 106 .goto 109 110 := ⟨4, at_106, rfl, by decide, by decide⟩
theorem c0_109 : Dp code 109 0 110 := Or.inl ⟨0, at_109, by decide, rfl⟩
theorem c0_110 : Dis code 110 15 112 := Or.inl ⟨at_110, rfl⟩
theorem c0_112 : Dil code 112 11 114 := Or.inl ⟨at_112, rfl⟩
theorem c0_114 : Dp code 114 1 115 := Or.inl ⟨1, at_114, by decide, rfl⟩
theorem c0_115 : Db code 115 (.if_icmp .lt) 118 124 := ⟨9, at_115, rfl, by decide, by decide⟩
theorem c0_118 : Dal code 118 12 120 := Or.inl ⟨at_118, rfl⟩
theorem c0_120 : Dc code 120 (.invokevirtual 23) 3 123 := ⟨at_120, rfl⟩
theorem c0_123 : Dc code 123 .pop 1 124 := ⟨at_123, rfl⟩
theorem c0_124 : Dil code 124 11 126 := Or.inl ⟨at_124, rfl⟩
theorem c0_126 : Dp code 126 2 127 := Or.inl ⟨2, at_126, by decide, rfl⟩
theorem c0_127 : Db code 127 (.if_icmp .lt) 130 136 := ⟨9, at_127, rfl, by decide, by decide⟩
theorem c0_130 : Dal code 130 12 132 := Or.inl ⟨at_130, rfl⟩
theorem c0_132 : Dc code 132 (.invokevirtual 23) 3 135 := ⟨at_132, rfl⟩
theorem c0_135 : Dc code 135 .pop 1 136 := ⟨at_135, rfl⟩
theorem c0_136 : Dil code 136 11 138 := Or.inl ⟨at_136, rfl⟩
theorem c0_138 : Dp code 138 3 139 := Or.inl ⟨3, at_138, by decide, rfl⟩
theorem c0_139 : Db code 139 (.if_icmp .lt) 142 148 := ⟨9, at_139, rfl, by decide, by decide⟩
theorem c0_142 : Dal code 142 12 144 := Or.inl ⟨at_142, rfl⟩
theorem c0_144 : Dc code 144 (.invokevirtual 23) 3 147 := ⟨at_144, rfl⟩
theorem c0_147 : Dc code 147 .pop 1 148 := ⟨at_147, rfl⟩
theorem c0_148 : Dal code 148 12 150 := Or.inl ⟨at_148, rfl⟩
theorem c0_150 : Dc code 150 (.invokevirtual 19) 3 153 := ⟨at_150, rfl⟩
theorem c0_153 : Dil code 153 10 155 := Or.inl ⟨at_153, rfl⟩
theorem c0_155 : Dil code 155 11 157 := Or.inl ⟨at_155, rfl⟩
theorem c0_157 : Db code 157 (.if_icmp .gt) 160 164 := ⟨7, at_157, rfl, by decide, by decide⟩
theorem c0_160 : Dp code 160 1 161 := Or.inl ⟨1, at_160, by decide, rfl⟩
theorem c0_161 : Db code 161 .goto 164 165 := ⟨4, at_161, rfl, by decide, by decide⟩
theorem c0_164 : Dp code 164 0 165 := Or.inl ⟨0, at_164, by decide, rfl⟩
theorem c0_165 : Db code 165 (.if_icmp .ne) 168 172 := ⟨7, at_165, rfl, by decide, by decide⟩
theorem c0_168 : Dp code 168 1 169 := Or.inl ⟨1, at_168, by decide, rfl⟩
theorem c0_169 : Db code 169 .goto 172 173 := ⟨4, at_169, rfl, by decide, by decide⟩
theorem c0_172 : Dp code 172 0 173 := Or.inl ⟨0, at_172, by decide, rfl⟩
theorem c0_173 : Dis code 173 16 175 := Or.inl ⟨at_173, rfl⟩
theorem c0_175 : Dil code 175 15 177 := Or.inl ⟨at_175, rfl⟩
theorem c0_177 : Db code 177 (.ifCond .eq) 180 189 := ⟨12, at_177, rfl, by decide, by decide⟩
theorem c0_180 : Dil code 180 16 182 := Or.inl ⟨at_180, rfl⟩
theorem c0_182 : Db code 182 (.ifCond .eq) 185 189 := ⟨7, at_182, rfl, by decide, by decide⟩
theorem c0_185 : Dp code 185 1 186 := Or.inl ⟨1, at_185, by decide, rfl⟩
theorem c0_186 : Db code 186 .goto 189 190 := ⟨4, at_186, rfl, by decide, by decide⟩
theorem c0_189 : Dp code 189 0 190 := Or.inl ⟨0, at_189, by decide, rfl⟩
theorem c0_190 : Dc code 190 .ireturn 1 191 := ⟨at_190, rfl⟩

abbrev own_dl (du od : Int64) : Desc := (.inl ("com/example/umbrella_state/umbrellastate/runtime/Delivery", [(("com/example/umbrella_state/umbrellastate/runtime/Delivery", "handler", "Ljava/util/function/Consumer;"), .null), (("com/example/umbrella_state/umbrellastate/runtime/Delivery", "message", "Lcom/example/umbrella_state/umbrellastate/model/Message;"), .null), (("com/example/umbrella_state/umbrellastate/runtime/Delivery", "due", "J"), (.long du)), (("com/example/umbrella_state/umbrellastate/runtime/Delivery", "order", "J"), (.long od))]))
abbrev own_qo (ha : Value) (sz : Int32) : Desc := (.inl ("com/example/umbrella_state/umbrellastate/runtime/DelayedDeliveries", [(("com/example/umbrella_state/umbrellastate/runtime/DelayedDeliveries", "heap", "[Lcom/example/umbrella_state/umbrellastate/runtime/Delivery;"), ha), (("com/example/umbrella_state/umbrellastate/runtime/DelayedDeliveries", "size", "I"), (.int sz))]))
abbrev own_ar (vs : List Value) : Desc := .inr ((.object "com/example/umbrella_state/umbrellastate/runtime/Delivery"), "[Lcom/example/umbrella_state/umbrellastate/runtime/Delivery;", vs)
def own_bf (d1 o1 d2 o2 : Int64) : Int32 := if d1 < d2 then 1 else if d1 = d2 then (if o1 < o2 then 1 else 0) else 0
theorem own_bf0 (d1 o1 d2 o2 : Int64) : own_bf d1 o1 d2 o2 = 0 ↔ ¬ (d1.toInt < d2.toInt ∨ (d1.toInt = d2.toInt ∧ o1.toInt < o2.toInt)) := by
  unfold own_bf
  rw [← Int64.lt_iff_toInt_lt, ← Int64.lt_iff_toInt_lt, Int64.toInt_inj]
  by_cases a : d1 < d2
  · simp [a]
  · by_cases b : d1 = d2
    · by_cases c : o1 < o2 <;> simp [a, b, c]
    · simp [a, b]
def own_isz (z : Int32) : Int32 := if z = 0 then 1 else 0
def own_par (z : Int32) : Int32 := XT.ushr (z - 1) 1
set_option maxRecDepth 65536 in
set_option maxHeartbeats 4000000 in
theorem rm_D (l : Launch) (Z : State) (a0 : Array Value) (hw : ∀ d ∈ tables_1, d.before a0 Z = true) (h0 : Heap) (n0 : Nat) (M : List (Addr × Desc)) (a : Addr) (du od : Int64) (P0 : Hp Z n0 h0 ((a, own_dl 0 0) :: M)) :
    Con false l Z (⟨"com/example/umbrella_state/umbrellastate/runtime/Delivery", "<init>", "(Ljava/util/function/Consumer;Lcom/example/umbrella_state/umbrellastate/model/Message;JJ)V"⟩ : MethodName) prog_54_method_1_code 7 none ({ frames := 1, cells := 0, slots := 0, locals := 12 } : Room) #[(.ref a), .null, .null, (.long du), (.long od)] h0 n0 (R0 fun h' => Hp Z n0 h' ((a, own_dl du od) :: M)) := by
  refine con_of (ls := [.val (.ref a), .val .null, .val .null, .val (.long du), .second, .val (.long od), .second]) (plainFor_of_name pn0) rfl ?_
  refine go_aload c3_0 rfl rfl ?_
  refine go_initO (y := (⟨"com/example/umbrella_state/umbrellastate/runtime/Delivery", "<init>", "(Ljava/util/function/Consumer;Lcom/example/umbrella_state/umbrellastate/model/Message;JJ)V"⟩ : MethodName)) (W := 0) c3_1 (t19 hw) (t7 hw) (t8 hw) rfl (by decide) rfl (by decide) ?_
  refine go_aload c3_4 rfl rfl ?_
  refine go_aload c3_5 rfl rfl ?_
  refine go_put (y := (⟨"com/example/umbrella_state/umbrellastate/runtime/Delivery", "<init>", "(Ljava/util/function/Consumer;Lcom/example/umbrella_state/umbrellastate/model/Message;JJ)V"⟩ : MethodName)) P0 0 0 (.object "java/util/function/Consumer") c3_6 rfl rfl (t20 hw) (Or.inl (t21 hw)) (t14 hw) (by decide) rfl rfl ?_
  intro h1 P2
  dsimp only [lupd] at P2
  refine go_aload c3_9 rfl rfl ?_
  refine go_aload c3_10 rfl rfl ?_
  refine go_put (y := (⟨"com/example/umbrella_state/umbrellastate/runtime/Delivery", "<init>", "(Ljava/util/function/Consumer;Lcom/example/umbrella_state/umbrellastate/model/Message;JJ)V"⟩ : MethodName)) P2 0 1 (.object "com/example/umbrella_state/umbrellastate/model/Message") c3_11 rfl rfl (t22 hw) (Or.inl (t23 hw)) (t14 hw) (by decide) rfl rfl ?_
  intro h3 P4
  dsimp only [lupd] at P4
  refine go_aload c3_14 rfl rfl ?_
  refine go_lload c3_15 rfl ?_
  refine go_put (y := (⟨"com/example/umbrella_state/umbrellastate/runtime/Delivery", "<init>", "(Ljava/util/function/Consumer;Lcom/example/umbrella_state/umbrellastate/model/Message;JJ)V"⟩ : MethodName)) P4 0 2 .long c3_16 rfl rfl (t24 hw) (Or.inr ⟨(t25 hw), rfl, rfl⟩) (t14 hw) (by decide) rfl rfl ?_
  intro h5 P6
  dsimp only [lupd] at P6
  refine go_aload c3_19 rfl rfl ?_
  refine go_lload c3_20 rfl ?_
  refine go_put (y := (⟨"com/example/umbrella_state/umbrellastate/runtime/Delivery", "<init>", "(Ljava/util/function/Consumer;Lcom/example/umbrella_state/umbrellastate/model/Message;JJ)V"⟩ : MethodName)) P6 0 3 .long c3_22 rfl rfl (t26 hw) (Or.inr ⟨(t27 hw), rfl, rfl⟩) (t14 hw) (by decide) rfl rfl ?_
  intro h7 P8
  dsimp only [lupd] at P8
  exact go_ret rfl c3_25 (by decide) (by decide) ⟨rfl, P8⟩
set_option maxRecDepth 65536 in
set_option maxHeartbeats 4000000 in
theorem rm_Q (l : Launch) (Z : State) (a0 : Array Value) (hw : ∀ d ∈ tables_1, d.before a0 Z = true) (h0 : Heap) (n0 : Nat) (M : List (Addr × Desc)) (q : Addr) (P0 : Hp Z n0 h0 ((q, own_qo .null 0) :: M)) :
    Con false l Z (⟨"com/example/umbrella_state/umbrellastate/runtime/DelayedDeliveries", "<init>", "()V"⟩ : MethodName) prog_52_method_1_code 1 none ({ frames := 1, cells := 1, slots := 8, locals := 12 } : Room) #[(.ref q)] h0 n0 (R0 fun h' => ∃ ha, Hp Z n0 h' ((q, own_qo (.ref ha) 0) :: (ha, own_ar [.null, .null, .null, .null, .null, .null, .null, .null]) :: M)) := by
  refine con_of (ls := [.val (.ref q)]) (plainFor_of_name pn1) rfl ?_
  refine go_aload c1_0 rfl rfl ?_
  refine go_initO (y := (⟨"com/example/umbrella_state/umbrellastate/runtime/DelayedDeliveries", "<init>", "()V"⟩ : MethodName)) (W := 0) c1_1 (t6 hw) (t7 hw) (t8 hw) rfl (by decide) rfl (by decide) ?_
  refine go_aload c1_4 rfl rfl ?_
  refine go_push c1_5 ?_
  refine go_newobjarr (y := (⟨"com/example/umbrella_state/umbrellastate/runtime/DelayedDeliveries", "<init>", "()V"⟩ : MethodName)) P0 "[Lcom/example/umbrella_state/umbrellastate/runtime/Delivery;" [.null, .null, .null, .null, .null, .null, .null, .null] 8 c1_7 (t9 hw) (t10 hw) (by decide) (by decide) (by decide) (by decide) rfl (by decide) (by decide) ?_
  intro h1 a3 P2
  refine go_more (k' := 1) (n' := 8) (by decide) (by decide) ?_
  refine go_put (y := (⟨"com/example/umbrella_state/umbrellastate/runtime/DelayedDeliveries", "<init>", "()V"⟩ : MethodName)) P2 1 0 (.array (.object "com/example/umbrella_state/umbrellastate/runtime/Delivery")) c1_10 rfl rfl (t11 hw) (Or.inl (t12 hw)) (t1 hw) (by decide) rfl rfl ?_
  intro h4 P5
  dsimp only [lupd] at P5
  exact go_ret rfl c1_13 (by decide) (by decide) ⟨rfl, _, P5.front 1⟩
set_option maxRecDepth 65536 in
set_option maxHeartbeats 4000000 in
theorem rm_par (l : Launch) (Z : State) (a0 : Array Value) (hw : ∀ d ∈ tables_1, d.before a0 Z = true) (h0 : Heap) (n0 : Nat) (z : Int32) :
    Con false l Z (⟨"com/example/umbrella_state/umbrellastate/runtime/DelayedDeliveries", "parentOf", "(I)I"⟩ : MethodName) prog_52_method_11_code 1 (some .int) ({ frames := 0, cells := 0, slots := 0, locals := 0 } : Room) #[(.int z)] h0 n0 (Ret (.int (own_par z)) h0) := by
  refine con_of (ls := [.val (.int z)]) (plainFor_of_name pn1) rfl ?_
  refine go_iload c7_0 rfl ?_
  refine go_push c7_1 ?_
  refine go_isub c7_2 ?_
  refine go_push c7_3 ?_
  refine go_iushr c7_4 ?_
  exact go_iret rfl c7_5 (by decide) (by decide) ⟨_, rfl, rfl, rfl⟩
set_option maxRecDepth 65536 in
set_option maxHeartbeats 4000000 in
theorem rm_gb (l : Launch) (Z : State) (a0 : Array Value) (hw : ∀ d ∈ tables_1, d.before a0 Z = true) (h0 : Heap) (n0 : Nat) (L₀ : List (Addr × Desc)) (i j : Nat) (x y : Addr) (d1 o1 d2 o2 : Int64) (hx : L₀[i]? = some (x, own_dl d1 o1)) (hy : L₀[j]? = some (y, own_dl d2 o2)) (P0 : Hp Z n0 h0 L₀) :
    Con false l Z (⟨"com/example/umbrella_state/umbrellastate/runtime/DelayedDeliveries", "goesBefore", "(Lcom/example/umbrella_state/umbrellastate/runtime/Delivery;Lcom/example/umbrella_state/umbrellastate/runtime/Delivery;)Z"⟩ : MethodName) prog_52_method_10_code 2 (some .boolean) ({ frames := 0, cells := 0, slots := 0, locals := 0 } : Room) #[(.ref x), (.ref y)] h0 n0 (Ret (.int (own_bf d1 o1 d2 o2)) h0) := by
  refine con_of (ls := [.val (.ref x), .val (.ref y)]) (plainFor_of_name pn1) rfl ?_
  refine go_aload c8_0 rfl rfl ?_
  refine go_get (y := (⟨"com/example/umbrella_state/umbrellastate/runtime/DelayedDeliveries", "goesBefore", "(Lcom/example/umbrella_state/umbrellastate/runtime/Delivery;Lcom/example/umbrella_state/umbrellastate/runtime/Delivery;)Z"⟩ : MethodName)) P0 (i) 2 c8_1 hx rfl (t52 hw) ?_
  refine go_aload c8_4 rfl rfl ?_
  refine go_get (y := (⟨"com/example/umbrella_state/umbrellastate/runtime/DelayedDeliveries", "goesBefore", "(Lcom/example/umbrella_state/umbrellastate/runtime/Delivery;Lcom/example/umbrella_state/umbrellastate/runtime/Delivery;)Z"⟩ : MethodName)) P0 (j) 2 c8_5 hy rfl (t52 hw) ?_
  refine go_lcmp c8_8 ?_
  refine go_lc_lt c8_9 (fun b9 => ?_) (fun b9 => ?_)
  · refine go_push c8_36 ?_
    refine go_goto c8_37 ?_
    exact go_bret rfl c8_41 (by decide) (by decide) (by decide) ⟨_, rfl, by simp [own_bf, *], rfl⟩
  · refine go_aload c8_12 rfl rfl ?_
    refine go_get (y := (⟨"com/example/umbrella_state/umbrellastate/runtime/DelayedDeliveries", "goesBefore", "(Lcom/example/umbrella_state/umbrellastate/runtime/Delivery;Lcom/example/umbrella_state/umbrellastate/runtime/Delivery;)Z"⟩ : MethodName)) P0 (i) 2 c8_13 hx rfl (t52 hw) ?_
    refine go_aload c8_16 rfl rfl ?_
    refine go_get (y := (⟨"com/example/umbrella_state/umbrellastate/runtime/DelayedDeliveries", "goesBefore", "(Lcom/example/umbrella_state/umbrellastate/runtime/Delivery;Lcom/example/umbrella_state/umbrellastate/runtime/Delivery;)Z"⟩ : MethodName)) P0 (j) 2 c8_17 hy rfl (t52 hw) ?_
    refine go_lcmp c8_20 ?_
    refine go_lc_ne c8_21 (fun b21 => ?_) (fun b21 => ?_)
    · refine go_push c8_40 ?_
      exact go_bret rfl c8_41 (by decide) (by decide) (by decide) ⟨_, rfl, by simp [own_bf, *], rfl⟩
    · refine go_aload c8_24 rfl rfl ?_
      refine go_get (y := (⟨"com/example/umbrella_state/umbrellastate/runtime/DelayedDeliveries", "goesBefore", "(Lcom/example/umbrella_state/umbrellastate/runtime/Delivery;Lcom/example/umbrella_state/umbrellastate/runtime/Delivery;)Z"⟩ : MethodName)) P0 (i) 3 c8_25 hx rfl (t56 hw) ?_
      refine go_aload c8_28 rfl rfl ?_
      refine go_get (y := (⟨"com/example/umbrella_state/umbrellastate/runtime/DelayedDeliveries", "goesBefore", "(Lcom/example/umbrella_state/umbrellastate/runtime/Delivery;Lcom/example/umbrella_state/umbrellastate/runtime/Delivery;)Z"⟩ : MethodName)) P0 (j) 3 c8_29 hy rfl (t56 hw) ?_
      refine go_lcmp c8_32 ?_
      refine go_lc_ge c8_33 (fun b33 => ?_) (fun b33 => ?_)
      · refine go_push c8_40 ?_
        exact go_bret rfl c8_41 (by decide) (by decide) (by decide) ⟨_, rfl, by simp [own_bf, *], rfl⟩
      · refine go_push c8_36 ?_
        refine go_goto c8_37 ?_
        exact go_bret rfl c8_41 (by decide) (by decide) (by decide) ⟨_, rfl, by simp [own_bf, *], rfl⟩
set_option maxRecDepth 65536 in
set_option maxHeartbeats 4000000 in
theorem rm_E (l : Launch) (Z : State) (a0 : Array Value) (hw : ∀ d ∈ tables_1, d.before a0 Z = true) (h0 : Heap) (n0 : Nat) (M : List (Addr × Desc)) (q : Addr) (hv : Value) (sz : Int32) (P0 : Hp Z n0 h0 ((q, own_qo hv sz) :: M)) :
    Con false l Z (⟨"com/example/umbrella_state/umbrellastate/runtime/DelayedDeliveries", "isEmpty", "()Z"⟩ : MethodName) prog_52_method_2_code 1 (some .boolean) ({ frames := 0, cells := 0, slots := 0, locals := 0 } : Room) #[(.ref q)] h0 n0 (Ret (.int (own_isz sz)) h0) := by
  refine con_of (ls := [.val (.ref q)]) (plainFor_of_name pn1) rfl ?_
  refine go_aload c4_0 rfl rfl ?_
  refine go_get (y := (⟨"com/example/umbrella_state/umbrellastate/runtime/DelayedDeliveries", "isEmpty", "()Z"⟩ : MethodName)) P0 (0) 1 c4_1 rfl rfl (t33 hw) ?_
  refine go_if_ne c4_4 (fun b4 => ?_) (fun b4 => ?_)
  · refine go_push c4_11 ?_
    exact go_bret rfl c4_12 (by decide) (by decide) (by decide) ⟨_, rfl, by simp [own_isz, *], rfl⟩
  · refine go_push c4_7 ?_
    refine go_goto c4_8 ?_
    exact go_bret rfl c4_12 (by decide) (by decide) (by decide) ⟨_, rfl, by simp [own_isz, *], rfl⟩
set_option maxRecDepth 65536 in
set_option maxHeartbeats 4000000 in
theorem rm_A0 (l : Launch) (Z : State) (a0 : Array Value) (hw : ∀ d ∈ tables_1, d.before a0 Z = true) (h0 : Heap) (n0 : Nat) (M : List (Addr × Desc)) (q ha d : Addr) (i : Nat) (d1 o1 : Int64) (hd : M[i]? = some (d, own_dl d1 o1)) (P0 : Hp Z n0 h0 ((q, own_qo (.ref ha) 0) :: (ha, own_ar [.null, .null, .null, .null, .null, .null, .null, .null]) :: M)) :
    Con false l Z (⟨"com/example/umbrella_state/umbrellastate/runtime/DelayedDeliveries", "add", "(Lcom/example/umbrella_state/umbrellastate/runtime/Delivery;)V"⟩ : MethodName) prog_52_method_4_code 5 none ({ frames := 1, cells := 0, slots := 0, locals := 20 } : Room) #[(.ref q), (.ref d)] h0 n0 (R0 fun h' => Hp Z n0 h' ((q, own_qo (.ref ha) 1) :: (ha, own_ar [(.ref d), .null, .null, .null, .null, .null, .null, .null]) :: M)) := by
  refine con_of (ls := [.val (.ref q), .val (.ref d), .unset, .unset, .unset]) (plainFor_of_name pn1) rfl ?_
  refine go_aload c6_0 rfl rfl ?_
  refine go_get (y := (⟨"com/example/umbrella_state/umbrellastate/runtime/DelayedDeliveries", "add", "(Lcom/example/umbrella_state/umbrellastate/runtime/Delivery;)V"⟩ : MethodName)) P0 (0) 1 c6_1 rfl rfl (t33 hw) ?_
  refine go_aload c6_4 rfl rfl ?_
  refine go_get (y := (⟨"com/example/umbrella_state/umbrellastate/runtime/DelayedDeliveries", "add", "(Lcom/example/umbrella_state/umbrellastate/runtime/Delivery;)V"⟩ : MethodName)) P0 (0) 0 c6_5 rfl rfl (t11 hw) ?_
  refine go_alen (z := 8) P0 (1) c6_8 rfl rfl ?_
  refine go_icmp_ne c6_9 (fun _ => ?_) (fun q => absurd q (by decide))
  refine go_aload c6_32 rfl rfl ?_
  refine go_get (y := (⟨"com/example/umbrella_state/umbrellastate/runtime/DelayedDeliveries", "add", "(Lcom/example/umbrella_state/umbrellastate/runtime/Delivery;)V"⟩ : MethodName)) P0 (0) 1 c6_33 rfl rfl (t33 hw) ?_
  refine go_istore c6_36 rfl rfl ?_
  dsimp only [setl]
  refine go_iload c6_37 rfl ?_
  refine go_if_le c6_38 (fun _ => ?_) (fun q => absurd q (by decide))
  refine go_aload c6_65 rfl rfl ?_
  refine go_get (y := (⟨"com/example/umbrella_state/umbrellastate/runtime/DelayedDeliveries", "add", "(Lcom/example/umbrella_state/umbrellastate/runtime/Delivery;)V"⟩ : MethodName)) P0 (0) 1 c6_66 rfl rfl (t33 hw) ?_
  refine go_istore c6_69 rfl rfl ?_
  dsimp only [setl]
  refine go_iload c6_70 rfl ?_
  refine go_iload c6_71 rfl ?_
  refine go_icmp_le c6_72 (fun _ => ?_) (fun q => absurd q (by decide))
  refine go_aload c6_101 rfl rfl ?_
  refine go_get (y := (⟨"com/example/umbrella_state/umbrellastate/runtime/DelayedDeliveries", "add", "(Lcom/example/umbrella_state/umbrellastate/runtime/Delivery;)V"⟩ : MethodName)) P0 (0) 0 c6_102 rfl rfl (t11 hw) ?_
  refine go_iload c6_105 rfl ?_
  refine go_aload c6_106 rfl rfl ?_
  refine go_aastoreH P0 1 c6_107 rfl rfl rfl (by decide) (Nat.le_of_ble_eq_true rfl) (P0.sto (i := 1) (j := i + 2) rfl hd) ?_
  intro h1 P2
  dsimp only [lupd] at P2
  refine go_aload c6_108 rfl rfl ?_
  refine go_dup c6_109 rfl ?_
  refine go_get (y := (⟨"com/example/umbrella_state/umbrellastate/runtime/DelayedDeliveries", "add", "(Lcom/example/umbrella_state/umbrellastate/runtime/Delivery;)V"⟩ : MethodName)) P2 (0) 1 c6_110 rfl rfl (t33 hw) ?_
  refine go_push c6_113 ?_
  refine go_iadd c6_114 ?_
  refine go_isI 1 (by decide) ?_
  refine go_put (y := (⟨"com/example/umbrella_state/umbrellastate/runtime/DelayedDeliveries", "add", "(Lcom/example/umbrella_state/umbrellastate/runtime/Delivery;)V"⟩ : MethodName)) P2 0 1 .int c6_115 rfl rfl (t33 hw) (Or.inl (t34 hw)) (t1 hw) (by decide) rfl rfl ?_
  intro h3 P4
  dsimp only [lupd] at P4
  exact go_ret rfl c6_118 (by decide) (by decide) ⟨rfl, P4⟩
set_option maxRecDepth 65536 in
set_option maxHeartbeats 4000000 in
theorem rm_A1 (l : Launch) (Z : State) (a0 : Array Value) (hw : ∀ d ∈ tables_1, d.before a0 Z = true) (h0 : Heap) (n0 : Nat) (M : List (Addr × Desc)) (q ha d : Addr) (i : Nat) (d1 o1 : Int64) (hd : M[i]? = some (d, own_dl d1 o1)) (j : Nat) (x : Addr) (d2 o2 : Int64) (hx : M[j]? = some (x, own_dl d2 o2)) (P0 : Hp Z n0 h0 ((q, own_qo (.ref ha) 1) :: (ha, own_ar [(.ref x), .null, .null, .null, .null, .null, .null, .null]) :: M)) :
    Con false l Z (⟨"com/example/umbrella_state/umbrellastate/runtime/DelayedDeliveries", "add", "(Lcom/example/umbrella_state/umbrellastate/runtime/Delivery;)V"⟩ : MethodName) prog_52_method_4_code 5 none ({ frames := 1, cells := 0, slots := 0, locals := 20 } : Room) #[(.ref q), (.ref d)] h0 n0 (R0 fun h' => (¬ own_bf d1 o1 d2 o2 = 0 ∧ Hp Z n0 h' ((q, own_qo (.ref ha) 2) :: (ha, own_ar [(.ref d), (.ref x), .null, .null, .null, .null, .null, .null]) :: M)) ∨ (own_bf d1 o1 d2 o2 = 0 ∧ Hp Z n0 h' ((q, own_qo (.ref ha) 2) :: (ha, own_ar [(.ref x), (.ref d), .null, .null, .null, .null, .null, .null]) :: M))) := by
  refine con_of (ls := [.val (.ref q), .val (.ref d), .unset, .unset, .unset]) (plainFor_of_name pn1) rfl ?_
  refine go_aload c6_0 rfl rfl ?_
  refine go_get (y := (⟨"com/example/umbrella_state/umbrellastate/runtime/DelayedDeliveries", "add", "(Lcom/example/umbrella_state/umbrellastate/runtime/Delivery;)V"⟩ : MethodName)) P0 (0) 1 c6_1 rfl rfl (t33 hw) ?_
  refine go_aload c6_4 rfl rfl ?_
  refine go_get (y := (⟨"com/example/umbrella_state/umbrellastate/runtime/DelayedDeliveries", "add", "(Lcom/example/umbrella_state/umbrellastate/runtime/Delivery;)V"⟩ : MethodName)) P0 (0) 0 c6_5 rfl rfl (t11 hw) ?_
  refine go_alen (z := 8) P0 (1) c6_8 rfl rfl ?_
  refine go_icmp_ne c6_9 (fun _ => ?_) (fun q => absurd q (by decide))
  refine go_aload c6_32 rfl rfl ?_
  refine go_get (y := (⟨"com/example/umbrella_state/umbrellastate/runtime/DelayedDeliveries", "add", "(Lcom/example/umbrella_state/umbrellastate/runtime/Delivery;)V"⟩ : MethodName)) P0 (0) 1 c6_33 rfl rfl (t33 hw) ?_
  refine go_istore c6_36 rfl rfl ?_
  dsimp only [setl]
  refine go_iload c6_37 rfl ?_
  refine go_if_le c6_38 (fun q => absurd q (by decide)) (fun _ => ?_)
  refine go_aload c6_41 rfl rfl ?_
  refine go_aload c6_42 rfl rfl ?_
  refine go_get (y := (⟨"com/example/umbrella_state/umbrellastate/runtime/DelayedDeliveries", "add", "(Lcom/example/umbrella_state/umbrellastate/runtime/Delivery;)V"⟩ : MethodName)) P0 (0) 0 c6_43 rfl rfl (t11 hw) ?_
  refine go_iload c6_46 rfl ?_
  refine go_callS1 (y := (⟨"com/example/umbrella_state/umbrellastate/runtime/DelayedDeliveries", "add", "(Lcom/example/umbrella_state/umbrellastate/runtime/Delivery;)V"⟩ : MethodName)) (W := 2) (argsL := [(.int 1)]) (st := [(.ref ha), (.ref d)]) c6_47 (rm_par l Z a0 hw h0 n0 1) (t46 hw) (t47 hw) (t2 hw) (t48 hw) (by decide) (lenOf pd0 rfl) rfl rfl (by decide) (by decide) (by decide) (by decide) rfl ?_
  rintro _ _ ⟨rfl, rfl⟩
  refine go_more (k' := 0) (n' := 0) (by decide) (by decide) ?_
  refine go_isI 0 (by decide) ?_
  refine go_aaloadH P0 (1) c6_50 rfl rfl (by decide) rfl ?_
  refine go_callS1 (y := (⟨"com/example/umbrella_state/umbrellastate/runtime/DelayedDeliveries", "add", "(Lcom/example/umbrella_state/umbrellastate/runtime/Delivery;)V"⟩ : MethodName)) (W := 0) (argsL := [(.ref d), (.ref x)]) (st := []) c6_51 (rm_gb l Z a0 hw h0 n0 _ (i + 2) (j + 2) d x d1 o1 d2 o2 hd hx P0) (t49 hw) (t50 hw) (t2 hw) (t51 hw) (by decide) (lenOf pd1 rfl) rfl rfl (by decide) (by decide) (by decide) (by decide) rfl ?_
  rintro _ _ ⟨rfl, rfl⟩
  refine go_more (k' := 0) (n' := 0) (by decide) (by decide) ?_
  refine go_if_eq c6_54 (fun b54 => ?_) (fun b54 => ?_)
  · refine go_aload c6_65 rfl rfl ?_
    refine go_get (y := (⟨"com/example/umbrella_state/umbrellastate/runtime/DelayedDeliveries", "add", "(Lcom/example/umbrella_state/umbrellastate/runtime/Delivery;)V"⟩ : MethodName)) P0 (0) 1 c6_66 rfl rfl (t33 hw) ?_
    refine go_istore c6_69 rfl rfl ?_
    dsimp only [setl]
    refine go_iload c6_70 rfl ?_
    refine go_iload c6_71 rfl ?_
    refine go_icmp_le c6_72 (fun _ => ?_) (fun q => absurd q (by decide))
    refine go_aload c6_101 rfl rfl ?_
    refine go_get (y := (⟨"com/example/umbrella_state/umbrellastate/runtime/DelayedDeliveries", "add", "(Lcom/example/umbrella_state/umbrellastate/runtime/Delivery;)V"⟩ : MethodName)) P0 (0) 0 c6_102 rfl rfl (t11 hw) ?_
    refine go_iload c6_105 rfl ?_
    refine go_aload c6_106 rfl rfl ?_
    refine go_aastoreH P0 1 c6_107 rfl rfl rfl (by decide) (Nat.le_of_ble_eq_true rfl) (P0.sto (i := 1) (j := i + 2) rfl hd) ?_
    intro h1 P2
    dsimp only [lupd] at P2
    refine go_aload c6_108 rfl rfl ?_
    refine go_dup c6_109 rfl ?_
    refine go_get (y := (⟨"com/example/umbrella_state/umbrellastate/runtime/DelayedDeliveries", "add", "(Lcom/example/umbrella_state/umbrellastate/runtime/Delivery;)V"⟩ : MethodName)) P2 (0) 1 c6_110 rfl rfl (t33 hw) ?_
    refine go_push c6_113 ?_
    refine go_iadd c6_114 ?_
    refine go_isI 2 (by decide) ?_
    refine go_put (y := (⟨"com/example/umbrella_state/umbrellastate/runtime/DelayedDeliveries", "add", "(Lcom/example/umbrella_state/umbrellastate/runtime/Delivery;)V"⟩ : MethodName)) P2 0 1 .int c6_115 rfl rfl (t33 hw) (Or.inl (t34 hw)) (t1 hw) (by decide) rfl rfl ?_
    intro h3 P4
    dsimp only [lupd] at P4
    exact go_ret rfl c6_118 (by decide) (by decide) ⟨rfl, Or.inr ⟨b54, P4⟩⟩
  · refine go_iload c6_57 rfl ?_
    refine go_callS1 (y := (⟨"com/example/umbrella_state/umbrellastate/runtime/DelayedDeliveries", "add", "(Lcom/example/umbrella_state/umbrellastate/runtime/Delivery;)V"⟩ : MethodName)) (W := 0) (argsL := [(.int 1)]) (st := []) c6_58 (rm_par l Z a0 hw h0 n0 1) (t46 hw) (t47 hw) (t2 hw) (t48 hw) (by decide) (lenOf pd0 rfl) rfl rfl (by decide) (by decide) (by decide) (by decide) rfl ?_
    rintro _ _ ⟨rfl, rfl⟩
    refine go_more (k' := 0) (n' := 0) (by decide) (by decide) ?_
    refine go_isI 0 (by decide) ?_
    refine go_istore c6_61 rfl rfl ?_
    dsimp only [setl]
    refine go_goto c6_62 ?_
    refine go_iload c6_37 rfl ?_
    refine go_if_le c6_38 (fun _ => ?_) (fun q => absurd q (by decide))
    refine go_aload c6_65 rfl rfl ?_
    refine go_get (y := (⟨"com/example/umbrella_state/umbrellastate/runtime/DelayedDeliveries", "add", "(Lcom/example/umbrella_state/umbrellastate/runtime/Delivery;)V"⟩ : MethodName)) P0 (0) 1 c6_66 rfl rfl (t33 hw) ?_
    refine go_istore c6_69 rfl rfl ?_
    dsimp only [setl]
    refine go_iload c6_70 rfl ?_
    refine go_iload c6_71 rfl ?_
    refine go_icmp_le c6_72 (fun q => absurd q (by decide)) (fun _ => ?_)
    refine go_iload c6_75 rfl ?_
    refine go_push c6_76 ?_
    refine go_isub c6_77 ?_
    refine go_isI 0 (by decide) ?_
    refine go_push c6_78 ?_
    refine go_iushr c6_79 ?_
    refine go_isI 0 (by decide) ?_
    refine go_istore c6_80 rfl rfl ?_
    dsimp only [setl]
    refine go_aload c6_82 rfl rfl ?_
    refine go_get (y := (⟨"com/example/umbrella_state/umbrellastate/runtime/DelayedDeliveries", "add", "(Lcom/example/umbrella_state/umbrellastate/runtime/Delivery;)V"⟩ : MethodName)) P0 (0) 0 c6_83 rfl rfl (t11 hw) ?_
    refine go_iload c6_86 rfl ?_
    refine go_aload c6_87 rfl rfl ?_
    refine go_get (y := (⟨"com/example/umbrella_state/umbrellastate/runtime/DelayedDeliveries", "add", "(Lcom/example/umbrella_state/umbrellastate/runtime/Delivery;)V"⟩ : MethodName)) P0 (0) 0 c6_88 rfl rfl (t11 hw) ?_
    refine go_iload c6_91 rfl ?_
    refine go_aaloadH P0 (1) c6_93 rfl rfl (by decide) rfl ?_
    refine go_aastoreH P0 1 c6_94 rfl rfl rfl (by decide) (Nat.le_of_ble_eq_true rfl) (P0.sto (i := 1) (j := j + 2) rfl hx) ?_
    intro h5 P6
    dsimp only [lupd] at P6
    refine go_iload c6_95 rfl ?_
    refine go_istore c6_97 rfl rfl ?_
    dsimp only [setl]
    refine go_goto c6_98 ?_
    refine go_iload c6_70 rfl ?_
    refine go_iload c6_71 rfl ?_
    refine go_icmp_le c6_72 (fun _ => ?_) (fun q => absurd q (by decide))
    refine go_aload c6_101 rfl rfl ?_
    refine go_get (y := (⟨"com/example/umbrella_state/umbrellastate/runtime/DelayedDeliveries", "add", "(Lcom/example/umbrella_state/umbrellastate/runtime/Delivery;)V"⟩ : MethodName)) P6 (0) 0 c6_102 rfl rfl (t11 hw) ?_
    refine go_iload c6_105 rfl ?_
    refine go_aload c6_106 rfl rfl ?_
    refine go_aastoreH P6 1 c6_107 rfl rfl rfl (by decide) (Nat.le_of_ble_eq_true rfl) (P6.sto (i := 1) (j := i + 2) rfl hd) ?_
    intro h7 P8
    dsimp only [lupd] at P8
    refine go_aload c6_108 rfl rfl ?_
    refine go_dup c6_109 rfl ?_
    refine go_get (y := (⟨"com/example/umbrella_state/umbrellastate/runtime/DelayedDeliveries", "add", "(Lcom/example/umbrella_state/umbrellastate/runtime/Delivery;)V"⟩ : MethodName)) P8 (0) 1 c6_110 rfl rfl (t33 hw) ?_
    refine go_push c6_113 ?_
    refine go_iadd c6_114 ?_
    refine go_isI 2 (by decide) ?_
    refine go_put (y := (⟨"com/example/umbrella_state/umbrellastate/runtime/DelayedDeliveries", "add", "(Lcom/example/umbrella_state/umbrellastate/runtime/Delivery;)V"⟩ : MethodName)) P8 0 1 .int c6_115 rfl rfl (t33 hw) (Or.inl (t34 hw)) (t1 hw) (by decide) rfl rfl ?_
    intro h9 P10
    dsimp only [lupd] at P10
    exact go_ret rfl c6_118 (by decide) (by decide) ⟨rfl, Or.inl ⟨b54, P10⟩⟩
set_option maxRecDepth 65536 in
set_option maxHeartbeats 4000000 in
theorem rm_A2 (l : Launch) (Z : State) (a0 : Array Value) (hw : ∀ d ∈ tables_1, d.before a0 Z = true) (h0 : Heap) (n0 : Nat) (M : List (Addr × Desc)) (q ha d : Addr) (i : Nat) (d1 o1 : Int64) (hd : M[i]? = some (d, own_dl d1 o1)) (j : Nat) (x : Addr) (d2 o2 : Int64) (hx : M[j]? = some (x, own_dl d2 o2)) (y : Addr) (P0 : Hp Z n0 h0 ((q, own_qo (.ref ha) 2) :: (ha, own_ar [(.ref x), (.ref y), .null, .null, .null, .null, .null, .null]) :: M)) :
    Con false l Z (⟨"com/example/umbrella_state/umbrellastate/runtime/DelayedDeliveries", "add", "(Lcom/example/umbrella_state/umbrellastate/runtime/Delivery;)V"⟩ : MethodName) prog_52_method_4_code 5 none ({ frames := 1, cells := 0, slots := 0, locals := 20 } : Room) #[(.ref q), (.ref d)] h0 n0 (R0 fun h' => (¬ own_bf d1 o1 d2 o2 = 0 ∧ Hp Z n0 h' ((q, own_qo (.ref ha) 3) :: (ha, own_ar [(.ref d), (.ref y), (.ref x), .null, .null, .null, .null, .null]) :: M)) ∨ (own_bf d1 o1 d2 o2 = 0 ∧ Hp Z n0 h' ((q, own_qo (.ref ha) 3) :: (ha, own_ar [(.ref x), (.ref y), (.ref d), .null, .null, .null, .null, .null]) :: M))) := by
  refine con_of (ls := [.val (.ref q), .val (.ref d), .unset, .unset, .unset]) (plainFor_of_name pn1) rfl ?_
  refine go_aload c6_0 rfl rfl ?_
  refine go_get (y := (⟨"com/example/umbrella_state/umbrellastate/runtime/DelayedDeliveries", "add", "(Lcom/example/umbrella_state/umbrellastate/runtime/Delivery;)V"⟩ : MethodName)) P0 (0) 1 c6_1 rfl rfl (t33 hw) ?_
  refine go_aload c6_4 rfl rfl ?_
  refine go_get (y := (⟨"com/example/umbrella_state/umbrellastate/runtime/DelayedDeliveries", "add", "(Lcom/example/umbrella_state/umbrellastate/runtime/Delivery;)V"⟩ : MethodName)) P0 (0) 0 c6_5 rfl rfl (t11 hw) ?_
  refine go_alen (z := 8) P0 (1) c6_8 rfl rfl ?_
  refine go_icmp_ne c6_9 (fun _ => ?_) (fun q => absurd q (by decide))
  refine go_aload c6_32 rfl rfl ?_
  refine go_get (y := (⟨"com/example/umbrella_state/umbrellastate/runtime/DelayedDeliveries", "add", "(Lcom/example/umbrella_state/umbrellastate/runtime/Delivery;)V"⟩ : MethodName)) P0 (0) 1 c6_33 rfl rfl (t33 hw) ?_
  refine go_istore c6_36 rfl rfl ?_
  dsimp only [setl]
  refine go_iload c6_37 rfl ?_
  refine go_if_le c6_38 (fun q => absurd q (by decide)) (fun _ => ?_)
  refine go_aload c6_41 rfl rfl ?_
  refine go_aload c6_42 rfl rfl ?_
  refine go_get (y := (⟨"com/example/umbrella_state/umbrellastate/runtime/DelayedDeliveries", "add", "(Lcom/example/umbrella_state/umbrellastate/runtime/Delivery;)V"⟩ : MethodName)) P0 (0) 0 c6_43 rfl rfl (t11 hw) ?_
  refine go_iload c6_46 rfl ?_
  refine go_callS1 (y := (⟨"com/example/umbrella_state/umbrellastate/runtime/DelayedDeliveries", "add", "(Lcom/example/umbrella_state/umbrellastate/runtime/Delivery;)V"⟩ : MethodName)) (W := 2) (argsL := [(.int 2)]) (st := [(.ref ha), (.ref d)]) c6_47 (rm_par l Z a0 hw h0 n0 2) (t46 hw) (t47 hw) (t2 hw) (t48 hw) (by decide) (lenOf pd0 rfl) rfl rfl (by decide) (by decide) (by decide) (by decide) rfl ?_
  rintro _ _ ⟨rfl, rfl⟩
  refine go_more (k' := 0) (n' := 0) (by decide) (by decide) ?_
  refine go_isI 0 (by decide) ?_
  refine go_aaloadH P0 (1) c6_50 rfl rfl (by decide) rfl ?_
  refine go_callS1 (y := (⟨"com/example/umbrella_state/umbrellastate/runtime/DelayedDeliveries", "add", "(Lcom/example/umbrella_state/umbrellastate/runtime/Delivery;)V"⟩ : MethodName)) (W := 0) (argsL := [(.ref d), (.ref x)]) (st := []) c6_51 (rm_gb l Z a0 hw h0 n0 _ (i + 2) (j + 2) d x d1 o1 d2 o2 hd hx P0) (t49 hw) (t50 hw) (t2 hw) (t51 hw) (by decide) (lenOf pd1 rfl) rfl rfl (by decide) (by decide) (by decide) (by decide) rfl ?_
  rintro _ _ ⟨rfl, rfl⟩
  refine go_more (k' := 0) (n' := 0) (by decide) (by decide) ?_
  refine go_if_eq c6_54 (fun b54 => ?_) (fun b54 => ?_)
  · refine go_aload c6_65 rfl rfl ?_
    refine go_get (y := (⟨"com/example/umbrella_state/umbrellastate/runtime/DelayedDeliveries", "add", "(Lcom/example/umbrella_state/umbrellastate/runtime/Delivery;)V"⟩ : MethodName)) P0 (0) 1 c6_66 rfl rfl (t33 hw) ?_
    refine go_istore c6_69 rfl rfl ?_
    dsimp only [setl]
    refine go_iload c6_70 rfl ?_
    refine go_iload c6_71 rfl ?_
    refine go_icmp_le c6_72 (fun _ => ?_) (fun q => absurd q (by decide))
    refine go_aload c6_101 rfl rfl ?_
    refine go_get (y := (⟨"com/example/umbrella_state/umbrellastate/runtime/DelayedDeliveries", "add", "(Lcom/example/umbrella_state/umbrellastate/runtime/Delivery;)V"⟩ : MethodName)) P0 (0) 0 c6_102 rfl rfl (t11 hw) ?_
    refine go_iload c6_105 rfl ?_
    refine go_aload c6_106 rfl rfl ?_
    refine go_aastoreH P0 1 c6_107 rfl rfl rfl (by decide) (Nat.le_of_ble_eq_true rfl) (P0.sto (i := 1) (j := i + 2) rfl hd) ?_
    intro h1 P2
    dsimp only [lupd] at P2
    refine go_aload c6_108 rfl rfl ?_
    refine go_dup c6_109 rfl ?_
    refine go_get (y := (⟨"com/example/umbrella_state/umbrellastate/runtime/DelayedDeliveries", "add", "(Lcom/example/umbrella_state/umbrellastate/runtime/Delivery;)V"⟩ : MethodName)) P2 (0) 1 c6_110 rfl rfl (t33 hw) ?_
    refine go_push c6_113 ?_
    refine go_iadd c6_114 ?_
    refine go_isI 3 (by decide) ?_
    refine go_put (y := (⟨"com/example/umbrella_state/umbrellastate/runtime/DelayedDeliveries", "add", "(Lcom/example/umbrella_state/umbrellastate/runtime/Delivery;)V"⟩ : MethodName)) P2 0 1 .int c6_115 rfl rfl (t33 hw) (Or.inl (t34 hw)) (t1 hw) (by decide) rfl rfl ?_
    intro h3 P4
    dsimp only [lupd] at P4
    exact go_ret rfl c6_118 (by decide) (by decide) ⟨rfl, Or.inr ⟨b54, P4⟩⟩
  · refine go_iload c6_57 rfl ?_
    refine go_callS1 (y := (⟨"com/example/umbrella_state/umbrellastate/runtime/DelayedDeliveries", "add", "(Lcom/example/umbrella_state/umbrellastate/runtime/Delivery;)V"⟩ : MethodName)) (W := 0) (argsL := [(.int 2)]) (st := []) c6_58 (rm_par l Z a0 hw h0 n0 2) (t46 hw) (t47 hw) (t2 hw) (t48 hw) (by decide) (lenOf pd0 rfl) rfl rfl (by decide) (by decide) (by decide) (by decide) rfl ?_
    rintro _ _ ⟨rfl, rfl⟩
    refine go_more (k' := 0) (n' := 0) (by decide) (by decide) ?_
    refine go_isI 0 (by decide) ?_
    refine go_istore c6_61 rfl rfl ?_
    dsimp only [setl]
    refine go_goto c6_62 ?_
    refine go_iload c6_37 rfl ?_
    refine go_if_le c6_38 (fun _ => ?_) (fun q => absurd q (by decide))
    refine go_aload c6_65 rfl rfl ?_
    refine go_get (y := (⟨"com/example/umbrella_state/umbrellastate/runtime/DelayedDeliveries", "add", "(Lcom/example/umbrella_state/umbrellastate/runtime/Delivery;)V"⟩ : MethodName)) P0 (0) 1 c6_66 rfl rfl (t33 hw) ?_
    refine go_istore c6_69 rfl rfl ?_
    dsimp only [setl]
    refine go_iload c6_70 rfl ?_
    refine go_iload c6_71 rfl ?_
    refine go_icmp_le c6_72 (fun q => absurd q (by decide)) (fun _ => ?_)
    refine go_iload c6_75 rfl ?_
    refine go_push c6_76 ?_
    refine go_isub c6_77 ?_
    refine go_isI 1 (by decide) ?_
    refine go_push c6_78 ?_
    refine go_iushr c6_79 ?_
    refine go_isI 0 (by decide) ?_
    refine go_istore c6_80 rfl rfl ?_
    dsimp only [setl]
    refine go_aload c6_82 rfl rfl ?_
    refine go_get (y := (⟨"com/example/umbrella_state/umbrellastate/runtime/DelayedDeliveries", "add", "(Lcom/example/umbrella_state/umbrellastate/runtime/Delivery;)V"⟩ : MethodName)) P0 (0) 0 c6_83 rfl rfl (t11 hw) ?_
    refine go_iload c6_86 rfl ?_
    refine go_aload c6_87 rfl rfl ?_
    refine go_get (y := (⟨"com/example/umbrella_state/umbrellastate/runtime/DelayedDeliveries", "add", "(Lcom/example/umbrella_state/umbrellastate/runtime/Delivery;)V"⟩ : MethodName)) P0 (0) 0 c6_88 rfl rfl (t11 hw) ?_
    refine go_iload c6_91 rfl ?_
    refine go_aaloadH P0 (1) c6_93 rfl rfl (by decide) rfl ?_
    refine go_aastoreH P0 1 c6_94 rfl rfl rfl (by decide) (Nat.le_of_ble_eq_true rfl) (P0.sto (i := 1) (j := j + 2) rfl hx) ?_
    intro h5 P6
    dsimp only [lupd] at P6
    refine go_iload c6_95 rfl ?_
    refine go_istore c6_97 rfl rfl ?_
    dsimp only [setl]
    refine go_goto c6_98 ?_
    refine go_iload c6_70 rfl ?_
    refine go_iload c6_71 rfl ?_
    refine go_icmp_le c6_72 (fun _ => ?_) (fun q => absurd q (by decide))
    refine go_aload c6_101 rfl rfl ?_
    refine go_get (y := (⟨"com/example/umbrella_state/umbrellastate/runtime/DelayedDeliveries", "add", "(Lcom/example/umbrella_state/umbrellastate/runtime/Delivery;)V"⟩ : MethodName)) P6 (0) 0 c6_102 rfl rfl (t11 hw) ?_
    refine go_iload c6_105 rfl ?_
    refine go_aload c6_106 rfl rfl ?_
    refine go_aastoreH P6 1 c6_107 rfl rfl rfl (by decide) (Nat.le_of_ble_eq_true rfl) (P6.sto (i := 1) (j := i + 2) rfl hd) ?_
    intro h7 P8
    dsimp only [lupd] at P8
    refine go_aload c6_108 rfl rfl ?_
    refine go_dup c6_109 rfl ?_
    refine go_get (y := (⟨"com/example/umbrella_state/umbrellastate/runtime/DelayedDeliveries", "add", "(Lcom/example/umbrella_state/umbrellastate/runtime/Delivery;)V"⟩ : MethodName)) P8 (0) 1 c6_110 rfl rfl (t33 hw) ?_
    refine go_push c6_113 ?_
    refine go_iadd c6_114 ?_
    refine go_isI 3 (by decide) ?_
    refine go_put (y := (⟨"com/example/umbrella_state/umbrellastate/runtime/DelayedDeliveries", "add", "(Lcom/example/umbrella_state/umbrellastate/runtime/Delivery;)V"⟩ : MethodName)) P8 0 1 .int c6_115 rfl rfl (t33 hw) (Or.inl (t34 hw)) (t1 hw) (by decide) rfl rfl ?_
    intro h9 P10
    dsimp only [lupd] at P10
    exact go_ret rfl c6_118 (by decide) (by decide) ⟨rfl, Or.inl ⟨b54, P10⟩⟩
theorem own_n4 (x : Int32) : x &&& 3 = 0 ∨ x &&& 3 = 1 ∨ x &&& 3 = 2 ∨ x &&& 3 = 3 := by
  have h : (x &&& 3).toBitVec.toNat ≤ 3 := by rw [Int32.toBitVec_and, BitVec.toNat_and]; exact Nat.and_le_right
  have e : ∀ n, n ≤ 3 → (x &&& 3).toBitVec.toNat = n → x &&& 3 = Int32.ofNat n := fun n hn q => by
    apply Int32.toBitVec_inj.mp
    apply BitVec.eq_of_toNat_eq
    rw [q]
    show n = (Int32.ofNat n).toBitVec.toNat
    rcases (show n = 0 ∨ n = 1 ∨ n = 2 ∨ n = 3 by omega) with rfl | rfl | rfl | rfl <;> rfl
  rcases (show (x &&& 3).toBitVec.toNat = 0 ∨ (x &&& 3).toBitVec.toNat = 1 ∨ (x &&& 3).toBitVec.toNat = 2 ∨ (x &&& 3).toBitVec.toNat = 3 by omega) with q | q | q | q
  · exact Or.inl (e 0 (by omega) q)
  · exact Or.inr (Or.inl (e 1 (by omega) q))
  · exact Or.inr (Or.inr (Or.inl (e 2 (by omega) q)))
  · exact Or.inr (Or.inr (Or.inr (e 3 (by omega) q)))
set_option maxRecDepth 65536 in
set_option maxHeartbeats 4000000 in
theorem rm_L00 (l : Launch) (Z : State) (a0 : Array Value) (hw : ∀ d ∈ tables_1, d.before a0 Z = true) (h0 : Heap) (n0 : Nat) (ha : Addr) :
    Con false l Z (⟨"com/example/umbrella_state/umbrellastate/runtime/DelayedDeliveries", "lesserChild", "([Lcom/example/umbrella_state/umbrellastate/runtime/Delivery;II)I"⟩ : MethodName) prog_52_method_9_code 5 (some .int) ({ frames := 0, cells := 0, slots := 0, locals := 0 } : Room) #[(.ref ha), (.int 0), (.int 0)] h0 n0 (Ret (.int (-1)) h0) := by
  refine con_of (ls := [.val (.ref ha), .val (.int 0), .val (.int 0), .unset, .unset]) (plainFor_of_name pn1) rfl ?_
  refine go_push c9_0 ?_
  refine go_iload c9_1 rfl ?_
  refine go_imul c9_2 ?_
  refine go_isI 0 (by decide) ?_
  refine go_push c9_3 ?_
  refine go_iadd c9_4 ?_
  refine go_isI 1 (by decide) ?_
  refine go_istore c9_5 rfl rfl ?_
  dsimp only [setl]
  refine go_iload c9_6 rfl ?_
  refine go_iload c9_7 rfl ?_
  refine go_icmp_lt c9_8 (fun q => absurd q (by decide)) (fun _ => ?_)
  refine go_push c9_11 ?_
  exact go_iret rfl c9_12 (by decide) (by decide) ⟨_, rfl, rfl, rfl⟩
set_option maxRecDepth 65536 in
set_option maxHeartbeats 4000000 in
theorem rm_L01 (l : Launch) (Z : State) (a0 : Array Value) (hw : ∀ d ∈ tables_1, d.before a0 Z = true) (h0 : Heap) (n0 : Nat) (ha : Addr) :
    Con false l Z (⟨"com/example/umbrella_state/umbrellastate/runtime/DelayedDeliveries", "lesserChild", "([Lcom/example/umbrella_state/umbrellastate/runtime/Delivery;II)I"⟩ : MethodName) prog_52_method_9_code 5 (some .int) ({ frames := 0, cells := 0, slots := 0, locals := 0 } : Room) #[(.ref ha), (.int 0), (.int 1)] h0 n0 (Ret (.int (-1)) h0) := by
  refine con_of (ls := [.val (.ref ha), .val (.int 0), .val (.int 1), .unset, .unset]) (plainFor_of_name pn1) rfl ?_
  refine go_push c9_0 ?_
  refine go_iload c9_1 rfl ?_
  refine go_imul c9_2 ?_
  refine go_isI 0 (by decide) ?_
  refine go_push c9_3 ?_
  refine go_iadd c9_4 ?_
  refine go_isI 1 (by decide) ?_
  refine go_istore c9_5 rfl rfl ?_
  dsimp only [setl]
  refine go_iload c9_6 rfl ?_
  refine go_iload c9_7 rfl ?_
  refine go_icmp_lt c9_8 (fun q => absurd q (by decide)) (fun _ => ?_)
  refine go_push c9_11 ?_
  exact go_iret rfl c9_12 (by decide) (by decide) ⟨_, rfl, rfl, rfl⟩
set_option maxRecDepth 65536 in
set_option maxHeartbeats 4000000 in
theorem rm_L02 (l : Launch) (Z : State) (a0 : Array Value) (hw : ∀ d ∈ tables_1, d.before a0 Z = true) (h0 : Heap) (n0 : Nat) (ha : Addr) :
    Con false l Z (⟨"com/example/umbrella_state/umbrellastate/runtime/DelayedDeliveries", "lesserChild", "([Lcom/example/umbrella_state/umbrellastate/runtime/Delivery;II)I"⟩ : MethodName) prog_52_method_9_code 5 (some .int) ({ frames := 0, cells := 0, slots := 0, locals := 0 } : Room) #[(.ref ha), (.int 0), (.int 2)] h0 n0 (Ret (.int (1)) h0) := by
  refine con_of (ls := [.val (.ref ha), .val (.int 0), .val (.int 2), .unset, .unset]) (plainFor_of_name pn1) rfl ?_
  refine go_push c9_0 ?_
  refine go_iload c9_1 rfl ?_
  refine go_imul c9_2 ?_
  refine go_isI 0 (by decide) ?_
  refine go_push c9_3 ?_
  refine go_iadd c9_4 ?_
  refine go_isI 1 (by decide) ?_
  refine go_istore c9_5 rfl rfl ?_
  dsimp only [setl]
  refine go_iload c9_6 rfl ?_
  refine go_iload c9_7 rfl ?_
  refine go_icmp_lt c9_8 (fun _ => ?_) (fun q => absurd q (by decide))
  refine go_iload c9_13 rfl ?_
  refine go_push c9_14 ?_
  refine go_iadd c9_15 ?_
  refine go_isI 2 (by decide) ?_
  refine go_istore c9_16 rfl rfl ?_
  dsimp only [setl]
  refine go_iload c9_18 rfl ?_
  refine go_iload c9_20 rfl ?_
  refine go_icmp_ge c9_21 (fun _ => ?_) (fun q => absurd q (by decide))
  refine go_iload c9_42 rfl ?_
  exact go_iret rfl c9_43 (by decide) (by decide) ⟨_, rfl, rfl, rfl⟩
set_option maxRecDepth 65536 in
set_option maxHeartbeats 4000000 in
theorem rm_L12 (l : Launch) (Z : State) (a0 : Array Value) (hw : ∀ d ∈ tables_1, d.before a0 Z = true) (h0 : Heap) (n0 : Nat) (ha : Addr) :
    Con false l Z (⟨"com/example/umbrella_state/umbrellastate/runtime/DelayedDeliveries", "lesserChild", "([Lcom/example/umbrella_state/umbrellastate/runtime/Delivery;II)I"⟩ : MethodName) prog_52_method_9_code 5 (some .int) ({ frames := 0, cells := 0, slots := 0, locals := 0 } : Room) #[(.ref ha), (.int 1), (.int 2)] h0 n0 (Ret (.int (-1)) h0) := by
  refine con_of (ls := [.val (.ref ha), .val (.int 1), .val (.int 2), .unset, .unset]) (plainFor_of_name pn1) rfl ?_
  refine go_push c9_0 ?_
  refine go_iload c9_1 rfl ?_
  refine go_imul c9_2 ?_
  refine go_isI 2 (by decide) ?_
  refine go_push c9_3 ?_
  refine go_iadd c9_4 ?_
  refine go_isI 3 (by decide) ?_
  refine go_istore c9_5 rfl rfl ?_
  dsimp only [setl]
  refine go_iload c9_6 rfl ?_
  refine go_iload c9_7 rfl ?_
  refine go_icmp_lt c9_8 (fun q => absurd q (by decide)) (fun _ => ?_)
  refine go_push c9_11 ?_
  exact go_iret rfl c9_12 (by decide) (by decide) ⟨_, rfl, rfl, rfl⟩
set_option maxRecDepth 65536 in
set_option maxHeartbeats 4000000 in
theorem rm_O0 (l : Launch) (Z : State) (a0 : Array Value) (hw : ∀ d ∈ tables_1, d.before a0 Z = true) (h0 : Heap) (n0 : Nat) (M : List (Addr × Desc)) (q ha : Addr) (P0 : Hp Z n0 h0 ((q, own_qo (.ref ha) 0) :: (ha, own_ar [.null, .null, .null, .null, .null, .null, .null, .null]) :: M)) :
    Con false l Z (⟨"com/example/umbrella_state/umbrellastate/runtime/DelayedDeliveries", "poll", "()Lcom/example/umbrella_state/umbrellastate/runtime/Delivery;"⟩ : MethodName) prog_52_method_5_code 11 (some (.object "com/example/umbrella_state/umbrellastate/runtime/Delivery")) ({ frames := 1, cells := 0, slots := 0, locals := 20 } : Room) #[(.ref q)] h0 n0 (R1 fun w h' => w.isRef = true ∧ Hp Z n0 h' ((q, own_qo (.ref ha) 0) :: (ha, own_ar [.null, .null, .null, .null, .null, .null, .null, .null]) :: M)) := by
  refine con_of (ls := [.val (.ref q), .unset, .unset, .unset, .unset, .unset, .unset, .unset, .unset, .unset, .unset]) (plainFor_of_name pn1) rfl ?_
  refine go_aload c5_0 rfl rfl ?_
  refine go_get (y := (⟨"com/example/umbrella_state/umbrellastate/runtime/DelayedDeliveries", "poll", "()Lcom/example/umbrella_state/umbrellastate/runtime/Delivery;"⟩ : MethodName)) P0 (0) 1 c5_1 rfl rfl (t33 hw) ?_
  refine go_if_ne c5_4 (fun q => absurd q (by decide)) (fun _ => ?_)
  refine go_null c5_7 ?_
  exact go_aret rfl rfl rfl c5_8 (by decide) (by decide) ⟨_, rfl, rfl, P0⟩
set_option maxRecDepth 65536 in
set_option maxHeartbeats 4000000 in
theorem rm_O1 (l : Launch) (Z : State) (a0 : Array Value) (hw : ∀ d ∈ tables_1, d.before a0 Z = true) (h0 : Heap) (n0 : Nat) (M : List (Addr × Desc)) (q ha : Addr) (i : Nat) (x : Addr) (d0 o0 : Int64) (hx : M[i]? = some (x, own_dl d0 o0)) (P0 : Hp Z n0 h0 ((q, own_qo (.ref ha) 1) :: (ha, own_ar [(.ref x), .null, .null, .null, .null, .null, .null, .null]) :: M)) :
    Con false l Z (⟨"com/example/umbrella_state/umbrellastate/runtime/DelayedDeliveries", "poll", "()Lcom/example/umbrella_state/umbrellastate/runtime/Delivery;"⟩ : MethodName) prog_52_method_5_code 11 (some (.object "com/example/umbrella_state/umbrellastate/runtime/Delivery")) ({ frames := 1, cells := 0, slots := 0, locals := 20 } : Room) #[(.ref q)] h0 n0 (R1 fun w h' => w.isRef = true ∧ Hp Z n0 h' ((q, own_qo (.ref ha) 0) :: (ha, own_ar [.null, .null, .null, .null, .null, .null, .null, .null]) :: M)) := by
  refine con_of (ls := [.val (.ref q), .unset, .unset, .unset, .unset, .unset, .unset, .unset, .unset, .unset, .unset]) (plainFor_of_name pn1) rfl ?_
  refine go_aload c5_0 rfl rfl ?_
  refine go_get (y := (⟨"com/example/umbrella_state/umbrellastate/runtime/DelayedDeliveries", "poll", "()Lcom/example/umbrella_state/umbrellastate/runtime/Delivery;"⟩ : MethodName)) P0 (0) 1 c5_1 rfl rfl (t33 hw) ?_
  refine go_if_ne c5_4 (fun _ => ?_) (fun q => absurd q (by decide))
  refine go_aload c5_9 rfl rfl ?_
  refine go_get (y := (⟨"com/example/umbrella_state/umbrellastate/runtime/DelayedDeliveries", "poll", "()Lcom/example/umbrella_state/umbrellastate/runtime/Delivery;"⟩ : MethodName)) P0 (0) 1 c5_10 rfl rfl (t33 hw) ?_
  refine go_push c5_13 ?_
  refine go_isub c5_14 ?_
  refine go_isI 0 (by decide) ?_
  refine go_istore c5_15 rfl rfl ?_
  dsimp only [setl]
  refine go_aload c5_16 rfl rfl ?_
  refine go_get (y := (⟨"com/example/umbrella_state/umbrellastate/runtime/DelayedDeliveries", "poll", "()Lcom/example/umbrella_state/umbrellastate/runtime/Delivery;"⟩ : MethodName)) P0 (0) 0 c5_17 rfl rfl (t11 hw) ?_
  refine go_iload c5_20 rfl ?_
  refine go_aaloadH P0 (1) c5_21 rfl rfl (by decide) rfl ?_
  refine go_astore c5_22 rfl rfl rfl ?_
  dsimp only [setl]
  refine go_lconst c5_23 ?_
  refine go_lstore c5_24 rfl rfl rfl ?_
  dsimp only [setl]
  refine go_push c5_25 ?_
  refine go_istore c5_26 rfl rfl ?_
  dsimp only [setl]
  refine go_push c5_28 ?_
  refine go_istore c5_29 rfl rfl ?_
  dsimp only [setl]
  refine go_aload c5_31 rfl rfl ?_
  refine go_get (y := (⟨"com/example/umbrella_state/umbrellastate/runtime/DelayedDeliveries", "poll", "()Lcom/example/umbrella_state/umbrellastate/runtime/Delivery;"⟩ : MethodName)) P0 (0) 0 c5_32 rfl rfl (t11 hw) ?_
  refine go_iload c5_35 rfl ?_
  refine go_iload c5_37 rfl ?_
  refine go_callS1 (y := (⟨"com/example/umbrella_state/umbrellastate/runtime/DelayedDeliveries", "poll", "()Lcom/example/umbrella_state/umbrellastate/runtime/Delivery;"⟩ : MethodName)) (W := 0) (argsL := [(.ref ha), (.int 0), (.int 0)]) (st := []) c5_38 (rm_L00 l Z a0 hw h0 n0 ha) (t53 hw) (t54 hw) (t2 hw) (t55 hw) (by decide) (lenOf pd2 rfl) rfl rfl (by decide) (by decide) (by decide) (by decide) rfl ?_
  rintro _ _ ⟨rfl, rfl⟩
  refine go_more (k' := 0) (n' := 0) (by decide) (by decide) ?_
  refine go_istore c5_41 rfl rfl ?_
  dsimp only [setl]
  refine go_iload c5_43 rfl ?_
  refine go_if_lt c5_45 (fun _ => ?_) (fun q => absurd q (by decide))
  refine go_aload c5_93 rfl rfl ?_
  refine go_get (y := (⟨"com/example/umbrella_state/umbrellastate/runtime/DelayedDeliveries", "poll", "()Lcom/example/umbrella_state/umbrellastate/runtime/Delivery;"⟩ : MethodName)) P0 (0) 0 c5_94 rfl rfl (t11 hw) ?_
  refine go_push c5_97 ?_
  refine go_aaloadH P0 (1) c5_98 rfl rfl (by decide) rfl ?_
  refine go_astore c5_99 rfl rfl rfl ?_
  dsimp only [setl]
  refine go_push c5_101 ?_
  refine go_istore c5_102 rfl rfl ?_
  dsimp only [setl]
  refine go_push c5_104 ?_
  refine go_istore c5_105 rfl rfl ?_
  dsimp only [setl]
  refine go_iload c5_107 rfl ?_
  refine go_iload c5_109 rfl ?_
  refine go_icmp_ge c5_111 (fun _ => ?_) (fun q => absurd q (by decide))
  refine go_aload c5_154 rfl rfl ?_
  refine go_get (y := (⟨"com/example/umbrella_state/umbrellastate/runtime/DelayedDeliveries", "poll", "()Lcom/example/umbrella_state/umbrellastate/runtime/Delivery;"⟩ : MethodName)) P0 (0) 0 c5_155 rfl rfl (t11 hw) ?_
  refine go_iload c5_158 rfl ?_
  refine go_aload c5_160 rfl rfl ?_
  refine go_aastoreH P0 1 c5_161 rfl rfl rfl (by decide) (Nat.le_of_ble_eq_true rfl) (P0.sto (i := 1) (j := i + 2) rfl hx) ?_
  intro h1 P2
  dsimp only [lupd] at P2
  refine go_aload c5_162 rfl rfl ?_
  refine go_get (y := (⟨"com/example/umbrella_state/umbrellastate/runtime/DelayedDeliveries", "poll", "()Lcom/example/umbrella_state/umbrellastate/runtime/Delivery;"⟩ : MethodName)) P2 (0) 0 c5_163 rfl rfl (t11 hw) ?_
  refine go_iload c5_166 rfl ?_
  refine go_null c5_167 ?_
  refine go_aastoreH P2 1 c5_168 rfl rfl rfl (by decide) (Nat.le_of_ble_eq_true rfl) (Or.inl rfl) ?_
  intro h3 P4
  dsimp only [lupd] at P4
  refine go_aload c5_169 rfl rfl ?_
  refine go_iload c5_170 rfl ?_
  refine go_put (y := (⟨"com/example/umbrella_state/umbrellastate/runtime/DelayedDeliveries", "poll", "()Lcom/example/umbrella_state/umbrellastate/runtime/Delivery;"⟩ : MethodName)) P4 0 1 .int c5_171 rfl rfl (t33 hw) (Or.inl (t34 hw)) (t1 hw) (by decide) rfl rfl ?_
  intro h5 P6
  dsimp only [lupd] at P6
  refine go_aload c5_174 rfl rfl ?_
  exact go_aret rfl rfl rfl c5_176 (by decide) (by decide) ⟨_, rfl, rfl, P6⟩
set_option maxRecDepth 65536 in
set_option maxHeartbeats 4000000 in
theorem rm_O2 (l : Launch) (Z : State) (a0 : Array Value) (hw : ∀ d ∈ tables_1, d.before a0 Z = true) (h0 : Heap) (n0 : Nat) (M : List (Addr × Desc)) (q ha : Addr) (i : Nat) (x : Addr) (d0 o0 : Int64) (hx : M[i]? = some (x, own_dl d0 o0)) (j : Nat) (y : Addr) (d1 o1 : Int64) (hy : M[j]? = some (y, own_dl d1 o1)) (P0 : Hp Z n0 h0 ((q, own_qo (.ref ha) 2) :: (ha, own_ar [(.ref x), (.ref y), .null, .null, .null, .null, .null, .null]) :: M)) :
    Con false l Z (⟨"com/example/umbrella_state/umbrellastate/runtime/DelayedDeliveries", "poll", "()Lcom/example/umbrella_state/umbrellastate/runtime/Delivery;"⟩ : MethodName) prog_52_method_5_code 11 (some (.object "com/example/umbrella_state/umbrellastate/runtime/Delivery")) ({ frames := 1, cells := 0, slots := 0, locals := 20 } : Room) #[(.ref q)] h0 n0 (R1 fun w h' => w.isRef = true ∧ Hp Z n0 h' ((q, own_qo (.ref ha) 1) :: (ha, own_ar [(.ref y), .null, .null, .null, .null, .null, .null, .null]) :: M)) := by
  refine con_of (ls := [.val (.ref q), .unset, .unset, .unset, .unset, .unset, .unset, .unset, .unset, .unset, .unset]) (plainFor_of_name pn1) rfl ?_
  refine go_aload c5_0 rfl rfl ?_
  refine go_get (y := (⟨"com/example/umbrella_state/umbrellastate/runtime/DelayedDeliveries", "poll", "()Lcom/example/umbrella_state/umbrellastate/runtime/Delivery;"⟩ : MethodName)) P0 (0) 1 c5_1 rfl rfl (t33 hw) ?_
  refine go_if_ne c5_4 (fun _ => ?_) (fun q => absurd q (by decide))
  refine go_aload c5_9 rfl rfl ?_
  refine go_get (y := (⟨"com/example/umbrella_state/umbrellastate/runtime/DelayedDeliveries", "poll", "()Lcom/example/umbrella_state/umbrellastate/runtime/Delivery;"⟩ : MethodName)) P0 (0) 1 c5_10 rfl rfl (t33 hw) ?_
  refine go_push c5_13 ?_
  refine go_isub c5_14 ?_
  refine go_isI 1 (by decide) ?_
  refine go_istore c5_15 rfl rfl ?_
  dsimp only [setl]
  refine go_aload c5_16 rfl rfl ?_
  refine go_get (y := (⟨"com/example/umbrella_state/umbrellastate/runtime/DelayedDeliveries", "poll", "()Lcom/example/umbrella_state/umbrellastate/runtime/Delivery;"⟩ : MethodName)) P0 (0) 0 c5_17 rfl rfl (t11 hw) ?_
  refine go_iload c5_20 rfl ?_
  refine go_aaloadH P0 (1) c5_21 rfl rfl (by decide) rfl ?_
  refine go_astore c5_22 rfl rfl rfl ?_
  dsimp only [setl]
  refine go_lconst c5_23 ?_
  refine go_lstore c5_24 rfl rfl rfl ?_
  dsimp only [setl]
  refine go_push c5_25 ?_
  refine go_istore c5_26 rfl rfl ?_
  dsimp only [setl]
  refine go_push c5_28 ?_
  refine go_istore c5_29 rfl rfl ?_
  dsimp only [setl]
  refine go_aload c5_31 rfl rfl ?_
  refine go_get (y := (⟨"com/example/umbrella_state/umbrellastate/runtime/DelayedDeliveries", "poll", "()Lcom/example/umbrella_state/umbrellastate/runtime/Delivery;"⟩ : MethodName)) P0 (0) 0 c5_32 rfl rfl (t11 hw) ?_
  refine go_iload c5_35 rfl ?_
  refine go_iload c5_37 rfl ?_
  refine go_callS1 (y := (⟨"com/example/umbrella_state/umbrellastate/runtime/DelayedDeliveries", "poll", "()Lcom/example/umbrella_state/umbrellastate/runtime/Delivery;"⟩ : MethodName)) (W := 0) (argsL := [(.ref ha), (.int 0), (.int 1)]) (st := []) c5_38 (rm_L01 l Z a0 hw h0 n0 ha) (t53 hw) (t54 hw) (t2 hw) (t55 hw) (by decide) (lenOf pd2 rfl) rfl rfl (by decide) (by decide) (by decide) (by decide) rfl ?_
  rintro _ _ ⟨rfl, rfl⟩
  refine go_more (k' := 0) (n' := 0) (by decide) (by decide) ?_
  refine go_istore c5_41 rfl rfl ?_
  dsimp only [setl]
  refine go_iload c5_43 rfl ?_
  refine go_if_lt c5_45 (fun _ => ?_) (fun q => absurd q (by decide))
  refine go_aload c5_93 rfl rfl ?_
  refine go_get (y := (⟨"com/example/umbrella_state/umbrellastate/runtime/DelayedDeliveries", "poll", "()Lcom/example/umbrella_state/umbrellastate/runtime/Delivery;"⟩ : MethodName)) P0 (0) 0 c5_94 rfl rfl (t11 hw) ?_
  refine go_push c5_97 ?_
  refine go_aaloadH P0 (1) c5_98 rfl rfl (by decide) rfl ?_
  refine go_astore c5_99 rfl rfl rfl ?_
  dsimp only [setl]
  refine go_push c5_101 ?_
  refine go_istore c5_102 rfl rfl ?_
  dsimp only [setl]
  refine go_push c5_104 ?_
  refine go_istore c5_105 rfl rfl ?_
  dsimp only [setl]
  refine go_iload c5_107 rfl ?_
  refine go_iload c5_109 rfl ?_
  refine go_icmp_ge c5_111 (fun _ => ?_) (fun q => absurd q (by decide))
  refine go_aload c5_154 rfl rfl ?_
  refine go_get (y := (⟨"com/example/umbrella_state/umbrellastate/runtime/DelayedDeliveries", "poll", "()Lcom/example/umbrella_state/umbrellastate/runtime/Delivery;"⟩ : MethodName)) P0 (0) 0 c5_155 rfl rfl (t11 hw) ?_
  refine go_iload c5_158 rfl ?_
  refine go_aload c5_160 rfl rfl ?_
  refine go_aastoreH P0 1 c5_161 rfl rfl rfl (by decide) (Nat.le_of_ble_eq_true rfl) (P0.sto (i := 1) (j := j + 2) rfl hy) ?_
  intro h1 P2
  dsimp only [lupd] at P2
  refine go_aload c5_162 rfl rfl ?_
  refine go_get (y := (⟨"com/example/umbrella_state/umbrellastate/runtime/DelayedDeliveries", "poll", "()Lcom/example/umbrella_state/umbrellastate/runtime/Delivery;"⟩ : MethodName)) P2 (0) 0 c5_163 rfl rfl (t11 hw) ?_
  refine go_iload c5_166 rfl ?_
  refine go_null c5_167 ?_
  refine go_aastoreH P2 1 c5_168 rfl rfl rfl (by decide) (Nat.le_of_ble_eq_true rfl) (Or.inl rfl) ?_
  intro h3 P4
  dsimp only [lupd] at P4
  refine go_aload c5_169 rfl rfl ?_
  refine go_iload c5_170 rfl ?_
  refine go_put (y := (⟨"com/example/umbrella_state/umbrellastate/runtime/DelayedDeliveries", "poll", "()Lcom/example/umbrella_state/umbrellastate/runtime/Delivery;"⟩ : MethodName)) P4 0 1 .int c5_171 rfl rfl (t33 hw) (Or.inl (t34 hw)) (t1 hw) (by decide) rfl rfl ?_
  intro h5 P6
  dsimp only [lupd] at P6
  refine go_aload c5_174 rfl rfl ?_
  exact go_aret rfl rfl rfl c5_176 (by decide) (by decide) ⟨_, rfl, rfl, P6⟩
set_option maxRecDepth 65536 in
set_option maxHeartbeats 4000000 in
theorem rm_O3 (l : Launch) (Z : State) (a0 : Array Value) (hw : ∀ d ∈ tables_1, d.before a0 Z = true) (h0 : Heap) (n0 : Nat) (M : List (Addr × Desc)) (q ha : Addr) (i : Nat) (x : Addr) (d0 o0 : Int64) (hx : M[i]? = some (x, own_dl d0 o0)) (j : Nat) (y : Addr) (d1 o1 : Int64) (hy : M[j]? = some (y, own_dl d1 o1)) (n : Nat) (z : Addr) (d2 o2 : Int64) (hz : M[n]? = some (z, own_dl d2 o2)) (P0 : Hp Z n0 h0 ((q, own_qo (.ref ha) 3) :: (ha, own_ar [(.ref x), (.ref y), (.ref z), .null, .null, .null, .null, .null]) :: M)) :
    Con false l Z (⟨"com/example/umbrella_state/umbrellastate/runtime/DelayedDeliveries", "poll", "()Lcom/example/umbrella_state/umbrellastate/runtime/Delivery;"⟩ : MethodName) prog_52_method_5_code 11 (some (.object "com/example/umbrella_state/umbrellastate/runtime/Delivery")) ({ frames := 1, cells := 0, slots := 0, locals := 20 } : Room) #[(.ref q)] h0 n0 (R1 fun w h' => w.isRef = true ∧ ((¬ own_bf d1 o1 d2 o2 = 0 ∧ Hp Z n0 h' ((q, own_qo (.ref ha) 2) :: (ha, own_ar [(.ref y), (.ref z), .null, .null, .null, .null, .null, .null]) :: M)) ∨ (own_bf d1 o1 d2 o2 = 0 ∧ Hp Z n0 h' ((q, own_qo (.ref ha) 2) :: (ha, own_ar [(.ref z), (.ref y), .null, .null, .null, .null, .null, .null]) :: M)))) := by
  refine con_of (ls := [.val (.ref q), .unset, .unset, .unset, .unset, .unset, .unset, .unset, .unset, .unset, .unset]) (plainFor_of_name pn1) rfl ?_
  refine go_aload c5_0 rfl rfl ?_
  refine go_get (y := (⟨"com/example/umbrella_state/umbrellastate/runtime/DelayedDeliveries", "poll", "()Lcom/example/umbrella_state/umbrellastate/runtime/Delivery;"⟩ : MethodName)) P0 (0) 1 c5_1 rfl rfl (t33 hw) ?_
  refine go_if_ne c5_4 (fun _ => ?_) (fun q => absurd q (by decide))
  refine go_aload c5_9 rfl rfl ?_
  refine go_get (y := (⟨"com/example/umbrella_state/umbrellastate/runtime/DelayedDeliveries", "poll", "()Lcom/example/umbrella_state/umbrellastate/runtime/Delivery;"⟩ : MethodName)) P0 (0) 1 c5_10 rfl rfl (t33 hw) ?_
  refine go_push c5_13 ?_
  refine go_isub c5_14 ?_
  refine go_isI 2 (by decide) ?_
  refine go_istore c5_15 rfl rfl ?_
  dsimp only [setl]
  refine go_aload c5_16 rfl rfl ?_
  refine go_get (y := (⟨"com/example/umbrella_state/umbrellastate/runtime/DelayedDeliveries", "poll", "()Lcom/example/umbrella_state/umbrellastate/runtime/Delivery;"⟩ : MethodName)) P0 (0) 0 c5_17 rfl rfl (t11 hw) ?_
  refine go_iload c5_20 rfl ?_
  refine go_aaloadH P0 (1) c5_21 rfl rfl (by decide) rfl ?_
  refine go_astore c5_22 rfl rfl rfl ?_
  dsimp only [setl]
  refine go_lconst c5_23 ?_
  refine go_lstore c5_24 rfl rfl rfl ?_
  dsimp only [setl]
  refine go_push c5_25 ?_
  refine go_istore c5_26 rfl rfl ?_
  dsimp only [setl]
  refine go_push c5_28 ?_
  refine go_istore c5_29 rfl rfl ?_
  dsimp only [setl]
  refine go_aload c5_31 rfl rfl ?_
  refine go_get (y := (⟨"com/example/umbrella_state/umbrellastate/runtime/DelayedDeliveries", "poll", "()Lcom/example/umbrella_state/umbrellastate/runtime/Delivery;"⟩ : MethodName)) P0 (0) 0 c5_32 rfl rfl (t11 hw) ?_
  refine go_iload c5_35 rfl ?_
  refine go_iload c5_37 rfl ?_
  refine go_callS1 (y := (⟨"com/example/umbrella_state/umbrellastate/runtime/DelayedDeliveries", "poll", "()Lcom/example/umbrella_state/umbrellastate/runtime/Delivery;"⟩ : MethodName)) (W := 0) (argsL := [(.ref ha), (.int 0), (.int 2)]) (st := []) c5_38 (rm_L02 l Z a0 hw h0 n0 ha) (t53 hw) (t54 hw) (t2 hw) (t55 hw) (by decide) (lenOf pd2 rfl) rfl rfl (by decide) (by decide) (by decide) (by decide) rfl ?_
  rintro _ _ ⟨rfl, rfl⟩
  refine go_more (k' := 0) (n' := 0) (by decide) (by decide) ?_
  refine go_istore c5_41 rfl rfl ?_
  dsimp only [setl]
  refine go_iload c5_43 rfl ?_
  refine go_if_lt c5_45 (fun q => absurd q (by decide)) (fun _ => ?_)
  refine go_aload c5_48 rfl rfl ?_
  refine go_get (y := (⟨"com/example/umbrella_state/umbrellastate/runtime/DelayedDeliveries", "poll", "()Lcom/example/umbrella_state/umbrellastate/runtime/Delivery;"⟩ : MethodName)) P0 (0) 0 c5_49 rfl rfl (t11 hw) ?_
  refine go_iload c5_52 rfl ?_
  refine go_aaloadH P0 (1) c5_54 rfl rfl (by decide) rfl ?_
  refine go_aload c5_55 rfl rfl ?_
  refine go_callS1 (y := (⟨"com/example/umbrella_state/umbrellastate/runtime/DelayedDeliveries", "poll", "()Lcom/example/umbrella_state/umbrellastate/runtime/Delivery;"⟩ : MethodName)) (W := 0) (argsL := [(.ref y), (.ref z)]) (st := []) c5_56 (rm_gb l Z a0 hw h0 n0 _ (j + 2) (n + 2) y z d1 o1 d2 o2 hy hz P0) (t49 hw) (t50 hw) (t2 hw) (t51 hw) (by decide) (lenOf pd1 rfl) rfl rfl (by decide) (by decide) (by decide) (by decide) rfl ?_
  rintro _ _ ⟨rfl, rfl⟩
  refine go_more (k' := 0) (n' := 0) (by decide) (by decide) ?_
  refine go_if_ne c5_59 (fun b59 => ?_) (fun b59 => ?_)
  · refine go_iload c5_65 rfl ?_
    refine go_push c5_67 ?_
    refine go_iload c5_68 rfl ?_
    refine go_imul c5_70 ?_
    refine go_isI 0 (by decide) ?_
    refine go_push c5_71 ?_
    refine go_iadd c5_72 ?_
    refine go_isI 1 (by decide) ?_
    refine go_icmp_eq c5_73 (fun _ => ?_) (fun q => absurd q (by decide))
    refine go_iload c5_83 rfl ?_
    refine go_istore c5_85 rfl rfl ?_
    dsimp only [setl]
    refine go_iincX (x' := 1) c5_87 rfl (by decide) ?_
    dsimp only [setl]
    refine go_goto c5_90 ?_
    refine go_aload c5_31 rfl rfl ?_
    refine go_get (y := (⟨"com/example/umbrella_state/umbrellastate/runtime/DelayedDeliveries", "poll", "()Lcom/example/umbrella_state/umbrellastate/runtime/Delivery;"⟩ : MethodName)) P0 (0) 0 c5_32 rfl rfl (t11 hw) ?_
    refine go_iload c5_35 rfl ?_
    refine go_iload c5_37 rfl ?_
    refine go_callS1 (y := (⟨"com/example/umbrella_state/umbrellastate/runtime/DelayedDeliveries", "poll", "()Lcom/example/umbrella_state/umbrellastate/runtime/Delivery;"⟩ : MethodName)) (W := 0) (argsL := [(.ref ha), (.int 1), (.int 2)]) (st := []) c5_38 (rm_L12 l Z a0 hw h0 n0 ha) (t53 hw) (t54 hw) (t2 hw) (t55 hw) (by decide) (lenOf pd2 rfl) rfl rfl (by decide) (by decide) (by decide) (by decide) rfl ?_
    rintro _ _ ⟨rfl, rfl⟩
    refine go_more (k' := 0) (n' := 0) (by decide) (by decide) ?_
    refine go_istore c5_41 rfl rfl ?_
    dsimp only [setl]
    refine go_iload c5_43 rfl ?_
    refine go_if_lt c5_45 (fun _ => ?_) (fun q => absurd q (by decide))
    refine go_aload c5_93 rfl rfl ?_
    refine go_get (y := (⟨"com/example/umbrella_state/umbrellastate/runtime/DelayedDeliveries", "poll", "()Lcom/example/umbrella_state/umbrellastate/runtime/Delivery;"⟩ : MethodName)) P0 (0) 0 c5_94 rfl rfl (t11 hw) ?_
    refine go_push c5_97 ?_
    refine go_aaloadH P0 (1) c5_98 rfl rfl (by decide) rfl ?_
    refine go_astore c5_99 rfl rfl rfl ?_
    dsimp only [setl]
    refine go_push c5_101 ?_
    refine go_istore c5_102 rfl rfl ?_
    dsimp only [setl]
    refine go_push c5_104 ?_
    refine go_istore c5_105 rfl rfl ?_
    dsimp only [setl]
    refine go_iload c5_107 rfl ?_
    refine go_iload c5_109 rfl ?_
    refine go_icmp_ge c5_111 (fun q => absurd q (by decide)) (fun _ => ?_)
    refine go_push c5_114 ?_
    refine go_iload c5_115 rfl ?_
    refine go_imul c5_117 ?_
    refine go_isI 0 (by decide) ?_
    refine go_push c5_118 ?_
    refine go_iadd c5_119 ?_
    refine go_isI 1 (by decide) ?_
    refine go_lload c5_120 rfl ?_
    refine go_iload c5_121 rfl ?_
    refine go_lushr c5_123 ?_
    refine go_lconst c5_124 ?_
    refine go_land c5_125 ?_
    refine go_l2i c5_126 ?_
    refine go_isI 0 (by decide) ?_
    refine go_iadd c5_127 ?_
    refine go_isI 1 (by decide) ?_
    refine go_istore c5_128 rfl rfl ?_
    dsimp only [setl]
    refine go_aload c5_130 rfl rfl ?_
    refine go_get (y := (⟨"com/example/umbrella_state/umbrellastate/runtime/DelayedDeliveries", "poll", "()Lcom/example/umbrella_state/umbrellastate/runtime/Delivery;"⟩ : MethodName)) P0 (0) 0 c5_131 rfl rfl (t11 hw) ?_
    refine go_iload c5_134 rfl ?_
    refine go_aload c5_136 rfl rfl ?_
    refine go_get (y := (⟨"com/example/umbrella_state/umbrellastate/runtime/DelayedDeliveries", "poll", "()Lcom/example/umbrella_state/umbrellastate/runtime/Delivery;"⟩ : MethodName)) P0 (0) 0 c5_137 rfl rfl (t11 hw) ?_
    refine go_iload c5_140 rfl ?_
    refine go_aaloadH P0 (1) c5_142 rfl rfl (by decide) rfl ?_
    refine go_aastoreH P0 1 c5_143 rfl rfl rfl (by decide) (Nat.le_of_ble_eq_true rfl) (P0.sto (i := 1) (j := j + 2) rfl hy) ?_
    intro h1 P2
    dsimp only [lupd] at P2
    refine go_iload c5_144 rfl ?_
    refine go_istore c5_146 rfl rfl ?_
    dsimp only [setl]
    refine go_iincX (x' := 1) c5_148 rfl (by decide) ?_
    dsimp only [setl]
    refine go_goto c5_151 ?_
    refine go_iload c5_107 rfl ?_
    refine go_iload c5_109 rfl ?_
    refine go_icmp_ge c5_111 (fun _ => ?_) (fun q => absurd q (by decide))
    refine go_aload c5_154 rfl rfl ?_
    refine go_get (y := (⟨"com/example/umbrella_state/umbrellastate/runtime/DelayedDeliveries", "poll", "()Lcom/example/umbrella_state/umbrellastate/runtime/Delivery;"⟩ : MethodName)) P2 (0) 0 c5_155 rfl rfl (t11 hw) ?_
    refine go_iload c5_158 rfl ?_
    refine go_aload c5_160 rfl rfl ?_
    refine go_aastoreH P2 1 c5_161 rfl rfl rfl (by decide) (Nat.le_of_ble_eq_true rfl) (P2.sto (i := 1) (j := n + 2) rfl hz) ?_
    intro h3 P4
    dsimp only [lupd] at P4
    refine go_aload c5_162 rfl rfl ?_
    refine go_get (y := (⟨"com/example/umbrella_state/umbrellastate/runtime/DelayedDeliveries", "poll", "()Lcom/example/umbrella_state/umbrellastate/runtime/Delivery;"⟩ : MethodName)) P4 (0) 0 c5_163 rfl rfl (t11 hw) ?_
    refine go_iload c5_166 rfl ?_
    refine go_null c5_167 ?_
    refine go_aastoreH P4 1 c5_168 rfl rfl rfl (by decide) (Nat.le_of_ble_eq_true rfl) (Or.inl rfl) ?_
    intro h5 P6
    dsimp only [lupd] at P6
    refine go_aload c5_169 rfl rfl ?_
    refine go_iload c5_170 rfl ?_
    refine go_put (y := (⟨"com/example/umbrella_state/umbrellastate/runtime/DelayedDeliveries", "poll", "()Lcom/example/umbrella_state/umbrellastate/runtime/Delivery;"⟩ : MethodName)) P6 0 1 .int c5_171 rfl rfl (t33 hw) (Or.inl (t34 hw)) (t1 hw) (by decide) rfl rfl ?_
    intro h7 P8
    dsimp only [lupd] at P8
    refine go_aload c5_174 rfl rfl ?_
    exact go_aret rfl rfl rfl c5_176 (by decide) (by decide) ⟨_, rfl, rfl, Or.inl ⟨b59, P8⟩⟩
  · refine go_goto c5_62 ?_
    refine go_aload c5_93 rfl rfl ?_
    refine go_get (y := (⟨"com/example/umbrella_state/umbrellastate/runtime/DelayedDeliveries", "poll", "()Lcom/example/umbrella_state/umbrellastate/runtime/Delivery;"⟩ : MethodName)) P0 (0) 0 c5_94 rfl rfl (t11 hw) ?_
    refine go_push c5_97 ?_
    refine go_aaloadH P0 (1) c5_98 rfl rfl (by decide) rfl ?_
    refine go_astore c5_99 rfl rfl rfl ?_
    dsimp only [setl]
    refine go_push c5_101 ?_
    refine go_istore c5_102 rfl rfl ?_
    dsimp only [setl]
    refine go_push c5_104 ?_
    refine go_istore c5_105 rfl rfl ?_
    dsimp only [setl]
    refine go_iload c5_107 rfl ?_
    refine go_iload c5_109 rfl ?_
    refine go_icmp_ge c5_111 (fun _ => ?_) (fun q => absurd q (by decide))
    refine go_aload c5_154 rfl rfl ?_
    refine go_get (y := (⟨"com/example/umbrella_state/umbrellastate/runtime/DelayedDeliveries", "poll", "()Lcom/example/umbrella_state/umbrellastate/runtime/Delivery;"⟩ : MethodName)) P0 (0) 0 c5_155 rfl rfl (t11 hw) ?_
    refine go_iload c5_158 rfl ?_
    refine go_aload c5_160 rfl rfl ?_
    refine go_aastoreH P0 1 c5_161 rfl rfl rfl (by decide) (Nat.le_of_ble_eq_true rfl) (P0.sto (i := 1) (j := n + 2) rfl hz) ?_
    intro h9 P10
    dsimp only [lupd] at P10
    refine go_aload c5_162 rfl rfl ?_
    refine go_get (y := (⟨"com/example/umbrella_state/umbrellastate/runtime/DelayedDeliveries", "poll", "()Lcom/example/umbrella_state/umbrellastate/runtime/Delivery;"⟩ : MethodName)) P10 (0) 0 c5_163 rfl rfl (t11 hw) ?_
    refine go_iload c5_166 rfl ?_
    refine go_null c5_167 ?_
    refine go_aastoreH P10 1 c5_168 rfl rfl rfl (by decide) (Nat.le_of_ble_eq_true rfl) (Or.inl rfl) ?_
    intro h11 P12
    dsimp only [lupd] at P12
    refine go_aload c5_169 rfl rfl ?_
    refine go_iload c5_170 rfl ?_
    refine go_put (y := (⟨"com/example/umbrella_state/umbrellastate/runtime/DelayedDeliveries", "poll", "()Lcom/example/umbrella_state/umbrellastate/runtime/Delivery;"⟩ : MethodName)) P12 0 1 .int c5_171 rfl rfl (t33 hw) (Or.inl (t34 hw)) (t1 hw) (by decide) rfl rfl ?_
    intro h13 P14
    dsimp only [lupd] at P14
    refine go_aload c5_174 rfl rfl ?_
    exact go_aret rfl rfl rfl c5_176 (by decide) (by decide) ⟨_, rfl, rfl, Or.inr ⟨b59, P14⟩⟩
set_option maxRecDepth 65536 in
set_option maxHeartbeats 4000000 in
theorem rm0 (l : Launch) (Z : State) (a0 : Array Value) (hw : ∀ d ∈ tables_1, d.before a0 Z = true) (h0 : Heap) (n0 : Nat) (P0 : Hp Z n0 h0 []) (a b : Int32) (d1 o1 d2 o2 : Int64) :
    Con false l Z x code maxLocals ret room_1 #[(.int a), (.int b), (.long d1), (.long o1), (.long d2), (.long o2)] h0 n0 (R1 fun w _ => w = .int 1) := by
  refine con_of (ls := [.val (.int a), .val (.int b), .val (.long d1), .second, .val (.long o1), .second, .val (.long d2), .second, .val (.long o2), .second, .unset, .unset, .unset, .unset, .unset, .unset, .unset]) (plainFor_of_name pn2) rfl ?_
  refine go_iload c0_0 rfl ?_
  refine go_push c0_1 ?_
  refine go_iand c0_2 ?_
  rcases own_n4 a with hn | hn | hn | hn
  · refine go_isI 0 hn ?_
    refine go_istore c0_3 rfl rfl ?_
    dsimp only [setl]
    refine go_iload c0_5 rfl ?_
    refine go_push c0_6 ?_
    refine go_iand c0_7 ?_
    rcases own_n4 b with hk | hk | hk | hk
    · refine go_isI 0 hk ?_
      refine go_istore c0_8 rfl rfl ?_
      dsimp only [setl]
      refine go_new (y := x) P0 [(("com/example/umbrella_state/umbrellastate/runtime/DelayedDeliveries", "heap", "[Lcom/example/umbrella_state/umbrellastate/runtime/Delivery;"), .null), (("com/example/umbrella_state/umbrellastate/runtime/DelayedDeliveries", "size", "I"), (.int 0))] c0_10 (t0 hw) (t1 hw) (t2 hw) (⟨⟨Or.inl (t12 hw), (.array (.object "com/example/umbrella_state/umbrellastate/runtime/Delivery")), by decide, rfl⟩, ⟨⟨Or.inl (t34 hw), .int, by decide, rfl⟩, trivial⟩⟩) (by decide) (by decide) (by decide) ?_
      intro h1 a3 P2
      refine go_more (k' := 1) (n' := 2) (by decide) (by decide) ?_
      refine go_dup c0_13 rfl ?_
      refine go_callN0 (y := x) (W := 1) (argsL := []) (st := [(.ref a3)]) c0_14 rfl rfl (rm_Q l Z a0 hw h1 n0 _ a3 P2) (t3 hw) (t4 hw) (t2 hw) (t5 hw) (by decide) (lenOf pd3 rfl) rfl rfl (by decide) (by decide) (by decide) (by decide) rfl ?_
      rintro h5 ⟨ha6, P4⟩
      refine go_more (k' := 2) (n' := 10) (by decide) (by decide) ?_
      refine go_astore c0_17 rfl rfl rfl ?_
      dsimp only [setl]
      refine go_new (y := x) P4 [(("com/example/umbrella_state/umbrellastate/runtime/Delivery", "handler", "Ljava/util/function/Consumer;"), .null), (("com/example/umbrella_state/umbrellastate/runtime/Delivery", "message", "Lcom/example/umbrella_state/umbrellastate/model/Message;"), .null), (("com/example/umbrella_state/umbrellastate/runtime/Delivery", "due", "J"), (.long 0)), (("com/example/umbrella_state/umbrellastate/runtime/Delivery", "order", "J"), (.long 0))] c0_19 (t13 hw) (t14 hw) (t15 hw) (⟨⟨Or.inl (t21 hw), (.object "java/util/function/Consumer"), by decide, rfl⟩, ⟨⟨Or.inl (t23 hw), (.object "com/example/umbrella_state/umbrellastate/model/Message"), by decide, rfl⟩, ⟨⟨Or.inr (t25 hw), .long, by decide, rfl⟩, ⟨⟨Or.inr (t27 hw), .long, by decide, rfl⟩, trivial⟩⟩⟩⟩) (by decide) (by decide) (by decide) ?_
      intro h7 a9 P8
      refine go_more (k' := 3) (n' := 15) (by decide) (by decide) ?_
      refine go_dup c0_22 rfl ?_
      refine go_null c0_23 ?_
      refine go_null c0_24 ?_
      refine go_lload c0_25 rfl ?_
      refine go_lload c0_26 rfl ?_
      refine go_callN0 (y := x) (W := 1) (argsL := [.null, .null, (.long d1), (.long o1)]) (st := [(.ref a9)]) c0_28 rfl rfl (rm_D l Z a0 hw h7 n0 _ a9 d1 o1 P8) (t16 hw) (t17 hw) (t15 hw) (t18 hw) (by decide) (lenOf pd4 rfl) rfl rfl (by decide) (by decide) (by decide) (by decide) rfl ?_
      intro h11 P10
      refine go_more (k' := 3) (n' := 15) (by decide) (by decide) ?_
      refine go_astore c0_31 rfl rfl rfl ?_
      dsimp only [setl]
      refine go_new (y := x) P10 [(("com/example/umbrella_state/umbrellastate/runtime/Delivery", "handler", "Ljava/util/function/Consumer;"), .null), (("com/example/umbrella_state/umbrellastate/runtime/Delivery", "message", "Lcom/example/umbrella_state/umbrellastate/model/Message;"), .null), (("com/example/umbrella_state/umbrellastate/runtime/Delivery", "due", "J"), (.long 0)), (("com/example/umbrella_state/umbrellastate/runtime/Delivery", "order", "J"), (.long 0))] c0_33 (t13 hw) (t14 hw) (t15 hw) (⟨⟨Or.inl (t21 hw), (.object "java/util/function/Consumer"), by decide, rfl⟩, ⟨⟨Or.inl (t23 hw), (.object "com/example/umbrella_state/umbrellastate/model/Message"), by decide, rfl⟩, ⟨⟨Or.inr (t25 hw), .long, by decide, rfl⟩, ⟨⟨Or.inr (t27 hw), .long, by decide, rfl⟩, trivial⟩⟩⟩⟩) (by decide) (by decide) (by decide) ?_
      intro h12 a14 P13
      refine go_more (k' := 4) (n' := 20) (by decide) (by decide) ?_
      refine go_dup c0_36 rfl ?_
      refine go_null c0_37 ?_
      refine go_null c0_38 ?_
      refine go_lload c0_39 rfl ?_
      refine go_lload c0_41 rfl ?_
      refine go_callN0 (y := x) (W := 1) (argsL := [.null, .null, (.long d2), (.long o2)]) (st := [(.ref a14)]) c0_43 rfl rfl (rm_D l Z a0 hw h12 n0 _ a14 d2 o2 P13) (t16 hw) (t17 hw) (t15 hw) (t18 hw) (by decide) (lenOf pd4 rfl) rfl rfl (by decide) (by decide) (by decide) (by decide) rfl ?_
      intro h16 P15
      refine go_more (k' := 4) (n' := 20) (by decide) (by decide) ?_
      have P17 : Hp Z n0 h16 ([(a3, (.inl ("com/example/umbrella_state/umbrellastate/runtime/DelayedDeliveries", [(("com/example/umbrella_state/umbrellastate/runtime/DelayedDeliveries", "heap", "[Lcom/example/umbrella_state/umbrellastate/runtime/Delivery;"), (.ref ha6)), (("com/example/umbrella_state/umbrellastate/runtime/DelayedDeliveries", "size", "I"), (.int 0))]))), (ha6, (.inr ((.object "com/example/umbrella_state/umbrellastate/runtime/Delivery"), "[Lcom/example/umbrella_state/umbrellastate/runtime/Delivery;", [.null, .null, .null, .null, .null, .null, .null, .null]))), (a14, (.inl ("com/example/umbrella_state/umbrellastate/runtime/Delivery", [(("com/example/umbrella_state/umbrellastate/runtime/Delivery", "handler", "Ljava/util/function/Consumer;"), .null), (("com/example/umbrella_state/umbrellastate/runtime/Delivery", "message", "Lcom/example/umbrella_state/umbrellastate/model/Message;"), .null), (("com/example/umbrella_state/umbrellastate/runtime/Delivery", "due", "J"), (.long d2)), (("com/example/umbrella_state/umbrellastate/runtime/Delivery", "order", "J"), (.long o2))]))), (a9, (.inl ("com/example/umbrella_state/umbrellastate/runtime/Delivery", [(("com/example/umbrella_state/umbrellastate/runtime/Delivery", "handler", "Ljava/util/function/Consumer;"), .null), (("com/example/umbrella_state/umbrellastate/runtime/Delivery", "message", "Lcom/example/umbrella_state/umbrellastate/model/Message;"), .null), (("com/example/umbrella_state/umbrellastate/runtime/Delivery", "due", "J"), (.long d1)), (("com/example/umbrella_state/umbrellastate/runtime/Delivery", "order", "J"), (.long o1))])))]) := ((P15.front 3).front 3)
      refine go_astore c0_46 rfl rfl rfl ?_
      dsimp only [setl]
      refine go_iload c0_48 rfl ?_
      refine go_push c0_50 ?_
      refine go_icmp_lt c0_51 (fun _ => ?_) (fun q => absurd q (by decide))
      refine go_iload c0_61 rfl ?_
      refine go_push c0_63 ?_
      refine go_icmp_lt c0_64 (fun _ => ?_) (fun q => absurd q (by decide))
      refine go_iload c0_74 rfl ?_
      refine go_push c0_76 ?_
      refine go_icmp_lt c0_77 (fun _ => ?_) (fun q => absurd q (by decide))
      refine go_aload c0_87 rfl rfl ?_
      refine go_callV1 (y := x) (W := 0) (argsL := []) (st := []) c0_89 (rm_E l Z a0 hw h16 n0 _ a3 _ 0 P17) (P17.exa (i := 0) rfl) (t28 hw) (t29 hw) (fun _ q => notFace_of_selects (args := #[]) (mvT q (t31 hw))) (t31 hw) (t30 hw) (t2 hw) (t32 hw) (by decide) (lenOf pd5 rfl) rfl rfl (by decide) (by decide) (by decide) (by decide) rfl ?_
      rintro _ _ ⟨rfl, rfl⟩
      refine go_more (k' := 4) (n' := 20) (by decide) (by decide) ?_
      refine go_isI 1 (by decide) ?_
      refine go_iload c0_92 rfl ?_
      refine go_if_ne c0_94 (fun q => absurd q (by decide)) (fun _ => ?_)
      refine go_push c0_97 ?_
      refine go_goto c0_98 ?_
      refine go_icmp_ne c0_102 (fun q => absurd q (by decide)) (fun _ => ?_)
      refine go_push c0_105 ?_
      refine go_goto c0_106 ?_
      refine go_istore c0_110 rfl rfl ?_
      dsimp only [setl]
      refine go_iload c0_112 rfl ?_
      refine go_push c0_114 ?_
      refine go_icmp_lt c0_115 (fun _ => ?_) (fun q => absurd q (by decide))
      refine go_iload c0_124 rfl ?_
      refine go_push c0_126 ?_
      refine go_icmp_lt c0_127 (fun _ => ?_) (fun q => absurd q (by decide))
      refine go_iload c0_136 rfl ?_
      refine go_push c0_138 ?_
      refine go_icmp_lt c0_139 (fun _ => ?_) (fun q => absurd q (by decide))
      refine go_aload c0_148 rfl rfl ?_
      refine go_callV1 (y := x) (W := 0) (argsL := []) (st := []) c0_150 (rm_E l Z a0 hw h16 n0 _ a3 _ 0 P17) (P17.exa (i := 0) rfl) (t28 hw) (t29 hw) (fun _ q => notFace_of_selects (args := #[]) (mvT q (t31 hw))) (t31 hw) (t30 hw) (t2 hw) (t32 hw) (by decide) (lenOf pd5 rfl) rfl rfl (by decide) (by decide) (by decide) (by decide) rfl ?_
      rintro _ _ ⟨rfl, rfl⟩
      refine go_more (k' := 4) (n' := 20) (by decide) (by decide) ?_
      refine go_isI 1 (by decide) ?_
      refine go_iload c0_153 rfl ?_
      refine go_iload c0_155 rfl ?_
      refine go_icmp_gt c0_157 (fun q => absurd q (by decide)) (fun _ => ?_)
      refine go_push c0_160 ?_
      refine go_goto c0_161 ?_
      refine go_icmp_ne c0_165 (fun q => absurd q (by decide)) (fun _ => ?_)
      refine go_push c0_168 ?_
      refine go_goto c0_169 ?_
      refine go_istore c0_173 rfl rfl ?_
      dsimp only [setl]
      refine go_iload c0_175 rfl ?_
      refine go_if_eq c0_177 (fun q => absurd q (by decide)) (fun _ => ?_)
      refine go_iload c0_180 rfl ?_
      refine go_if_eq c0_182 (fun q => absurd q (by decide)) (fun _ => ?_)
      refine go_push c0_185 ?_
      refine go_goto c0_186 ?_
      exact go_bret rfl c0_190 (by decide) (by decide) (by decide) ⟨_, rfl, rfl⟩
    · refine go_isI 1 hk ?_
      refine go_istore c0_8 rfl rfl ?_
      dsimp only [setl]
      refine go_new (y := x) P0 [(("com/example/umbrella_state/umbrellastate/runtime/DelayedDeliveries", "heap", "[Lcom/example/umbrella_state/umbrellastate/runtime/Delivery;"), .null), (("com/example/umbrella_state/umbrellastate/runtime/DelayedDeliveries", "size", "I"), (.int 0))] c0_10 (t0 hw) (t1 hw) (t2 hw) (⟨⟨Or.inl (t12 hw), (.array (.object "com/example/umbrella_state/umbrellastate/runtime/Delivery")), by decide, rfl⟩, ⟨⟨Or.inl (t34 hw), .int, by decide, rfl⟩, trivial⟩⟩) (by decide) (by decide) (by decide) ?_
      intro h18 a20 P19
      refine go_more (k' := 1) (n' := 2) (by decide) (by decide) ?_
      refine go_dup c0_13 rfl ?_
      refine go_callN0 (y := x) (W := 1) (argsL := []) (st := [(.ref a20)]) c0_14 rfl rfl (rm_Q l Z a0 hw h18 n0 _ a20 P19) (t3 hw) (t4 hw) (t2 hw) (t5 hw) (by decide) (lenOf pd3 rfl) rfl rfl (by decide) (by decide) (by decide) (by decide) rfl ?_
      rintro h22 ⟨ha23, P21⟩
      refine go_more (k' := 2) (n' := 10) (by decide) (by decide) ?_
      refine go_astore c0_17 rfl rfl rfl ?_
      dsimp only [setl]
      refine go_new (y := x) P21 [(("com/example/umbrella_state/umbrellastate/runtime/Delivery", "handler", "Ljava/util/function/Consumer;"), .null), (("com/example/umbrella_state/umbrellastate/runtime/Delivery", "message", "Lcom/example/umbrella_state/umbrellastate/model/Message;"), .null), (("com/example/umbrella_state/umbrellastate/runtime/Delivery", "due", "J"), (.long 0)), (("com/example/umbrella_state/umbrellastate/runtime/Delivery", "order", "J"), (.long 0))] c0_19 (t13 hw) (t14 hw) (t15 hw) (⟨⟨Or.inl (t21 hw), (.object "java/util/function/Consumer"), by decide, rfl⟩, ⟨⟨Or.inl (t23 hw), (.object "com/example/umbrella_state/umbrellastate/model/Message"), by decide, rfl⟩, ⟨⟨Or.inr (t25 hw), .long, by decide, rfl⟩, ⟨⟨Or.inr (t27 hw), .long, by decide, rfl⟩, trivial⟩⟩⟩⟩) (by decide) (by decide) (by decide) ?_
      intro h24 a26 P25
      refine go_more (k' := 3) (n' := 15) (by decide) (by decide) ?_
      refine go_dup c0_22 rfl ?_
      refine go_null c0_23 ?_
      refine go_null c0_24 ?_
      refine go_lload c0_25 rfl ?_
      refine go_lload c0_26 rfl ?_
      refine go_callN0 (y := x) (W := 1) (argsL := [.null, .null, (.long d1), (.long o1)]) (st := [(.ref a26)]) c0_28 rfl rfl (rm_D l Z a0 hw h24 n0 _ a26 d1 o1 P25) (t16 hw) (t17 hw) (t15 hw) (t18 hw) (by decide) (lenOf pd4 rfl) rfl rfl (by decide) (by decide) (by decide) (by decide) rfl ?_
      intro h28 P27
      refine go_more (k' := 3) (n' := 15) (by decide) (by decide) ?_
      refine go_astore c0_31 rfl rfl rfl ?_
      dsimp only [setl]
      refine go_new (y := x) P27 [(("com/example/umbrella_state/umbrellastate/runtime/Delivery", "handler", "Ljava/util/function/Consumer;"), .null), (("com/example/umbrella_state/umbrellastate/runtime/Delivery", "message", "Lcom/example/umbrella_state/umbrellastate/model/Message;"), .null), (("com/example/umbrella_state/umbrellastate/runtime/Delivery", "due", "J"), (.long 0)), (("com/example/umbrella_state/umbrellastate/runtime/Delivery", "order", "J"), (.long 0))] c0_33 (t13 hw) (t14 hw) (t15 hw) (⟨⟨Or.inl (t21 hw), (.object "java/util/function/Consumer"), by decide, rfl⟩, ⟨⟨Or.inl (t23 hw), (.object "com/example/umbrella_state/umbrellastate/model/Message"), by decide, rfl⟩, ⟨⟨Or.inr (t25 hw), .long, by decide, rfl⟩, ⟨⟨Or.inr (t27 hw), .long, by decide, rfl⟩, trivial⟩⟩⟩⟩) (by decide) (by decide) (by decide) ?_
      intro h29 a31 P30
      refine go_more (k' := 4) (n' := 20) (by decide) (by decide) ?_
      refine go_dup c0_36 rfl ?_
      refine go_null c0_37 ?_
      refine go_null c0_38 ?_
      refine go_lload c0_39 rfl ?_
      refine go_lload c0_41 rfl ?_
      refine go_callN0 (y := x) (W := 1) (argsL := [.null, .null, (.long d2), (.long o2)]) (st := [(.ref a31)]) c0_43 rfl rfl (rm_D l Z a0 hw h29 n0 _ a31 d2 o2 P30) (t16 hw) (t17 hw) (t15 hw) (t18 hw) (by decide) (lenOf pd4 rfl) rfl rfl (by decide) (by decide) (by decide) (by decide) rfl ?_
      intro h33 P32
      refine go_more (k' := 4) (n' := 20) (by decide) (by decide) ?_
      have P34 : Hp Z n0 h33 ([(a20, (.inl ("com/example/umbrella_state/umbrellastate/runtime/DelayedDeliveries", [(("com/example/umbrella_state/umbrellastate/runtime/DelayedDeliveries", "heap", "[Lcom/example/umbrella_state/umbrellastate/runtime/Delivery;"), (.ref ha23)), (("com/example/umbrella_state/umbrellastate/runtime/DelayedDeliveries", "size", "I"), (.int 0))]))), (ha23, (.inr ((.object "com/example/umbrella_state/umbrellastate/runtime/Delivery"), "[Lcom/example/umbrella_state/umbrellastate/runtime/Delivery;", [.null, .null, .null, .null, .null, .null, .null, .null]))), (a31, (.inl ("com/example/umbrella_state/umbrellastate/runtime/Delivery", [(("com/example/umbrella_state/umbrellastate/runtime/Delivery", "handler", "Ljava/util/function/Consumer;"), .null), (("com/example/umbrella_state/umbrellastate/runtime/Delivery", "message", "Lcom/example/umbrella_state/umbrellastate/model/Message;"), .null), (("com/example/umbrella_state/umbrellastate/runtime/Delivery", "due", "J"), (.long d2)), (("com/example/umbrella_state/umbrellastate/runtime/Delivery", "order", "J"), (.long o2))]))), (a26, (.inl ("com/example/umbrella_state/umbrellastate/runtime/Delivery", [(("com/example/umbrella_state/umbrellastate/runtime/Delivery", "handler", "Ljava/util/function/Consumer;"), .null), (("com/example/umbrella_state/umbrellastate/runtime/Delivery", "message", "Lcom/example/umbrella_state/umbrellastate/model/Message;"), .null), (("com/example/umbrella_state/umbrellastate/runtime/Delivery", "due", "J"), (.long d1)), (("com/example/umbrella_state/umbrellastate/runtime/Delivery", "order", "J"), (.long o1))])))]) := ((P32.front 3).front 3)
      refine go_astore c0_46 rfl rfl rfl ?_
      dsimp only [setl]
      refine go_iload c0_48 rfl ?_
      refine go_push c0_50 ?_
      refine go_icmp_lt c0_51 (fun _ => ?_) (fun q => absurd q (by decide))
      refine go_iload c0_61 rfl ?_
      refine go_push c0_63 ?_
      refine go_icmp_lt c0_64 (fun _ => ?_) (fun q => absurd q (by decide))
      refine go_iload c0_74 rfl ?_
      refine go_push c0_76 ?_
      refine go_icmp_lt c0_77 (fun _ => ?_) (fun q => absurd q (by decide))
      refine go_aload c0_87 rfl rfl ?_
      refine go_callV1 (y := x) (W := 0) (argsL := []) (st := []) c0_89 (rm_E l Z a0 hw h33 n0 _ a20 _ 0 P34) (P34.exa (i := 0) rfl) (t28 hw) (t29 hw) (fun _ q => notFace_of_selects (args := #[]) (mvT q (t31 hw))) (t31 hw) (t30 hw) (t2 hw) (t32 hw) (by decide) (lenOf pd5 rfl) rfl rfl (by decide) (by decide) (by decide) (by decide) rfl ?_
      rintro _ _ ⟨rfl, rfl⟩
      refine go_more (k' := 4) (n' := 20) (by decide) (by decide) ?_
      refine go_isI 1 (by decide) ?_
      refine go_iload c0_92 rfl ?_
      refine go_if_ne c0_94 (fun q => absurd q (by decide)) (fun _ => ?_)
      refine go_push c0_97 ?_
      refine go_goto c0_98 ?_
      refine go_icmp_ne c0_102 (fun q => absurd q (by decide)) (fun _ => ?_)
      refine go_push c0_105 ?_
      refine go_goto c0_106 ?_
      refine go_istore c0_110 rfl rfl ?_
      dsimp only [setl]
      refine go_iload c0_112 rfl ?_
      refine go_push c0_114 ?_
      refine go_icmp_lt c0_115 (fun q => absurd q (by decide)) (fun _ => ?_)
      refine go_aload c0_118 rfl rfl ?_
      refine go_callV1 (y := x) (W := 0) (argsL := []) (st := []) c0_120 (rm_O0 l Z a0 hw h33 n0 _ a20 ha23 P34) (P34.exa (i := 0) rfl) (t35 hw) (t36 hw) (fun _ q => notFace_of_selects (args := #[]) (mvT q (t38 hw))) (t38 hw) (t37 hw) (t2 hw) (t39 hw) (by decide) (lenOf pd6 rfl) rfl rfl (by decide) (by decide) (by decide) (by decide) rfl ?_
      rintro r37 h36 ⟨hr_r37, P35⟩
      refine go_more (k' := 4) (n' := 20) (by decide) (by decide) ?_
      refine go_pop c0_123 (XT.cat1 hr_r37) ?_
      refine go_iload c0_124 rfl ?_
      refine go_push c0_126 ?_
      refine go_icmp_lt c0_127 (fun _ => ?_) (fun q => absurd q (by decide))
      refine go_iload c0_136 rfl ?_
      refine go_push c0_138 ?_
      refine go_icmp_lt c0_139 (fun _ => ?_) (fun q => absurd q (by decide))
      refine go_aload c0_148 rfl rfl ?_
      refine go_callV1 (y := x) (W := 0) (argsL := []) (st := []) c0_150 (rm_E l Z a0 hw h36 n0 _ a20 _ 0 P35) (P35.exa (i := 0) rfl) (t28 hw) (t29 hw) (fun _ q => notFace_of_selects (args := #[]) (mvT q (t31 hw))) (t31 hw) (t30 hw) (t2 hw) (t32 hw) (by decide) (lenOf pd5 rfl) rfl rfl (by decide) (by decide) (by decide) (by decide) rfl ?_
      rintro _ _ ⟨rfl, rfl⟩
      refine go_more (k' := 4) (n' := 20) (by decide) (by decide) ?_
      refine go_isI 1 (by decide) ?_
      refine go_iload c0_153 rfl ?_
      refine go_iload c0_155 rfl ?_
      refine go_icmp_gt c0_157 (fun q => absurd q (by decide)) (fun _ => ?_)
      refine go_push c0_160 ?_
      refine go_goto c0_161 ?_
      refine go_icmp_ne c0_165 (fun q => absurd q (by decide)) (fun _ => ?_)
      refine go_push c0_168 ?_
      refine go_goto c0_169 ?_
      refine go_istore c0_173 rfl rfl ?_
      dsimp only [setl]
      refine go_iload c0_175 rfl ?_
      refine go_if_eq c0_177 (fun q => absurd q (by decide)) (fun _ => ?_)
      refine go_iload c0_180 rfl ?_
      refine go_if_eq c0_182 (fun q => absurd q (by decide)) (fun _ => ?_)
      refine go_push c0_185 ?_
      refine go_goto c0_186 ?_
      exact go_bret rfl c0_190 (by decide) (by decide) (by decide) ⟨_, rfl, rfl⟩
    · refine go_isI 2 hk ?_
      refine go_istore c0_8 rfl rfl ?_
      dsimp only [setl]
      refine go_new (y := x) P0 [(("com/example/umbrella_state/umbrellastate/runtime/DelayedDeliveries", "heap", "[Lcom/example/umbrella_state/umbrellastate/runtime/Delivery;"), .null), (("com/example/umbrella_state/umbrellastate/runtime/DelayedDeliveries", "size", "I"), (.int 0))] c0_10 (t0 hw) (t1 hw) (t2 hw) (⟨⟨Or.inl (t12 hw), (.array (.object "com/example/umbrella_state/umbrellastate/runtime/Delivery")), by decide, rfl⟩, ⟨⟨Or.inl (t34 hw), .int, by decide, rfl⟩, trivial⟩⟩) (by decide) (by decide) (by decide) ?_
      intro h39 a41 P40
      refine go_more (k' := 1) (n' := 2) (by decide) (by decide) ?_
      refine go_dup c0_13 rfl ?_
      refine go_callN0 (y := x) (W := 1) (argsL := []) (st := [(.ref a41)]) c0_14 rfl rfl (rm_Q l Z a0 hw h39 n0 _ a41 P40) (t3 hw) (t4 hw) (t2 hw) (t5 hw) (by decide) (lenOf pd3 rfl) rfl rfl (by decide) (by decide) (by decide) (by decide) rfl ?_
      rintro h43 ⟨ha44, P42⟩
      refine go_more (k' := 2) (n' := 10) (by decide) (by decide) ?_
      refine go_astore c0_17 rfl rfl rfl ?_
      dsimp only [setl]
      refine go_new (y := x) P42 [(("com/example/umbrella_state/umbrellastate/runtime/Delivery", "handler", "Ljava/util/function/Consumer;"), .null), (("com/example/umbrella_state/umbrellastate/runtime/Delivery", "message", "Lcom/example/umbrella_state/umbrellastate/model/Message;"), .null), (("com/example/umbrella_state/umbrellastate/runtime/Delivery", "due", "J"), (.long 0)), (("com/example/umbrella_state/umbrellastate/runtime/Delivery", "order", "J"), (.long 0))] c0_19 (t13 hw) (t14 hw) (t15 hw) (⟨⟨Or.inl (t21 hw), (.object "java/util/function/Consumer"), by decide, rfl⟩, ⟨⟨Or.inl (t23 hw), (.object "com/example/umbrella_state/umbrellastate/model/Message"), by decide, rfl⟩, ⟨⟨Or.inr (t25 hw), .long, by decide, rfl⟩, ⟨⟨Or.inr (t27 hw), .long, by decide, rfl⟩, trivial⟩⟩⟩⟩) (by decide) (by decide) (by decide) ?_
      intro h45 a47 P46
      refine go_more (k' := 3) (n' := 15) (by decide) (by decide) ?_
      refine go_dup c0_22 rfl ?_
      refine go_null c0_23 ?_
      refine go_null c0_24 ?_
      refine go_lload c0_25 rfl ?_
      refine go_lload c0_26 rfl ?_
      refine go_callN0 (y := x) (W := 1) (argsL := [.null, .null, (.long d1), (.long o1)]) (st := [(.ref a47)]) c0_28 rfl rfl (rm_D l Z a0 hw h45 n0 _ a47 d1 o1 P46) (t16 hw) (t17 hw) (t15 hw) (t18 hw) (by decide) (lenOf pd4 rfl) rfl rfl (by decide) (by decide) (by decide) (by decide) rfl ?_
      intro h49 P48
      refine go_more (k' := 3) (n' := 15) (by decide) (by decide) ?_
      refine go_astore c0_31 rfl rfl rfl ?_
      dsimp only [setl]
      refine go_new (y := x) P48 [(("com/example/umbrella_state/umbrellastate/runtime/Delivery", "handler", "Ljava/util/function/Consumer;"), .null), (("com/example/umbrella_state/umbrellastate/runtime/Delivery", "message", "Lcom/example/umbrella_state/umbrellastate/model/Message;"), .null), (("com/example/umbrella_state/umbrellastate/runtime/Delivery", "due", "J"), (.long 0)), (("com/example/umbrella_state/umbrellastate/runtime/Delivery", "order", "J"), (.long 0))] c0_33 (t13 hw) (t14 hw) (t15 hw) (⟨⟨Or.inl (t21 hw), (.object "java/util/function/Consumer"), by decide, rfl⟩, ⟨⟨Or.inl (t23 hw), (.object "com/example/umbrella_state/umbrellastate/model/Message"), by decide, rfl⟩, ⟨⟨Or.inr (t25 hw), .long, by decide, rfl⟩, ⟨⟨Or.inr (t27 hw), .long, by decide, rfl⟩, trivial⟩⟩⟩⟩) (by decide) (by decide) (by decide) ?_
      intro h50 a52 P51
      refine go_more (k' := 4) (n' := 20) (by decide) (by decide) ?_
      refine go_dup c0_36 rfl ?_
      refine go_null c0_37 ?_
      refine go_null c0_38 ?_
      refine go_lload c0_39 rfl ?_
      refine go_lload c0_41 rfl ?_
      refine go_callN0 (y := x) (W := 1) (argsL := [.null, .null, (.long d2), (.long o2)]) (st := [(.ref a52)]) c0_43 rfl rfl (rm_D l Z a0 hw h50 n0 _ a52 d2 o2 P51) (t16 hw) (t17 hw) (t15 hw) (t18 hw) (by decide) (lenOf pd4 rfl) rfl rfl (by decide) (by decide) (by decide) (by decide) rfl ?_
      intro h54 P53
      refine go_more (k' := 4) (n' := 20) (by decide) (by decide) ?_
      have P55 : Hp Z n0 h54 ([(a41, (.inl ("com/example/umbrella_state/umbrellastate/runtime/DelayedDeliveries", [(("com/example/umbrella_state/umbrellastate/runtime/DelayedDeliveries", "heap", "[Lcom/example/umbrella_state/umbrellastate/runtime/Delivery;"), (.ref ha44)), (("com/example/umbrella_state/umbrellastate/runtime/DelayedDeliveries", "size", "I"), (.int 0))]))), (ha44, (.inr ((.object "com/example/umbrella_state/umbrellastate/runtime/Delivery"), "[Lcom/example/umbrella_state/umbrellastate/runtime/Delivery;", [.null, .null, .null, .null, .null, .null, .null, .null]))), (a52, (.inl ("com/example/umbrella_state/umbrellastate/runtime/Delivery", [(("com/example/umbrella_state/umbrellastate/runtime/Delivery", "handler", "Ljava/util/function/Consumer;"), .null), (("com/example/umbrella_state/umbrellastate/runtime/Delivery", "message", "Lcom/example/umbrella_state/umbrellastate/model/Message;"), .null), (("com/example/umbrella_state/umbrellastate/runtime/Delivery", "due", "J"), (.long d2)), (("com/example/umbrella_state/umbrellastate/runtime/Delivery", "order", "J"), (.long o2))]))), (a47, (.inl ("com/example/umbrella_state/umbrellastate/runtime/Delivery", [(("com/example/umbrella_state/umbrellastate/runtime/Delivery", "handler", "Ljava/util/function/Consumer;"), .null), (("com/example/umbrella_state/umbrellastate/runtime/Delivery", "message", "Lcom/example/umbrella_state/umbrellastate/model/Message;"), .null), (("com/example/umbrella_state/umbrellastate/runtime/Delivery", "due", "J"), (.long d1)), (("com/example/umbrella_state/umbrellastate/runtime/Delivery", "order", "J"), (.long o1))])))]) := ((P53.front 3).front 3)
      refine go_astore c0_46 rfl rfl rfl ?_
      dsimp only [setl]
      refine go_iload c0_48 rfl ?_
      refine go_push c0_50 ?_
      refine go_icmp_lt c0_51 (fun _ => ?_) (fun q => absurd q (by decide))
      refine go_iload c0_61 rfl ?_
      refine go_push c0_63 ?_
      refine go_icmp_lt c0_64 (fun _ => ?_) (fun q => absurd q (by decide))
      refine go_iload c0_74 rfl ?_
      refine go_push c0_76 ?_
      refine go_icmp_lt c0_77 (fun _ => ?_) (fun q => absurd q (by decide))
      refine go_aload c0_87 rfl rfl ?_
      refine go_callV1 (y := x) (W := 0) (argsL := []) (st := []) c0_89 (rm_E l Z a0 hw h54 n0 _ a41 _ 0 P55) (P55.exa (i := 0) rfl) (t28 hw) (t29 hw) (fun _ q => notFace_of_selects (args := #[]) (mvT q (t31 hw))) (t31 hw) (t30 hw) (t2 hw) (t32 hw) (by decide) (lenOf pd5 rfl) rfl rfl (by decide) (by decide) (by decide) (by decide) rfl ?_
      rintro _ _ ⟨rfl, rfl⟩
      refine go_more (k' := 4) (n' := 20) (by decide) (by decide) ?_
      refine go_isI 1 (by decide) ?_
      refine go_iload c0_92 rfl ?_
      refine go_if_ne c0_94 (fun q => absurd q (by decide)) (fun _ => ?_)
      refine go_push c0_97 ?_
      refine go_goto c0_98 ?_
      refine go_icmp_ne c0_102 (fun q => absurd q (by decide)) (fun _ => ?_)
      refine go_push c0_105 ?_
      refine go_goto c0_106 ?_
      refine go_istore c0_110 rfl rfl ?_
      dsimp only [setl]
      refine go_iload c0_112 rfl ?_
      refine go_push c0_114 ?_
      refine go_icmp_lt c0_115 (fun q => absurd q (by decide)) (fun _ => ?_)
      refine go_aload c0_118 rfl rfl ?_
      refine go_callV1 (y := x) (W := 0) (argsL := []) (st := []) c0_120 (rm_O0 l Z a0 hw h54 n0 _ a41 ha44 P55) (P55.exa (i := 0) rfl) (t35 hw) (t36 hw) (fun _ q => notFace_of_selects (args := #[]) (mvT q (t38 hw))) (t38 hw) (t37 hw) (t2 hw) (t39 hw) (by decide) (lenOf pd6 rfl) rfl rfl (by decide) (by decide) (by decide) (by decide) rfl ?_
      rintro r58 h57 ⟨hr_r58, P56⟩
      refine go_more (k' := 4) (n' := 20) (by decide) (by decide) ?_
      refine go_pop c0_123 (XT.cat1 hr_r58) ?_
      refine go_iload c0_124 rfl ?_
      refine go_push c0_126 ?_
      refine go_icmp_lt c0_127 (fun q => absurd q (by decide)) (fun _ => ?_)
      refine go_aload c0_130 rfl rfl ?_
      refine go_callV1 (y := x) (W := 0) (argsL := []) (st := []) c0_132 (rm_O0 l Z a0 hw h57 n0 _ a41 ha44 P56) (P56.exa (i := 0) rfl) (t35 hw) (t36 hw) (fun _ q => notFace_of_selects (args := #[]) (mvT q (t38 hw))) (t38 hw) (t37 hw) (t2 hw) (t39 hw) (by decide) (lenOf pd6 rfl) rfl rfl (by decide) (by decide) (by decide) (by decide) rfl ?_
      rintro r62 h61 ⟨hr_r62, P60⟩
      refine go_more (k' := 4) (n' := 20) (by decide) (by decide) ?_
      refine go_pop c0_135 (XT.cat1 hr_r62) ?_
      refine go_iload c0_136 rfl ?_
      refine go_push c0_138 ?_
      refine go_icmp_lt c0_139 (fun _ => ?_) (fun q => absurd q (by decide))
      refine go_aload c0_148 rfl rfl ?_
      refine go_callV1 (y := x) (W := 0) (argsL := []) (st := []) c0_150 (rm_E l Z a0 hw h61 n0 _ a41 _ 0 P60) (P60.exa (i := 0) rfl) (t28 hw) (t29 hw) (fun _ q => notFace_of_selects (args := #[]) (mvT q (t31 hw))) (t31 hw) (t30 hw) (t2 hw) (t32 hw) (by decide) (lenOf pd5 rfl) rfl rfl (by decide) (by decide) (by decide) (by decide) rfl ?_
      rintro _ _ ⟨rfl, rfl⟩
      refine go_more (k' := 4) (n' := 20) (by decide) (by decide) ?_
      refine go_isI 1 (by decide) ?_
      refine go_iload c0_153 rfl ?_
      refine go_iload c0_155 rfl ?_
      refine go_icmp_gt c0_157 (fun q => absurd q (by decide)) (fun _ => ?_)
      refine go_push c0_160 ?_
      refine go_goto c0_161 ?_
      refine go_icmp_ne c0_165 (fun q => absurd q (by decide)) (fun _ => ?_)
      refine go_push c0_168 ?_
      refine go_goto c0_169 ?_
      refine go_istore c0_173 rfl rfl ?_
      dsimp only [setl]
      refine go_iload c0_175 rfl ?_
      refine go_if_eq c0_177 (fun q => absurd q (by decide)) (fun _ => ?_)
      refine go_iload c0_180 rfl ?_
      refine go_if_eq c0_182 (fun q => absurd q (by decide)) (fun _ => ?_)
      refine go_push c0_185 ?_
      refine go_goto c0_186 ?_
      exact go_bret rfl c0_190 (by decide) (by decide) (by decide) ⟨_, rfl, rfl⟩
    · refine go_isI 3 hk ?_
      refine go_istore c0_8 rfl rfl ?_
      dsimp only [setl]
      refine go_new (y := x) P0 [(("com/example/umbrella_state/umbrellastate/runtime/DelayedDeliveries", "heap", "[Lcom/example/umbrella_state/umbrellastate/runtime/Delivery;"), .null), (("com/example/umbrella_state/umbrellastate/runtime/DelayedDeliveries", "size", "I"), (.int 0))] c0_10 (t0 hw) (t1 hw) (t2 hw) (⟨⟨Or.inl (t12 hw), (.array (.object "com/example/umbrella_state/umbrellastate/runtime/Delivery")), by decide, rfl⟩, ⟨⟨Or.inl (t34 hw), .int, by decide, rfl⟩, trivial⟩⟩) (by decide) (by decide) (by decide) ?_
      intro h64 a66 P65
      refine go_more (k' := 1) (n' := 2) (by decide) (by decide) ?_
      refine go_dup c0_13 rfl ?_
      refine go_callN0 (y := x) (W := 1) (argsL := []) (st := [(.ref a66)]) c0_14 rfl rfl (rm_Q l Z a0 hw h64 n0 _ a66 P65) (t3 hw) (t4 hw) (t2 hw) (t5 hw) (by decide) (lenOf pd3 rfl) rfl rfl (by decide) (by decide) (by decide) (by decide) rfl ?_
      rintro h68 ⟨ha69, P67⟩
      refine go_more (k' := 2) (n' := 10) (by decide) (by decide) ?_
      refine go_astore c0_17 rfl rfl rfl ?_
      dsimp only [setl]
      refine go_new (y := x) P67 [(("com/example/umbrella_state/umbrellastate/runtime/Delivery", "handler", "Ljava/util/function/Consumer;"), .null), (("com/example/umbrella_state/umbrellastate/runtime/Delivery", "message", "Lcom/example/umbrella_state/umbrellastate/model/Message;"), .null), (("com/example/umbrella_state/umbrellastate/runtime/Delivery", "due", "J"), (.long 0)), (("com/example/umbrella_state/umbrellastate/runtime/Delivery", "order", "J"), (.long 0))] c0_19 (t13 hw) (t14 hw) (t15 hw) (⟨⟨Or.inl (t21 hw), (.object "java/util/function/Consumer"), by decide, rfl⟩, ⟨⟨Or.inl (t23 hw), (.object "com/example/umbrella_state/umbrellastate/model/Message"), by decide, rfl⟩, ⟨⟨Or.inr (t25 hw), .long, by decide, rfl⟩, ⟨⟨Or.inr (t27 hw), .long, by decide, rfl⟩, trivial⟩⟩⟩⟩) (by decide) (by decide) (by decide) ?_
      intro h70 a72 P71
      refine go_more (k' := 3) (n' := 15) (by decide) (by decide) ?_
      refine go_dup c0_22 rfl ?_
      refine go_null c0_23 ?_
      refine go_null c0_24 ?_
      refine go_lload c0_25 rfl ?_
      refine go_lload c0_26 rfl ?_
      refine go_callN0 (y := x) (W := 1) (argsL := [.null, .null, (.long d1), (.long o1)]) (st := [(.ref a72)]) c0_28 rfl rfl (rm_D l Z a0 hw h70 n0 _ a72 d1 o1 P71) (t16 hw) (t17 hw) (t15 hw) (t18 hw) (by decide) (lenOf pd4 rfl) rfl rfl (by decide) (by decide) (by decide) (by decide) rfl ?_
      intro h74 P73
      refine go_more (k' := 3) (n' := 15) (by decide) (by decide) ?_
      refine go_astore c0_31 rfl rfl rfl ?_
      dsimp only [setl]
      refine go_new (y := x) P73 [(("com/example/umbrella_state/umbrellastate/runtime/Delivery", "handler", "Ljava/util/function/Consumer;"), .null), (("com/example/umbrella_state/umbrellastate/runtime/Delivery", "message", "Lcom/example/umbrella_state/umbrellastate/model/Message;"), .null), (("com/example/umbrella_state/umbrellastate/runtime/Delivery", "due", "J"), (.long 0)), (("com/example/umbrella_state/umbrellastate/runtime/Delivery", "order", "J"), (.long 0))] c0_33 (t13 hw) (t14 hw) (t15 hw) (⟨⟨Or.inl (t21 hw), (.object "java/util/function/Consumer"), by decide, rfl⟩, ⟨⟨Or.inl (t23 hw), (.object "com/example/umbrella_state/umbrellastate/model/Message"), by decide, rfl⟩, ⟨⟨Or.inr (t25 hw), .long, by decide, rfl⟩, ⟨⟨Or.inr (t27 hw), .long, by decide, rfl⟩, trivial⟩⟩⟩⟩) (by decide) (by decide) (by decide) ?_
      intro h75 a77 P76
      refine go_more (k' := 4) (n' := 20) (by decide) (by decide) ?_
      refine go_dup c0_36 rfl ?_
      refine go_null c0_37 ?_
      refine go_null c0_38 ?_
      refine go_lload c0_39 rfl ?_
      refine go_lload c0_41 rfl ?_
      refine go_callN0 (y := x) (W := 1) (argsL := [.null, .null, (.long d2), (.long o2)]) (st := [(.ref a77)]) c0_43 rfl rfl (rm_D l Z a0 hw h75 n0 _ a77 d2 o2 P76) (t16 hw) (t17 hw) (t15 hw) (t18 hw) (by decide) (lenOf pd4 rfl) rfl rfl (by decide) (by decide) (by decide) (by decide) rfl ?_
      intro h79 P78
      refine go_more (k' := 4) (n' := 20) (by decide) (by decide) ?_
      have P80 : Hp Z n0 h79 ([(a66, (.inl ("com/example/umbrella_state/umbrellastate/runtime/DelayedDeliveries", [(("com/example/umbrella_state/umbrellastate/runtime/DelayedDeliveries", "heap", "[Lcom/example/umbrella_state/umbrellastate/runtime/Delivery;"), (.ref ha69)), (("com/example/umbrella_state/umbrellastate/runtime/DelayedDeliveries", "size", "I"), (.int 0))]))), (ha69, (.inr ((.object "com/example/umbrella_state/umbrellastate/runtime/Delivery"), "[Lcom/example/umbrella_state/umbrellastate/runtime/Delivery;", [.null, .null, .null, .null, .null, .null, .null, .null]))), (a77, (.inl ("com/example/umbrella_state/umbrellastate/runtime/Delivery", [(("com/example/umbrella_state/umbrellastate/runtime/Delivery", "handler", "Ljava/util/function/Consumer;"), .null), (("com/example/umbrella_state/umbrellastate/runtime/Delivery", "message", "Lcom/example/umbrella_state/umbrellastate/model/Message;"), .null), (("com/example/umbrella_state/umbrellastate/runtime/Delivery", "due", "J"), (.long d2)), (("com/example/umbrella_state/umbrellastate/runtime/Delivery", "order", "J"), (.long o2))]))), (a72, (.inl ("com/example/umbrella_state/umbrellastate/runtime/Delivery", [(("com/example/umbrella_state/umbrellastate/runtime/Delivery", "handler", "Ljava/util/function/Consumer;"), .null), (("com/example/umbrella_state/umbrellastate/runtime/Delivery", "message", "Lcom/example/umbrella_state/umbrellastate/model/Message;"), .null), (("com/example/umbrella_state/umbrellastate/runtime/Delivery", "due", "J"), (.long d1)), (("com/example/umbrella_state/umbrellastate/runtime/Delivery", "order", "J"), (.long o1))])))]) := ((P78.front 3).front 3)
      refine go_astore c0_46 rfl rfl rfl ?_
      dsimp only [setl]
      refine go_iload c0_48 rfl ?_
      refine go_push c0_50 ?_
      refine go_icmp_lt c0_51 (fun _ => ?_) (fun q => absurd q (by decide))
      refine go_iload c0_61 rfl ?_
      refine go_push c0_63 ?_
      refine go_icmp_lt c0_64 (fun _ => ?_) (fun q => absurd q (by decide))
      refine go_iload c0_74 rfl ?_
      refine go_push c0_76 ?_
      refine go_icmp_lt c0_77 (fun _ => ?_) (fun q => absurd q (by decide))
      refine go_aload c0_87 rfl rfl ?_
      refine go_callV1 (y := x) (W := 0) (argsL := []) (st := []) c0_89 (rm_E l Z a0 hw h79 n0 _ a66 _ 0 P80) (P80.exa (i := 0) rfl) (t28 hw) (t29 hw) (fun _ q => notFace_of_selects (args := #[]) (mvT q (t31 hw))) (t31 hw) (t30 hw) (t2 hw) (t32 hw) (by decide) (lenOf pd5 rfl) rfl rfl (by decide) (by decide) (by decide) (by decide) rfl ?_
      rintro _ _ ⟨rfl, rfl⟩
      refine go_more (k' := 4) (n' := 20) (by decide) (by decide) ?_
      refine go_isI 1 (by decide) ?_
      refine go_iload c0_92 rfl ?_
      refine go_if_ne c0_94 (fun q => absurd q (by decide)) (fun _ => ?_)
      refine go_push c0_97 ?_
      refine go_goto c0_98 ?_
      refine go_icmp_ne c0_102 (fun q => absurd q (by decide)) (fun _ => ?_)
      refine go_push c0_105 ?_
      refine go_goto c0_106 ?_
      refine go_istore c0_110 rfl rfl ?_
      dsimp only [setl]
      refine go_iload c0_112 rfl ?_
      refine go_push c0_114 ?_
      refine go_icmp_lt c0_115 (fun q => absurd q (by decide)) (fun _ => ?_)
      refine go_aload c0_118 rfl rfl ?_
      refine go_callV1 (y := x) (W := 0) (argsL := []) (st := []) c0_120 (rm_O0 l Z a0 hw h79 n0 _ a66 ha69 P80) (P80.exa (i := 0) rfl) (t35 hw) (t36 hw) (fun _ q => notFace_of_selects (args := #[]) (mvT q (t38 hw))) (t38 hw) (t37 hw) (t2 hw) (t39 hw) (by decide) (lenOf pd6 rfl) rfl rfl (by decide) (by decide) (by decide) (by decide) rfl ?_
      rintro r83 h82 ⟨hr_r83, P81⟩
      refine go_more (k' := 4) (n' := 20) (by decide) (by decide) ?_
      refine go_pop c0_123 (XT.cat1 hr_r83) ?_
      refine go_iload c0_124 rfl ?_
      refine go_push c0_126 ?_
      refine go_icmp_lt c0_127 (fun q => absurd q (by decide)) (fun _ => ?_)
      refine go_aload c0_130 rfl rfl ?_
      refine go_callV1 (y := x) (W := 0) (argsL := []) (st := []) c0_132 (rm_O0 l Z a0 hw h82 n0 _ a66 ha69 P81) (P81.exa (i := 0) rfl) (t35 hw) (t36 hw) (fun _ q => notFace_of_selects (args := #[]) (mvT q (t38 hw))) (t38 hw) (t37 hw) (t2 hw) (t39 hw) (by decide) (lenOf pd6 rfl) rfl rfl (by decide) (by decide) (by decide) (by decide) rfl ?_
      rintro r87 h86 ⟨hr_r87, P85⟩
      refine go_more (k' := 4) (n' := 20) (by decide) (by decide) ?_
      refine go_pop c0_135 (XT.cat1 hr_r87) ?_
      refine go_iload c0_136 rfl ?_
      refine go_push c0_138 ?_
      refine go_icmp_lt c0_139 (fun q => absurd q (by decide)) (fun _ => ?_)
      refine go_aload c0_142 rfl rfl ?_
      refine go_callV1 (y := x) (W := 0) (argsL := []) (st := []) c0_144 (rm_O0 l Z a0 hw h86 n0 _ a66 ha69 P85) (P85.exa (i := 0) rfl) (t35 hw) (t36 hw) (fun _ q => notFace_of_selects (args := #[]) (mvT q (t38 hw))) (t38 hw) (t37 hw) (t2 hw) (t39 hw) (by decide) (lenOf pd6 rfl) rfl rfl (by decide) (by decide) (by decide) (by decide) rfl ?_
      rintro r91 h90 ⟨hr_r91, P89⟩
      refine go_more (k' := 4) (n' := 20) (by decide) (by decide) ?_
      refine go_pop c0_147 (XT.cat1 hr_r91) ?_
      refine go_aload c0_148 rfl rfl ?_
      refine go_callV1 (y := x) (W := 0) (argsL := []) (st := []) c0_150 (rm_E l Z a0 hw h90 n0 _ a66 _ 0 P89) (P89.exa (i := 0) rfl) (t28 hw) (t29 hw) (fun _ q => notFace_of_selects (args := #[]) (mvT q (t31 hw))) (t31 hw) (t30 hw) (t2 hw) (t32 hw) (by decide) (lenOf pd5 rfl) rfl rfl (by decide) (by decide) (by decide) (by decide) rfl ?_
      rintro _ _ ⟨rfl, rfl⟩
      refine go_more (k' := 4) (n' := 20) (by decide) (by decide) ?_
      refine go_isI 1 (by decide) ?_
      refine go_iload c0_153 rfl ?_
      refine go_iload c0_155 rfl ?_
      refine go_icmp_gt c0_157 (fun q => absurd q (by decide)) (fun _ => ?_)
      refine go_push c0_160 ?_
      refine go_goto c0_161 ?_
      refine go_icmp_ne c0_165 (fun q => absurd q (by decide)) (fun _ => ?_)
      refine go_push c0_168 ?_
      refine go_goto c0_169 ?_
      refine go_istore c0_173 rfl rfl ?_
      dsimp only [setl]
      refine go_iload c0_175 rfl ?_
      refine go_if_eq c0_177 (fun q => absurd q (by decide)) (fun _ => ?_)
      refine go_iload c0_180 rfl ?_
      refine go_if_eq c0_182 (fun q => absurd q (by decide)) (fun _ => ?_)
      refine go_push c0_185 ?_
      refine go_goto c0_186 ?_
      exact go_bret rfl c0_190 (by decide) (by decide) (by decide) ⟨_, rfl, rfl⟩
  · refine go_isI 1 hn ?_
    refine go_istore c0_3 rfl rfl ?_
    dsimp only [setl]
    refine go_iload c0_5 rfl ?_
    refine go_push c0_6 ?_
    refine go_iand c0_7 ?_
    rcases own_n4 b with hk | hk | hk | hk
    · refine go_isI 0 hk ?_
      refine go_istore c0_8 rfl rfl ?_
      dsimp only [setl]
      refine go_new (y := x) P0 [(("com/example/umbrella_state/umbrellastate/runtime/DelayedDeliveries", "heap", "[Lcom/example/umbrella_state/umbrellastate/runtime/Delivery;"), .null), (("com/example/umbrella_state/umbrellastate/runtime/DelayedDeliveries", "size", "I"), (.int 0))] c0_10 (t0 hw) (t1 hw) (t2 hw) (⟨⟨Or.inl (t12 hw), (.array (.object "com/example/umbrella_state/umbrellastate/runtime/Delivery")), by decide, rfl⟩, ⟨⟨Or.inl (t34 hw), .int, by decide, rfl⟩, trivial⟩⟩) (by decide) (by decide) (by decide) ?_
      intro h93 a95 P94
      refine go_more (k' := 1) (n' := 2) (by decide) (by decide) ?_
      refine go_dup c0_13 rfl ?_
      refine go_callN0 (y := x) (W := 1) (argsL := []) (st := [(.ref a95)]) c0_14 rfl rfl (rm_Q l Z a0 hw h93 n0 _ a95 P94) (t3 hw) (t4 hw) (t2 hw) (t5 hw) (by decide) (lenOf pd3 rfl) rfl rfl (by decide) (by decide) (by decide) (by decide) rfl ?_
      rintro h97 ⟨ha98, P96⟩
      refine go_more (k' := 2) (n' := 10) (by decide) (by decide) ?_
      refine go_astore c0_17 rfl rfl rfl ?_
      dsimp only [setl]
      refine go_new (y := x) P96 [(("com/example/umbrella_state/umbrellastate/runtime/Delivery", "handler", "Ljava/util/function/Consumer;"), .null), (("com/example/umbrella_state/umbrellastate/runtime/Delivery", "message", "Lcom/example/umbrella_state/umbrellastate/model/Message;"), .null), (("com/example/umbrella_state/umbrellastate/runtime/Delivery", "due", "J"), (.long 0)), (("com/example/umbrella_state/umbrellastate/runtime/Delivery", "order", "J"), (.long 0))] c0_19 (t13 hw) (t14 hw) (t15 hw) (⟨⟨Or.inl (t21 hw), (.object "java/util/function/Consumer"), by decide, rfl⟩, ⟨⟨Or.inl (t23 hw), (.object "com/example/umbrella_state/umbrellastate/model/Message"), by decide, rfl⟩, ⟨⟨Or.inr (t25 hw), .long, by decide, rfl⟩, ⟨⟨Or.inr (t27 hw), .long, by decide, rfl⟩, trivial⟩⟩⟩⟩) (by decide) (by decide) (by decide) ?_
      intro h99 a101 P100
      refine go_more (k' := 3) (n' := 15) (by decide) (by decide) ?_
      refine go_dup c0_22 rfl ?_
      refine go_null c0_23 ?_
      refine go_null c0_24 ?_
      refine go_lload c0_25 rfl ?_
      refine go_lload c0_26 rfl ?_
      refine go_callN0 (y := x) (W := 1) (argsL := [.null, .null, (.long d1), (.long o1)]) (st := [(.ref a101)]) c0_28 rfl rfl (rm_D l Z a0 hw h99 n0 _ a101 d1 o1 P100) (t16 hw) (t17 hw) (t15 hw) (t18 hw) (by decide) (lenOf pd4 rfl) rfl rfl (by decide) (by decide) (by decide) (by decide) rfl ?_
      intro h103 P102
      refine go_more (k' := 3) (n' := 15) (by decide) (by decide) ?_
      refine go_astore c0_31 rfl rfl rfl ?_
      dsimp only [setl]
      refine go_new (y := x) P102 [(("com/example/umbrella_state/umbrellastate/runtime/Delivery", "handler", "Ljava/util/function/Consumer;"), .null), (("com/example/umbrella_state/umbrellastate/runtime/Delivery", "message", "Lcom/example/umbrella_state/umbrellastate/model/Message;"), .null), (("com/example/umbrella_state/umbrellastate/runtime/Delivery", "due", "J"), (.long 0)), (("com/example/umbrella_state/umbrellastate/runtime/Delivery", "order", "J"), (.long 0))] c0_33 (t13 hw) (t14 hw) (t15 hw) (⟨⟨Or.inl (t21 hw), (.object "java/util/function/Consumer"), by decide, rfl⟩, ⟨⟨Or.inl (t23 hw), (.object "com/example/umbrella_state/umbrellastate/model/Message"), by decide, rfl⟩, ⟨⟨Or.inr (t25 hw), .long, by decide, rfl⟩, ⟨⟨Or.inr (t27 hw), .long, by decide, rfl⟩, trivial⟩⟩⟩⟩) (by decide) (by decide) (by decide) ?_
      intro h104 a106 P105
      refine go_more (k' := 4) (n' := 20) (by decide) (by decide) ?_
      refine go_dup c0_36 rfl ?_
      refine go_null c0_37 ?_
      refine go_null c0_38 ?_
      refine go_lload c0_39 rfl ?_
      refine go_lload c0_41 rfl ?_
      refine go_callN0 (y := x) (W := 1) (argsL := [.null, .null, (.long d2), (.long o2)]) (st := [(.ref a106)]) c0_43 rfl rfl (rm_D l Z a0 hw h104 n0 _ a106 d2 o2 P105) (t16 hw) (t17 hw) (t15 hw) (t18 hw) (by decide) (lenOf pd4 rfl) rfl rfl (by decide) (by decide) (by decide) (by decide) rfl ?_
      intro h108 P107
      refine go_more (k' := 4) (n' := 20) (by decide) (by decide) ?_
      have P109 : Hp Z n0 h108 ([(a95, (.inl ("com/example/umbrella_state/umbrellastate/runtime/DelayedDeliveries", [(("com/example/umbrella_state/umbrellastate/runtime/DelayedDeliveries", "heap", "[Lcom/example/umbrella_state/umbrellastate/runtime/Delivery;"), (.ref ha98)), (("com/example/umbrella_state/umbrellastate/runtime/DelayedDeliveries", "size", "I"), (.int 0))]))), (ha98, (.inr ((.object "com/example/umbrella_state/umbrellastate/runtime/Delivery"), "[Lcom/example/umbrella_state/umbrellastate/runtime/Delivery;", [.null, .null, .null, .null, .null, .null, .null, .null]))), (a106, (.inl ("com/example/umbrella_state/umbrellastate/runtime/Delivery", [(("com/example/umbrella_state/umbrellastate/runtime/Delivery", "handler", "Ljava/util/function/Consumer;"), .null), (("com/example/umbrella_state/umbrellastate/runtime/Delivery", "message", "Lcom/example/umbrella_state/umbrellastate/model/Message;"), .null), (("com/example/umbrella_state/umbrellastate/runtime/Delivery", "due", "J"), (.long d2)), (("com/example/umbrella_state/umbrellastate/runtime/Delivery", "order", "J"), (.long o2))]))), (a101, (.inl ("com/example/umbrella_state/umbrellastate/runtime/Delivery", [(("com/example/umbrella_state/umbrellastate/runtime/Delivery", "handler", "Ljava/util/function/Consumer;"), .null), (("com/example/umbrella_state/umbrellastate/runtime/Delivery", "message", "Lcom/example/umbrella_state/umbrellastate/model/Message;"), .null), (("com/example/umbrella_state/umbrellastate/runtime/Delivery", "due", "J"), (.long d1)), (("com/example/umbrella_state/umbrellastate/runtime/Delivery", "order", "J"), (.long o1))])))]) := ((P107.front 3).front 3)
      refine go_astore c0_46 rfl rfl rfl ?_
      dsimp only [setl]
      refine go_iload c0_48 rfl ?_
      refine go_push c0_50 ?_
      refine go_icmp_lt c0_51 (fun q => absurd q (by decide)) (fun _ => ?_)
      refine go_aload c0_54 rfl rfl ?_
      refine go_aload c0_56 rfl rfl ?_
      refine go_callV0 (y := x) (W := 0) (argsL := [(.ref a101)]) (st := []) c0_58 (rm_A0 l Z a0 hw h108 n0 _ a95 ha98 a101 1 d1 o1 rfl P109) (P109.exa (i := 0) rfl) (t40 hw) (t41 hw) (fun _ q => notFace_of_selects (args := #[]) (mvT q (t43 hw))) (t43 hw) (t42 hw) (t2 hw) (t44 hw) (by decide) (lenOf pd7 rfl) rfl rfl (by decide) (by decide) (by decide) (by decide) rfl ?_
      intro h111 P110
      refine go_more (k' := 4) (n' := 20) (by decide) (by decide) ?_
      refine go_iload c0_61 rfl ?_
      refine go_push c0_63 ?_
      refine go_icmp_lt c0_64 (fun _ => ?_) (fun q => absurd q (by decide))
      refine go_iload c0_74 rfl ?_
      refine go_push c0_76 ?_
      refine go_icmp_lt c0_77 (fun _ => ?_) (fun q => absurd q (by decide))
      refine go_aload c0_87 rfl rfl ?_
      refine go_callV1 (y := x) (W := 0) (argsL := []) (st := []) c0_89 (rm_E l Z a0 hw h111 n0 _ a95 _ 1 P110) (P110.exa (i := 0) rfl) (t28 hw) (t29 hw) (fun _ q => notFace_of_selects (args := #[]) (mvT q (t31 hw))) (t31 hw) (t30 hw) (t2 hw) (t32 hw) (by decide) (lenOf pd5 rfl) rfl rfl (by decide) (by decide) (by decide) (by decide) rfl ?_
      rintro _ _ ⟨rfl, rfl⟩
      refine go_more (k' := 4) (n' := 20) (by decide) (by decide) ?_
      refine go_isI 0 (by decide) ?_
      refine go_iload c0_92 rfl ?_
      refine go_if_ne c0_94 (fun _ => ?_) (fun q => absurd q (by decide))
      refine go_push c0_101 ?_
      refine go_icmp_ne c0_102 (fun q => absurd q (by decide)) (fun _ => ?_)
      refine go_push c0_105 ?_
      refine go_goto c0_106 ?_
      refine go_istore c0_110 rfl rfl ?_
      dsimp only [setl]
      refine go_iload c0_112 rfl ?_
      refine go_push c0_114 ?_
      refine go_icmp_lt c0_115 (fun _ => ?_) (fun q => absurd q (by decide))
      refine go_iload c0_124 rfl ?_
      refine go_push c0_126 ?_
      refine go_icmp_lt c0_127 (fun _ => ?_) (fun q => absurd q (by decide))
      refine go_iload c0_136 rfl ?_
      refine go_push c0_138 ?_
      refine go_icmp_lt c0_139 (fun _ => ?_) (fun q => absurd q (by decide))
      refine go_aload c0_148 rfl rfl ?_
      refine go_callV1 (y := x) (W := 0) (argsL := []) (st := []) c0_150 (rm_E l Z a0 hw h111 n0 _ a95 _ 1 P110) (P110.exa (i := 0) rfl) (t28 hw) (t29 hw) (fun _ q => notFace_of_selects (args := #[]) (mvT q (t31 hw))) (t31 hw) (t30 hw) (t2 hw) (t32 hw) (by decide) (lenOf pd5 rfl) rfl rfl (by decide) (by decide) (by decide) (by decide) rfl ?_
      rintro _ _ ⟨rfl, rfl⟩
      refine go_more (k' := 4) (n' := 20) (by decide) (by decide) ?_
      refine go_isI 0 (by decide) ?_
      refine go_iload c0_153 rfl ?_
      refine go_iload c0_155 rfl ?_
      refine go_icmp_gt c0_157 (fun _ => ?_) (fun q => absurd q (by decide))
      refine go_push c0_164 ?_
      refine go_icmp_ne c0_165 (fun q => absurd q (by decide)) (fun _ => ?_)
      refine go_push c0_168 ?_
      refine go_goto c0_169 ?_
      refine go_istore c0_173 rfl rfl ?_
      dsimp only [setl]
      refine go_iload c0_175 rfl ?_
      refine go_if_eq c0_177 (fun q => absurd q (by decide)) (fun _ => ?_)
      refine go_iload c0_180 rfl ?_
      refine go_if_eq c0_182 (fun q => absurd q (by decide)) (fun _ => ?_)
      refine go_push c0_185 ?_
      refine go_goto c0_186 ?_
      exact go_bret rfl c0_190 (by decide) (by decide) (by decide) ⟨_, rfl, rfl⟩
    · refine go_isI 1 hk ?_
      refine go_istore c0_8 rfl rfl ?_
      dsimp only [setl]
      refine go_new (y := x) P0 [(("com/example/umbrella_state/umbrellastate/runtime/DelayedDeliveries", "heap", "[Lcom/example/umbrella_state/umbrellastate/runtime/Delivery;"), .null), (("com/example/umbrella_state/umbrellastate/runtime/DelayedDeliveries", "size", "I"), (.int 0))] c0_10 (t0 hw) (t1 hw) (t2 hw) (⟨⟨Or.inl (t12 hw), (.array (.object "com/example/umbrella_state/umbrellastate/runtime/Delivery")), by decide, rfl⟩, ⟨⟨Or.inl (t34 hw), .int, by decide, rfl⟩, trivial⟩⟩) (by decide) (by decide) (by decide) ?_
      intro h112 a114 P113
      refine go_more (k' := 1) (n' := 2) (by decide) (by decide) ?_
      refine go_dup c0_13 rfl ?_
      refine go_callN0 (y := x) (W := 1) (argsL := []) (st := [(.ref a114)]) c0_14 rfl rfl (rm_Q l Z a0 hw h112 n0 _ a114 P113) (t3 hw) (t4 hw) (t2 hw) (t5 hw) (by decide) (lenOf pd3 rfl) rfl rfl (by decide) (by decide) (by decide) (by decide) rfl ?_
      rintro h116 ⟨ha117, P115⟩
      refine go_more (k' := 2) (n' := 10) (by decide) (by decide) ?_
      refine go_astore c0_17 rfl rfl rfl ?_
      dsimp only [setl]
      refine go_new (y := x) P115 [(("com/example/umbrella_state/umbrellastate/runtime/Delivery", "handler", "Ljava/util/function/Consumer;"), .null), (("com/example/umbrella_state/umbrellastate/runtime/Delivery", "message", "Lcom/example/umbrella_state/umbrellastate/model/Message;"), .null), (("com/example/umbrella_state/umbrellastate/runtime/Delivery", "due", "J"), (.long 0)), (("com/example/umbrella_state/umbrellastate/runtime/Delivery", "order", "J"), (.long 0))] c0_19 (t13 hw) (t14 hw) (t15 hw) (⟨⟨Or.inl (t21 hw), (.object "java/util/function/Consumer"), by decide, rfl⟩, ⟨⟨Or.inl (t23 hw), (.object "com/example/umbrella_state/umbrellastate/model/Message"), by decide, rfl⟩, ⟨⟨Or.inr (t25 hw), .long, by decide, rfl⟩, ⟨⟨Or.inr (t27 hw), .long, by decide, rfl⟩, trivial⟩⟩⟩⟩) (by decide) (by decide) (by decide) ?_
      intro h118 a120 P119
      refine go_more (k' := 3) (n' := 15) (by decide) (by decide) ?_
      refine go_dup c0_22 rfl ?_
      refine go_null c0_23 ?_
      refine go_null c0_24 ?_
      refine go_lload c0_25 rfl ?_
      refine go_lload c0_26 rfl ?_
      refine go_callN0 (y := x) (W := 1) (argsL := [.null, .null, (.long d1), (.long o1)]) (st := [(.ref a120)]) c0_28 rfl rfl (rm_D l Z a0 hw h118 n0 _ a120 d1 o1 P119) (t16 hw) (t17 hw) (t15 hw) (t18 hw) (by decide) (lenOf pd4 rfl) rfl rfl (by decide) (by decide) (by decide) (by decide) rfl ?_
      intro h122 P121
      refine go_more (k' := 3) (n' := 15) (by decide) (by decide) ?_
      refine go_astore c0_31 rfl rfl rfl ?_
      dsimp only [setl]
      refine go_new (y := x) P121 [(("com/example/umbrella_state/umbrellastate/runtime/Delivery", "handler", "Ljava/util/function/Consumer;"), .null), (("com/example/umbrella_state/umbrellastate/runtime/Delivery", "message", "Lcom/example/umbrella_state/umbrellastate/model/Message;"), .null), (("com/example/umbrella_state/umbrellastate/runtime/Delivery", "due", "J"), (.long 0)), (("com/example/umbrella_state/umbrellastate/runtime/Delivery", "order", "J"), (.long 0))] c0_33 (t13 hw) (t14 hw) (t15 hw) (⟨⟨Or.inl (t21 hw), (.object "java/util/function/Consumer"), by decide, rfl⟩, ⟨⟨Or.inl (t23 hw), (.object "com/example/umbrella_state/umbrellastate/model/Message"), by decide, rfl⟩, ⟨⟨Or.inr (t25 hw), .long, by decide, rfl⟩, ⟨⟨Or.inr (t27 hw), .long, by decide, rfl⟩, trivial⟩⟩⟩⟩) (by decide) (by decide) (by decide) ?_
      intro h123 a125 P124
      refine go_more (k' := 4) (n' := 20) (by decide) (by decide) ?_
      refine go_dup c0_36 rfl ?_
      refine go_null c0_37 ?_
      refine go_null c0_38 ?_
      refine go_lload c0_39 rfl ?_
      refine go_lload c0_41 rfl ?_
      refine go_callN0 (y := x) (W := 1) (argsL := [.null, .null, (.long d2), (.long o2)]) (st := [(.ref a125)]) c0_43 rfl rfl (rm_D l Z a0 hw h123 n0 _ a125 d2 o2 P124) (t16 hw) (t17 hw) (t15 hw) (t18 hw) (by decide) (lenOf pd4 rfl) rfl rfl (by decide) (by decide) (by decide) (by decide) rfl ?_
      intro h127 P126
      refine go_more (k' := 4) (n' := 20) (by decide) (by decide) ?_
      have P128 : Hp Z n0 h127 ([(a114, (.inl ("com/example/umbrella_state/umbrellastate/runtime/DelayedDeliveries", [(("com/example/umbrella_state/umbrellastate/runtime/DelayedDeliveries", "heap", "[Lcom/example/umbrella_state/umbrellastate/runtime/Delivery;"), (.ref ha117)), (("com/example/umbrella_state/umbrellastate/runtime/DelayedDeliveries", "size", "I"), (.int 0))]))), (ha117, (.inr ((.object "com/example/umbrella_state/umbrellastate/runtime/Delivery"), "[Lcom/example/umbrella_state/umbrellastate/runtime/Delivery;", [.null, .null, .null, .null, .null, .null, .null, .null]))), (a125, (.inl ("com/example/umbrella_state/umbrellastate/runtime/Delivery", [(("com/example/umbrella_state/umbrellastate/runtime/Delivery", "handler", "Ljava/util/function/Consumer;"), .null), (("com/example/umbrella_state/umbrellastate/runtime/Delivery", "message", "Lcom/example/umbrella_state/umbrellastate/model/Message;"), .null), (("com/example/umbrella_state/umbrellastate/runtime/Delivery", "due", "J"), (.long d2)), (("com/example/umbrella_state/umbrellastate/runtime/Delivery", "order", "J"), (.long o2))]))), (a120, (.inl ("com/example/umbrella_state/umbrellastate/runtime/Delivery", [(("com/example/umbrella_state/umbrellastate/runtime/Delivery", "handler", "Ljava/util/function/Consumer;"), .null), (("com/example/umbrella_state/umbrellastate/runtime/Delivery", "message", "Lcom/example/umbrella_state/umbrellastate/model/Message;"), .null), (("com/example/umbrella_state/umbrellastate/runtime/Delivery", "due", "J"), (.long d1)), (("com/example/umbrella_state/umbrellastate/runtime/Delivery", "order", "J"), (.long o1))])))]) := ((P126.front 3).front 3)
      refine go_astore c0_46 rfl rfl rfl ?_
      dsimp only [setl]
      refine go_iload c0_48 rfl ?_
      refine go_push c0_50 ?_
      refine go_icmp_lt c0_51 (fun q => absurd q (by decide)) (fun _ => ?_)
      refine go_aload c0_54 rfl rfl ?_
      refine go_aload c0_56 rfl rfl ?_
      refine go_callV0 (y := x) (W := 0) (argsL := [(.ref a120)]) (st := []) c0_58 (rm_A0 l Z a0 hw h127 n0 _ a114 ha117 a120 1 d1 o1 rfl P128) (P128.exa (i := 0) rfl) (t40 hw) (t41 hw) (fun _ q => notFace_of_selects (args := #[]) (mvT q (t43 hw))) (t43 hw) (t42 hw) (t2 hw) (t44 hw) (by decide) (lenOf pd7 rfl) rfl rfl (by decide) (by decide) (by decide) (by decide) rfl ?_
      intro h130 P129
      refine go_more (k' := 4) (n' := 20) (by decide) (by decide) ?_
      refine go_iload c0_61 rfl ?_
      refine go_push c0_63 ?_
      refine go_icmp_lt c0_64 (fun _ => ?_) (fun q => absurd q (by decide))
      refine go_iload c0_74 rfl ?_
      refine go_push c0_76 ?_
      refine go_icmp_lt c0_77 (fun _ => ?_) (fun q => absurd q (by decide))
      refine go_aload c0_87 rfl rfl ?_
      refine go_callV1 (y := x) (W := 0) (argsL := []) (st := []) c0_89 (rm_E l Z a0 hw h130 n0 _ a114 _ 1 P129) (P129.exa (i := 0) rfl) (t28 hw) (t29 hw) (fun _ q => notFace_of_selects (args := #[]) (mvT q (t31 hw))) (t31 hw) (t30 hw) (t2 hw) (t32 hw) (by decide) (lenOf pd5 rfl) rfl rfl (by decide) (by decide) (by decide) (by decide) rfl ?_
      rintro _ _ ⟨rfl, rfl⟩
      refine go_more (k' := 4) (n' := 20) (by decide) (by decide) ?_
      refine go_isI 0 (by decide) ?_
      refine go_iload c0_92 rfl ?_
      refine go_if_ne c0_94 (fun _ => ?_) (fun q => absurd q (by decide))
      refine go_push c0_101 ?_
      refine go_icmp_ne c0_102 (fun q => absurd q (by decide)) (fun _ => ?_)
      refine go_push c0_105 ?_
      refine go_goto c0_106 ?_
      refine go_istore c0_110 rfl rfl ?_
      dsimp only [setl]
      refine go_iload c0_112 rfl ?_
      refine go_push c0_114 ?_
      refine go_icmp_lt c0_115 (fun q => absurd q (by decide)) (fun _ => ?_)
      refine go_aload c0_118 rfl rfl ?_
      refine go_callV1 (y := x) (W := 0) (argsL := []) (st := []) c0_120 (rm_O1 l Z a0 hw h130 n0 _ a114 ha117 1 a120 d1 o1 rfl P129) (P129.exa (i := 0) rfl) (t35 hw) (t36 hw) (fun _ q => notFace_of_selects (args := #[]) (mvT q (t38 hw))) (t38 hw) (t37 hw) (t2 hw) (t39 hw) (by decide) (lenOf pd6 rfl) rfl rfl (by decide) (by decide) (by decide) (by decide) rfl ?_
      rintro r133 h132 ⟨hr_r133, P131⟩
      refine go_more (k' := 4) (n' := 20) (by decide) (by decide) ?_
      refine go_pop c0_123 (XT.cat1 hr_r133) ?_
      refine go_iload c0_124 rfl ?_
      refine go_push c0_126 ?_
      refine go_icmp_lt c0_127 (fun _ => ?_) (fun q => absurd q (by decide))
      refine go_iload c0_136 rfl ?_
      refine go_push c0_138 ?_
      refine go_icmp_lt c0_139 (fun _ => ?_) (fun q => absurd q (by decide))
      refine go_aload c0_148 rfl rfl ?_
      refine go_callV1 (y := x) (W := 0) (argsL := []) (st := []) c0_150 (rm_E l Z a0 hw h132 n0 _ a114 _ 0 P131) (P131.exa (i := 0) rfl) (t28 hw) (t29 hw) (fun _ q => notFace_of_selects (args := #[]) (mvT q (t31 hw))) (t31 hw) (t30 hw) (t2 hw) (t32 hw) (by decide) (lenOf pd5 rfl) rfl rfl (by decide) (by decide) (by decide) (by decide) rfl ?_
      rintro _ _ ⟨rfl, rfl⟩
      refine go_more (k' := 4) (n' := 20) (by decide) (by decide) ?_
      refine go_isI 1 (by decide) ?_
      refine go_iload c0_153 rfl ?_
      refine go_iload c0_155 rfl ?_
      refine go_icmp_gt c0_157 (fun q => absurd q (by decide)) (fun _ => ?_)
      refine go_push c0_160 ?_
      refine go_goto c0_161 ?_
      refine go_icmp_ne c0_165 (fun q => absurd q (by decide)) (fun _ => ?_)
      refine go_push c0_168 ?_
      refine go_goto c0_169 ?_
      refine go_istore c0_173 rfl rfl ?_
      dsimp only [setl]
      refine go_iload c0_175 rfl ?_
      refine go_if_eq c0_177 (fun q => absurd q (by decide)) (fun _ => ?_)
      refine go_iload c0_180 rfl ?_
      refine go_if_eq c0_182 (fun q => absurd q (by decide)) (fun _ => ?_)
      refine go_push c0_185 ?_
      refine go_goto c0_186 ?_
      exact go_bret rfl c0_190 (by decide) (by decide) (by decide) ⟨_, rfl, rfl⟩
    · refine go_isI 2 hk ?_
      refine go_istore c0_8 rfl rfl ?_
      dsimp only [setl]
      refine go_new (y := x) P0 [(("com/example/umbrella_state/umbrellastate/runtime/DelayedDeliveries", "heap", "[Lcom/example/umbrella_state/umbrellastate/runtime/Delivery;"), .null), (("com/example/umbrella_state/umbrellastate/runtime/DelayedDeliveries", "size", "I"), (.int 0))] c0_10 (t0 hw) (t1 hw) (t2 hw) (⟨⟨Or.inl (t12 hw), (.array (.object "com/example/umbrella_state/umbrellastate/runtime/Delivery")), by decide, rfl⟩, ⟨⟨Or.inl (t34 hw), .int, by decide, rfl⟩, trivial⟩⟩) (by decide) (by decide) (by decide) ?_
      intro h135 a137 P136
      refine go_more (k' := 1) (n' := 2) (by decide) (by decide) ?_
      refine go_dup c0_13 rfl ?_
      refine go_callN0 (y := x) (W := 1) (argsL := []) (st := [(.ref a137)]) c0_14 rfl rfl (rm_Q l Z a0 hw h135 n0 _ a137 P136) (t3 hw) (t4 hw) (t2 hw) (t5 hw) (by decide) (lenOf pd3 rfl) rfl rfl (by decide) (by decide) (by decide) (by decide) rfl ?_
      rintro h139 ⟨ha140, P138⟩
      refine go_more (k' := 2) (n' := 10) (by decide) (by decide) ?_
      refine go_astore c0_17 rfl rfl rfl ?_
      dsimp only [setl]
      refine go_new (y := x) P138 [(("com/example/umbrella_state/umbrellastate/runtime/Delivery", "handler", "Ljava/util/function/Consumer;"), .null), (("com/example/umbrella_state/umbrellastate/runtime/Delivery", "message", "Lcom/example/umbrella_state/umbrellastate/model/Message;"), .null), (("com/example/umbrella_state/umbrellastate/runtime/Delivery", "due", "J"), (.long 0)), (("com/example/umbrella_state/umbrellastate/runtime/Delivery", "order", "J"), (.long 0))] c0_19 (t13 hw) (t14 hw) (t15 hw) (⟨⟨Or.inl (t21 hw), (.object "java/util/function/Consumer"), by decide, rfl⟩, ⟨⟨Or.inl (t23 hw), (.object "com/example/umbrella_state/umbrellastate/model/Message"), by decide, rfl⟩, ⟨⟨Or.inr (t25 hw), .long, by decide, rfl⟩, ⟨⟨Or.inr (t27 hw), .long, by decide, rfl⟩, trivial⟩⟩⟩⟩) (by decide) (by decide) (by decide) ?_
      intro h141 a143 P142
      refine go_more (k' := 3) (n' := 15) (by decide) (by decide) ?_
      refine go_dup c0_22 rfl ?_
      refine go_null c0_23 ?_
      refine go_null c0_24 ?_
      refine go_lload c0_25 rfl ?_
      refine go_lload c0_26 rfl ?_
      refine go_callN0 (y := x) (W := 1) (argsL := [.null, .null, (.long d1), (.long o1)]) (st := [(.ref a143)]) c0_28 rfl rfl (rm_D l Z a0 hw h141 n0 _ a143 d1 o1 P142) (t16 hw) (t17 hw) (t15 hw) (t18 hw) (by decide) (lenOf pd4 rfl) rfl rfl (by decide) (by decide) (by decide) (by decide) rfl ?_
      intro h145 P144
      refine go_more (k' := 3) (n' := 15) (by decide) (by decide) ?_
      refine go_astore c0_31 rfl rfl rfl ?_
      dsimp only [setl]
      refine go_new (y := x) P144 [(("com/example/umbrella_state/umbrellastate/runtime/Delivery", "handler", "Ljava/util/function/Consumer;"), .null), (("com/example/umbrella_state/umbrellastate/runtime/Delivery", "message", "Lcom/example/umbrella_state/umbrellastate/model/Message;"), .null), (("com/example/umbrella_state/umbrellastate/runtime/Delivery", "due", "J"), (.long 0)), (("com/example/umbrella_state/umbrellastate/runtime/Delivery", "order", "J"), (.long 0))] c0_33 (t13 hw) (t14 hw) (t15 hw) (⟨⟨Or.inl (t21 hw), (.object "java/util/function/Consumer"), by decide, rfl⟩, ⟨⟨Or.inl (t23 hw), (.object "com/example/umbrella_state/umbrellastate/model/Message"), by decide, rfl⟩, ⟨⟨Or.inr (t25 hw), .long, by decide, rfl⟩, ⟨⟨Or.inr (t27 hw), .long, by decide, rfl⟩, trivial⟩⟩⟩⟩) (by decide) (by decide) (by decide) ?_
      intro h146 a148 P147
      refine go_more (k' := 4) (n' := 20) (by decide) (by decide) ?_
      refine go_dup c0_36 rfl ?_
      refine go_null c0_37 ?_
      refine go_null c0_38 ?_
      refine go_lload c0_39 rfl ?_
      refine go_lload c0_41 rfl ?_
      refine go_callN0 (y := x) (W := 1) (argsL := [.null, .null, (.long d2), (.long o2)]) (st := [(.ref a148)]) c0_43 rfl rfl (rm_D l Z a0 hw h146 n0 _ a148 d2 o2 P147) (t16 hw) (t17 hw) (t15 hw) (t18 hw) (by decide) (lenOf pd4 rfl) rfl rfl (by decide) (by decide) (by decide) (by decide) rfl ?_
      intro h150 P149
      refine go_more (k' := 4) (n' := 20) (by decide) (by decide) ?_
      have P151 : Hp Z n0 h150 ([(a137, (.inl ("com/example/umbrella_state/umbrellastate/runtime/DelayedDeliveries", [(("com/example/umbrella_state/umbrellastate/runtime/DelayedDeliveries", "heap", "[Lcom/example/umbrella_state/umbrellastate/runtime/Delivery;"), (.ref ha140)), (("com/example/umbrella_state/umbrellastate/runtime/DelayedDeliveries", "size", "I"), (.int 0))]))), (ha140, (.inr ((.object "com/example/umbrella_state/umbrellastate/runtime/Delivery"), "[Lcom/example/umbrella_state/umbrellastate/runtime/Delivery;", [.null, .null, .null, .null, .null, .null, .null, .null]))), (a148, (.inl ("com/example/umbrella_state/umbrellastate/runtime/Delivery", [(("com/example/umbrella_state/umbrellastate/runtime/Delivery", "handler", "Ljava/util/function/Consumer;"), .null), (("com/example/umbrella_state/umbrellastate/runtime/Delivery", "message", "Lcom/example/umbrella_state/umbrellastate/model/Message;"), .null), (("com/example/umbrella_state/umbrellastate/runtime/Delivery", "due", "J"), (.long d2)), (("com/example/umbrella_state/umbrellastate/runtime/Delivery", "order", "J"), (.long o2))]))), (a143, (.inl ("com/example/umbrella_state/umbrellastate/runtime/Delivery", [(("com/example/umbrella_state/umbrellastate/runtime/Delivery", "handler", "Ljava/util/function/Consumer;"), .null), (("com/example/umbrella_state/umbrellastate/runtime/Delivery", "message", "Lcom/example/umbrella_state/umbrellastate/model/Message;"), .null), (("com/example/umbrella_state/umbrellastate/runtime/Delivery", "due", "J"), (.long d1)), (("com/example/umbrella_state/umbrellastate/runtime/Delivery", "order", "J"), (.long o1))])))]) := ((P149.front 3).front 3)
      refine go_astore c0_46 rfl rfl rfl ?_
      dsimp only [setl]
      refine go_iload c0_48 rfl ?_
      refine go_push c0_50 ?_
      refine go_icmp_lt c0_51 (fun q => absurd q (by decide)) (fun _ => ?_)
      refine go_aload c0_54 rfl rfl ?_
      refine go_aload c0_56 rfl rfl ?_
      refine go_callV0 (y := x) (W := 0) (argsL := [(.ref a143)]) (st := []) c0_58 (rm_A0 l Z a0 hw h150 n0 _ a137 ha140 a143 1 d1 o1 rfl P151) (P151.exa (i := 0) rfl) (t40 hw) (t41 hw) (fun _ q => notFace_of_selects (args := #[]) (mvT q (t43 hw))) (t43 hw) (t42 hw) (t2 hw) (t44 hw) (by decide) (lenOf pd7 rfl) rfl rfl (by decide) (by decide) (by decide) (by decide) rfl ?_
      intro h153 P152
      refine go_more (k' := 4) (n' := 20) (by decide) (by decide) ?_
      refine go_iload c0_61 rfl ?_
      refine go_push c0_63 ?_
      refine go_icmp_lt c0_64 (fun _ => ?_) (fun q => absurd q (by decide))
      refine go_iload c0_74 rfl ?_
      refine go_push c0_76 ?_
      refine go_icmp_lt c0_77 (fun _ => ?_) (fun q => absurd q (by decide))
      refine go_aload c0_87 rfl rfl ?_
      refine go_callV1 (y := x) (W := 0) (argsL := []) (st := []) c0_89 (rm_E l Z a0 hw h153 n0 _ a137 _ 1 P152) (P152.exa (i := 0) rfl) (t28 hw) (t29 hw) (fun _ q => notFace_of_selects (args := #[]) (mvT q (t31 hw))) (t31 hw) (t30 hw) (t2 hw) (t32 hw) (by decide) (lenOf pd5 rfl) rfl rfl (by decide) (by decide) (by decide) (by decide) rfl ?_
      rintro _ _ ⟨rfl, rfl⟩
      refine go_more (k' := 4) (n' := 20) (by decide) (by decide) ?_
      refine go_isI 0 (by decide) ?_
      refine go_iload c0_92 rfl ?_
      refine go_if_ne c0_94 (fun _ => ?_) (fun q => absurd q (by decide))
      refine go_push c0_101 ?_
      refine go_icmp_ne c0_102 (fun q => absurd q (by decide)) (fun _ => ?_)
      refine go_push c0_105 ?_
      refine go_goto c0_106 ?_
      refine go_istore c0_110 rfl rfl ?_
      dsimp only [setl]
      refine go_iload c0_112 rfl ?_
      refine go_push c0_114 ?_
      refine go_icmp_lt c0_115 (fun q => absurd q (by decide)) (fun _ => ?_)
      refine go_aload c0_118 rfl rfl ?_
      refine go_callV1 (y := x) (W := 0) (argsL := []) (st := []) c0_120 (rm_O1 l Z a0 hw h153 n0 _ a137 ha140 1 a143 d1 o1 rfl P152) (P152.exa (i := 0) rfl) (t35 hw) (t36 hw) (fun _ q => notFace_of_selects (args := #[]) (mvT q (t38 hw))) (t38 hw) (t37 hw) (t2 hw) (t39 hw) (by decide) (lenOf pd6 rfl) rfl rfl (by decide) (by decide) (by decide) (by decide) rfl ?_
      rintro r156 h155 ⟨hr_r156, P154⟩
      refine go_more (k' := 4) (n' := 20) (by decide) (by decide) ?_
      refine go_pop c0_123 (XT.cat1 hr_r156) ?_
      refine go_iload c0_124 rfl ?_
      refine go_push c0_126 ?_
      refine go_icmp_lt c0_127 (fun q => absurd q (by decide)) (fun _ => ?_)
      refine go_aload c0_130 rfl rfl ?_
      refine go_callV1 (y := x) (W := 0) (argsL := []) (st := []) c0_132 (rm_O0 l Z a0 hw h155 n0 _ a137 ha140 P154) (P154.exa (i := 0) rfl) (t35 hw) (t36 hw) (fun _ q => notFace_of_selects (args := #[]) (mvT q (t38 hw))) (t38 hw) (t37 hw) (t2 hw) (t39 hw) (by decide) (lenOf pd6 rfl) rfl rfl (by decide) (by decide) (by decide) (by decide) rfl ?_
      rintro r160 h159 ⟨hr_r160, P158⟩
      refine go_more (k' := 4) (n' := 20) (by decide) (by decide) ?_
      refine go_pop c0_135 (XT.cat1 hr_r160) ?_
      refine go_iload c0_136 rfl ?_
      refine go_push c0_138 ?_
      refine go_icmp_lt c0_139 (fun _ => ?_) (fun q => absurd q (by decide))
      refine go_aload c0_148 rfl rfl ?_
      refine go_callV1 (y := x) (W := 0) (argsL := []) (st := []) c0_150 (rm_E l Z a0 hw h159 n0 _ a137 _ 0 P158) (P158.exa (i := 0) rfl) (t28 hw) (t29 hw) (fun _ q => notFace_of_selects (args := #[]) (mvT q (t31 hw))) (t31 hw) (t30 hw) (t2 hw) (t32 hw) (by decide) (lenOf pd5 rfl) rfl rfl (by decide) (by decide) (by decide) (by decide) rfl ?_
      rintro _ _ ⟨rfl, rfl⟩
      refine go_more (k' := 4) (n' := 20) (by decide) (by decide) ?_
      refine go_isI 1 (by decide) ?_
      refine go_iload c0_153 rfl ?_
      refine go_iload c0_155 rfl ?_
      refine go_icmp_gt c0_157 (fun q => absurd q (by decide)) (fun _ => ?_)
      refine go_push c0_160 ?_
      refine go_goto c0_161 ?_
      refine go_icmp_ne c0_165 (fun q => absurd q (by decide)) (fun _ => ?_)
      refine go_push c0_168 ?_
      refine go_goto c0_169 ?_
      refine go_istore c0_173 rfl rfl ?_
      dsimp only [setl]
      refine go_iload c0_175 rfl ?_
      refine go_if_eq c0_177 (fun q => absurd q (by decide)) (fun _ => ?_)
      refine go_iload c0_180 rfl ?_
      refine go_if_eq c0_182 (fun q => absurd q (by decide)) (fun _ => ?_)
      refine go_push c0_185 ?_
      refine go_goto c0_186 ?_
      exact go_bret rfl c0_190 (by decide) (by decide) (by decide) ⟨_, rfl, rfl⟩
    · refine go_isI 3 hk ?_
      refine go_istore c0_8 rfl rfl ?_
      dsimp only [setl]
      refine go_new (y := x) P0 [(("com/example/umbrella_state/umbrellastate/runtime/DelayedDeliveries", "heap", "[Lcom/example/umbrella_state/umbrellastate/runtime/Delivery;"), .null), (("com/example/umbrella_state/umbrellastate/runtime/DelayedDeliveries", "size", "I"), (.int 0))] c0_10 (t0 hw) (t1 hw) (t2 hw) (⟨⟨Or.inl (t12 hw), (.array (.object "com/example/umbrella_state/umbrellastate/runtime/Delivery")), by decide, rfl⟩, ⟨⟨Or.inl (t34 hw), .int, by decide, rfl⟩, trivial⟩⟩) (by decide) (by decide) (by decide) ?_
      intro h162 a164 P163
      refine go_more (k' := 1) (n' := 2) (by decide) (by decide) ?_
      refine go_dup c0_13 rfl ?_
      refine go_callN0 (y := x) (W := 1) (argsL := []) (st := [(.ref a164)]) c0_14 rfl rfl (rm_Q l Z a0 hw h162 n0 _ a164 P163) (t3 hw) (t4 hw) (t2 hw) (t5 hw) (by decide) (lenOf pd3 rfl) rfl rfl (by decide) (by decide) (by decide) (by decide) rfl ?_
      rintro h166 ⟨ha167, P165⟩
      refine go_more (k' := 2) (n' := 10) (by decide) (by decide) ?_
      refine go_astore c0_17 rfl rfl rfl ?_
      dsimp only [setl]
      refine go_new (y := x) P165 [(("com/example/umbrella_state/umbrellastate/runtime/Delivery", "handler", "Ljava/util/function/Consumer;"), .null), (("com/example/umbrella_state/umbrellastate/runtime/Delivery", "message", "Lcom/example/umbrella_state/umbrellastate/model/Message;"), .null), (("com/example/umbrella_state/umbrellastate/runtime/Delivery", "due", "J"), (.long 0)), (("com/example/umbrella_state/umbrellastate/runtime/Delivery", "order", "J"), (.long 0))] c0_19 (t13 hw) (t14 hw) (t15 hw) (⟨⟨Or.inl (t21 hw), (.object "java/util/function/Consumer"), by decide, rfl⟩, ⟨⟨Or.inl (t23 hw), (.object "com/example/umbrella_state/umbrellastate/model/Message"), by decide, rfl⟩, ⟨⟨Or.inr (t25 hw), .long, by decide, rfl⟩, ⟨⟨Or.inr (t27 hw), .long, by decide, rfl⟩, trivial⟩⟩⟩⟩) (by decide) (by decide) (by decide) ?_
      intro h168 a170 P169
      refine go_more (k' := 3) (n' := 15) (by decide) (by decide) ?_
      refine go_dup c0_22 rfl ?_
      refine go_null c0_23 ?_
      refine go_null c0_24 ?_
      refine go_lload c0_25 rfl ?_
      refine go_lload c0_26 rfl ?_
      refine go_callN0 (y := x) (W := 1) (argsL := [.null, .null, (.long d1), (.long o1)]) (st := [(.ref a170)]) c0_28 rfl rfl (rm_D l Z a0 hw h168 n0 _ a170 d1 o1 P169) (t16 hw) (t17 hw) (t15 hw) (t18 hw) (by decide) (lenOf pd4 rfl) rfl rfl (by decide) (by decide) (by decide) (by decide) rfl ?_
      intro h172 P171
      refine go_more (k' := 3) (n' := 15) (by decide) (by decide) ?_
      refine go_astore c0_31 rfl rfl rfl ?_
      dsimp only [setl]
      refine go_new (y := x) P171 [(("com/example/umbrella_state/umbrellastate/runtime/Delivery", "handler", "Ljava/util/function/Consumer;"), .null), (("com/example/umbrella_state/umbrellastate/runtime/Delivery", "message", "Lcom/example/umbrella_state/umbrellastate/model/Message;"), .null), (("com/example/umbrella_state/umbrellastate/runtime/Delivery", "due", "J"), (.long 0)), (("com/example/umbrella_state/umbrellastate/runtime/Delivery", "order", "J"), (.long 0))] c0_33 (t13 hw) (t14 hw) (t15 hw) (⟨⟨Or.inl (t21 hw), (.object "java/util/function/Consumer"), by decide, rfl⟩, ⟨⟨Or.inl (t23 hw), (.object "com/example/umbrella_state/umbrellastate/model/Message"), by decide, rfl⟩, ⟨⟨Or.inr (t25 hw), .long, by decide, rfl⟩, ⟨⟨Or.inr (t27 hw), .long, by decide, rfl⟩, trivial⟩⟩⟩⟩) (by decide) (by decide) (by decide) ?_
      intro h173 a175 P174
      refine go_more (k' := 4) (n' := 20) (by decide) (by decide) ?_
      refine go_dup c0_36 rfl ?_
      refine go_null c0_37 ?_
      refine go_null c0_38 ?_
      refine go_lload c0_39 rfl ?_
      refine go_lload c0_41 rfl ?_
      refine go_callN0 (y := x) (W := 1) (argsL := [.null, .null, (.long d2), (.long o2)]) (st := [(.ref a175)]) c0_43 rfl rfl (rm_D l Z a0 hw h173 n0 _ a175 d2 o2 P174) (t16 hw) (t17 hw) (t15 hw) (t18 hw) (by decide) (lenOf pd4 rfl) rfl rfl (by decide) (by decide) (by decide) (by decide) rfl ?_
      intro h177 P176
      refine go_more (k' := 4) (n' := 20) (by decide) (by decide) ?_
      have P178 : Hp Z n0 h177 ([(a164, (.inl ("com/example/umbrella_state/umbrellastate/runtime/DelayedDeliveries", [(("com/example/umbrella_state/umbrellastate/runtime/DelayedDeliveries", "heap", "[Lcom/example/umbrella_state/umbrellastate/runtime/Delivery;"), (.ref ha167)), (("com/example/umbrella_state/umbrellastate/runtime/DelayedDeliveries", "size", "I"), (.int 0))]))), (ha167, (.inr ((.object "com/example/umbrella_state/umbrellastate/runtime/Delivery"), "[Lcom/example/umbrella_state/umbrellastate/runtime/Delivery;", [.null, .null, .null, .null, .null, .null, .null, .null]))), (a175, (.inl ("com/example/umbrella_state/umbrellastate/runtime/Delivery", [(("com/example/umbrella_state/umbrellastate/runtime/Delivery", "handler", "Ljava/util/function/Consumer;"), .null), (("com/example/umbrella_state/umbrellastate/runtime/Delivery", "message", "Lcom/example/umbrella_state/umbrellastate/model/Message;"), .null), (("com/example/umbrella_state/umbrellastate/runtime/Delivery", "due", "J"), (.long d2)), (("com/example/umbrella_state/umbrellastate/runtime/Delivery", "order", "J"), (.long o2))]))), (a170, (.inl ("com/example/umbrella_state/umbrellastate/runtime/Delivery", [(("com/example/umbrella_state/umbrellastate/runtime/Delivery", "handler", "Ljava/util/function/Consumer;"), .null), (("com/example/umbrella_state/umbrellastate/runtime/Delivery", "message", "Lcom/example/umbrella_state/umbrellastate/model/Message;"), .null), (("com/example/umbrella_state/umbrellastate/runtime/Delivery", "due", "J"), (.long d1)), (("com/example/umbrella_state/umbrellastate/runtime/Delivery", "order", "J"), (.long o1))])))]) := ((P176.front 3).front 3)
      refine go_astore c0_46 rfl rfl rfl ?_
      dsimp only [setl]
      refine go_iload c0_48 rfl ?_
      refine go_push c0_50 ?_
      refine go_icmp_lt c0_51 (fun q => absurd q (by decide)) (fun _ => ?_)
      refine go_aload c0_54 rfl rfl ?_
      refine go_aload c0_56 rfl rfl ?_
      refine go_callV0 (y := x) (W := 0) (argsL := [(.ref a170)]) (st := []) c0_58 (rm_A0 l Z a0 hw h177 n0 _ a164 ha167 a170 1 d1 o1 rfl P178) (P178.exa (i := 0) rfl) (t40 hw) (t41 hw) (fun _ q => notFace_of_selects (args := #[]) (mvT q (t43 hw))) (t43 hw) (t42 hw) (t2 hw) (t44 hw) (by decide) (lenOf pd7 rfl) rfl rfl (by decide) (by decide) (by decide) (by decide) rfl ?_
      intro h180 P179
      refine go_more (k' := 4) (n' := 20) (by decide) (by decide) ?_
      refine go_iload c0_61 rfl ?_
      refine go_push c0_63 ?_
      refine go_icmp_lt c0_64 (fun _ => ?_) (fun q => absurd q (by decide))
      refine go_iload c0_74 rfl ?_
      refine go_push c0_76 ?_
      refine go_icmp_lt c0_77 (fun _ => ?_) (fun q => absurd q (by decide))
      refine go_aload c0_87 rfl rfl ?_
      refine go_callV1 (y := x) (W := 0) (argsL := []) (st := []) c0_89 (rm_E l Z a0 hw h180 n0 _ a164 _ 1 P179) (P179.exa (i := 0) rfl) (t28 hw) (t29 hw) (fun _ q => notFace_of_selects (args := #[]) (mvT q (t31 hw))) (t31 hw) (t30 hw) (t2 hw) (t32 hw) (by decide) (lenOf pd5 rfl) rfl rfl (by decide) (by decide) (by decide) (by decide) rfl ?_
      rintro _ _ ⟨rfl, rfl⟩
      refine go_more (k' := 4) (n' := 20) (by decide) (by decide) ?_
      refine go_isI 0 (by decide) ?_
      refine go_iload c0_92 rfl ?_
      refine go_if_ne c0_94 (fun _ => ?_) (fun q => absurd q (by decide))
      refine go_push c0_101 ?_
      refine go_icmp_ne c0_102 (fun q => absurd q (by decide)) (fun _ => ?_)
      refine go_push c0_105 ?_
      refine go_goto c0_106 ?_
      refine go_istore c0_110 rfl rfl ?_
      dsimp only [setl]
      refine go_iload c0_112 rfl ?_
      refine go_push c0_114 ?_
      refine go_icmp_lt c0_115 (fun q => absurd q (by decide)) (fun _ => ?_)
      refine go_aload c0_118 rfl rfl ?_
      refine go_callV1 (y := x) (W := 0) (argsL := []) (st := []) c0_120 (rm_O1 l Z a0 hw h180 n0 _ a164 ha167 1 a170 d1 o1 rfl P179) (P179.exa (i := 0) rfl) (t35 hw) (t36 hw) (fun _ q => notFace_of_selects (args := #[]) (mvT q (t38 hw))) (t38 hw) (t37 hw) (t2 hw) (t39 hw) (by decide) (lenOf pd6 rfl) rfl rfl (by decide) (by decide) (by decide) (by decide) rfl ?_
      rintro r183 h182 ⟨hr_r183, P181⟩
      refine go_more (k' := 4) (n' := 20) (by decide) (by decide) ?_
      refine go_pop c0_123 (XT.cat1 hr_r183) ?_
      refine go_iload c0_124 rfl ?_
      refine go_push c0_126 ?_
      refine go_icmp_lt c0_127 (fun q => absurd q (by decide)) (fun _ => ?_)
      refine go_aload c0_130 rfl rfl ?_
      refine go_callV1 (y := x) (W := 0) (argsL := []) (st := []) c0_132 (rm_O0 l Z a0 hw h182 n0 _ a164 ha167 P181) (P181.exa (i := 0) rfl) (t35 hw) (t36 hw) (fun _ q => notFace_of_selects (args := #[]) (mvT q (t38 hw))) (t38 hw) (t37 hw) (t2 hw) (t39 hw) (by decide) (lenOf pd6 rfl) rfl rfl (by decide) (by decide) (by decide) (by decide) rfl ?_
      rintro r187 h186 ⟨hr_r187, P185⟩
      refine go_more (k' := 4) (n' := 20) (by decide) (by decide) ?_
      refine go_pop c0_135 (XT.cat1 hr_r187) ?_
      refine go_iload c0_136 rfl ?_
      refine go_push c0_138 ?_
      refine go_icmp_lt c0_139 (fun q => absurd q (by decide)) (fun _ => ?_)
      refine go_aload c0_142 rfl rfl ?_
      refine go_callV1 (y := x) (W := 0) (argsL := []) (st := []) c0_144 (rm_O0 l Z a0 hw h186 n0 _ a164 ha167 P185) (P185.exa (i := 0) rfl) (t35 hw) (t36 hw) (fun _ q => notFace_of_selects (args := #[]) (mvT q (t38 hw))) (t38 hw) (t37 hw) (t2 hw) (t39 hw) (by decide) (lenOf pd6 rfl) rfl rfl (by decide) (by decide) (by decide) (by decide) rfl ?_
      rintro r191 h190 ⟨hr_r191, P189⟩
      refine go_more (k' := 4) (n' := 20) (by decide) (by decide) ?_
      refine go_pop c0_147 (XT.cat1 hr_r191) ?_
      refine go_aload c0_148 rfl rfl ?_
      refine go_callV1 (y := x) (W := 0) (argsL := []) (st := []) c0_150 (rm_E l Z a0 hw h190 n0 _ a164 _ 0 P189) (P189.exa (i := 0) rfl) (t28 hw) (t29 hw) (fun _ q => notFace_of_selects (args := #[]) (mvT q (t31 hw))) (t31 hw) (t30 hw) (t2 hw) (t32 hw) (by decide) (lenOf pd5 rfl) rfl rfl (by decide) (by decide) (by decide) (by decide) rfl ?_
      rintro _ _ ⟨rfl, rfl⟩
      refine go_more (k' := 4) (n' := 20) (by decide) (by decide) ?_
      refine go_isI 1 (by decide) ?_
      refine go_iload c0_153 rfl ?_
      refine go_iload c0_155 rfl ?_
      refine go_icmp_gt c0_157 (fun q => absurd q (by decide)) (fun _ => ?_)
      refine go_push c0_160 ?_
      refine go_goto c0_161 ?_
      refine go_icmp_ne c0_165 (fun q => absurd q (by decide)) (fun _ => ?_)
      refine go_push c0_168 ?_
      refine go_goto c0_169 ?_
      refine go_istore c0_173 rfl rfl ?_
      dsimp only [setl]
      refine go_iload c0_175 rfl ?_
      refine go_if_eq c0_177 (fun q => absurd q (by decide)) (fun _ => ?_)
      refine go_iload c0_180 rfl ?_
      refine go_if_eq c0_182 (fun q => absurd q (by decide)) (fun _ => ?_)
      refine go_push c0_185 ?_
      refine go_goto c0_186 ?_
      exact go_bret rfl c0_190 (by decide) (by decide) (by decide) ⟨_, rfl, rfl⟩
  · refine go_isI 2 hn ?_
    refine go_istore c0_3 rfl rfl ?_
    dsimp only [setl]
    refine go_iload c0_5 rfl ?_
    refine go_push c0_6 ?_
    refine go_iand c0_7 ?_
    rcases own_n4 b with hk | hk | hk | hk
    · refine go_isI 0 hk ?_
      refine go_istore c0_8 rfl rfl ?_
      dsimp only [setl]
      refine go_new (y := x) P0 [(("com/example/umbrella_state/umbrellastate/runtime/DelayedDeliveries", "heap", "[Lcom/example/umbrella_state/umbrellastate/runtime/Delivery;"), .null), (("com/example/umbrella_state/umbrellastate/runtime/DelayedDeliveries", "size", "I"), (.int 0))] c0_10 (t0 hw) (t1 hw) (t2 hw) (⟨⟨Or.inl (t12 hw), (.array (.object "com/example/umbrella_state/umbrellastate/runtime/Delivery")), by decide, rfl⟩, ⟨⟨Or.inl (t34 hw), .int, by decide, rfl⟩, trivial⟩⟩) (by decide) (by decide) (by decide) ?_
      intro h193 a195 P194
      refine go_more (k' := 1) (n' := 2) (by decide) (by decide) ?_
      refine go_dup c0_13 rfl ?_
      refine go_callN0 (y := x) (W := 1) (argsL := []) (st := [(.ref a195)]) c0_14 rfl rfl (rm_Q l Z a0 hw h193 n0 _ a195 P194) (t3 hw) (t4 hw) (t2 hw) (t5 hw) (by decide) (lenOf pd3 rfl) rfl rfl (by decide) (by decide) (by decide) (by decide) rfl ?_
      rintro h197 ⟨ha198, P196⟩
      refine go_more (k' := 2) (n' := 10) (by decide) (by decide) ?_
      refine go_astore c0_17 rfl rfl rfl ?_
      dsimp only [setl]
      refine go_new (y := x) P196 [(("com/example/umbrella_state/umbrellastate/runtime/Delivery", "handler", "Ljava/util/function/Consumer;"), .null), (("com/example/umbrella_state/umbrellastate/runtime/Delivery", "message", "Lcom/example/umbrella_state/umbrellastate/model/Message;"), .null), (("com/example/umbrella_state/umbrellastate/runtime/Delivery", "due", "J"), (.long 0)), (("com/example/umbrella_state/umbrellastate/runtime/Delivery", "order", "J"), (.long 0))] c0_19 (t13 hw) (t14 hw) (t15 hw) (⟨⟨Or.inl (t21 hw), (.object "java/util/function/Consumer"), by decide, rfl⟩, ⟨⟨Or.inl (t23 hw), (.object "com/example/umbrella_state/umbrellastate/model/Message"), by decide, rfl⟩, ⟨⟨Or.inr (t25 hw), .long, by decide, rfl⟩, ⟨⟨Or.inr (t27 hw), .long, by decide, rfl⟩, trivial⟩⟩⟩⟩) (by decide) (by decide) (by decide) ?_
      intro h199 a201 P200
      refine go_more (k' := 3) (n' := 15) (by decide) (by decide) ?_
      refine go_dup c0_22 rfl ?_
      refine go_null c0_23 ?_
      refine go_null c0_24 ?_
      refine go_lload c0_25 rfl ?_
      refine go_lload c0_26 rfl ?_
      refine go_callN0 (y := x) (W := 1) (argsL := [.null, .null, (.long d1), (.long o1)]) (st := [(.ref a201)]) c0_28 rfl rfl (rm_D l Z a0 hw h199 n0 _ a201 d1 o1 P200) (t16 hw) (t17 hw) (t15 hw) (t18 hw) (by decide) (lenOf pd4 rfl) rfl rfl (by decide) (by decide) (by decide) (by decide) rfl ?_
      intro h203 P202
      refine go_more (k' := 3) (n' := 15) (by decide) (by decide) ?_
      refine go_astore c0_31 rfl rfl rfl ?_
      dsimp only [setl]
      refine go_new (y := x) P202 [(("com/example/umbrella_state/umbrellastate/runtime/Delivery", "handler", "Ljava/util/function/Consumer;"), .null), (("com/example/umbrella_state/umbrellastate/runtime/Delivery", "message", "Lcom/example/umbrella_state/umbrellastate/model/Message;"), .null), (("com/example/umbrella_state/umbrellastate/runtime/Delivery", "due", "J"), (.long 0)), (("com/example/umbrella_state/umbrellastate/runtime/Delivery", "order", "J"), (.long 0))] c0_33 (t13 hw) (t14 hw) (t15 hw) (⟨⟨Or.inl (t21 hw), (.object "java/util/function/Consumer"), by decide, rfl⟩, ⟨⟨Or.inl (t23 hw), (.object "com/example/umbrella_state/umbrellastate/model/Message"), by decide, rfl⟩, ⟨⟨Or.inr (t25 hw), .long, by decide, rfl⟩, ⟨⟨Or.inr (t27 hw), .long, by decide, rfl⟩, trivial⟩⟩⟩⟩) (by decide) (by decide) (by decide) ?_
      intro h204 a206 P205
      refine go_more (k' := 4) (n' := 20) (by decide) (by decide) ?_
      refine go_dup c0_36 rfl ?_
      refine go_null c0_37 ?_
      refine go_null c0_38 ?_
      refine go_lload c0_39 rfl ?_
      refine go_lload c0_41 rfl ?_
      refine go_callN0 (y := x) (W := 1) (argsL := [.null, .null, (.long d2), (.long o2)]) (st := [(.ref a206)]) c0_43 rfl rfl (rm_D l Z a0 hw h204 n0 _ a206 d2 o2 P205) (t16 hw) (t17 hw) (t15 hw) (t18 hw) (by decide) (lenOf pd4 rfl) rfl rfl (by decide) (by decide) (by decide) (by decide) rfl ?_
      intro h208 P207
      refine go_more (k' := 4) (n' := 20) (by decide) (by decide) ?_
      have P209 : Hp Z n0 h208 ([(a195, (.inl ("com/example/umbrella_state/umbrellastate/runtime/DelayedDeliveries", [(("com/example/umbrella_state/umbrellastate/runtime/DelayedDeliveries", "heap", "[Lcom/example/umbrella_state/umbrellastate/runtime/Delivery;"), (.ref ha198)), (("com/example/umbrella_state/umbrellastate/runtime/DelayedDeliveries", "size", "I"), (.int 0))]))), (ha198, (.inr ((.object "com/example/umbrella_state/umbrellastate/runtime/Delivery"), "[Lcom/example/umbrella_state/umbrellastate/runtime/Delivery;", [.null, .null, .null, .null, .null, .null, .null, .null]))), (a206, (.inl ("com/example/umbrella_state/umbrellastate/runtime/Delivery", [(("com/example/umbrella_state/umbrellastate/runtime/Delivery", "handler", "Ljava/util/function/Consumer;"), .null), (("com/example/umbrella_state/umbrellastate/runtime/Delivery", "message", "Lcom/example/umbrella_state/umbrellastate/model/Message;"), .null), (("com/example/umbrella_state/umbrellastate/runtime/Delivery", "due", "J"), (.long d2)), (("com/example/umbrella_state/umbrellastate/runtime/Delivery", "order", "J"), (.long o2))]))), (a201, (.inl ("com/example/umbrella_state/umbrellastate/runtime/Delivery", [(("com/example/umbrella_state/umbrellastate/runtime/Delivery", "handler", "Ljava/util/function/Consumer;"), .null), (("com/example/umbrella_state/umbrellastate/runtime/Delivery", "message", "Lcom/example/umbrella_state/umbrellastate/model/Message;"), .null), (("com/example/umbrella_state/umbrellastate/runtime/Delivery", "due", "J"), (.long d1)), (("com/example/umbrella_state/umbrellastate/runtime/Delivery", "order", "J"), (.long o1))])))]) := ((P207.front 3).front 3)
      refine go_astore c0_46 rfl rfl rfl ?_
      dsimp only [setl]
      refine go_iload c0_48 rfl ?_
      refine go_push c0_50 ?_
      refine go_icmp_lt c0_51 (fun q => absurd q (by decide)) (fun _ => ?_)
      refine go_aload c0_54 rfl rfl ?_
      refine go_aload c0_56 rfl rfl ?_
      refine go_callV0 (y := x) (W := 0) (argsL := [(.ref a201)]) (st := []) c0_58 (rm_A0 l Z a0 hw h208 n0 _ a195 ha198 a201 1 d1 o1 rfl P209) (P209.exa (i := 0) rfl) (t40 hw) (t41 hw) (fun _ q => notFace_of_selects (args := #[]) (mvT q (t43 hw))) (t43 hw) (t42 hw) (t2 hw) (t44 hw) (by decide) (lenOf pd7 rfl) rfl rfl (by decide) (by decide) (by decide) (by decide) rfl ?_
      intro h211 P210
      refine go_more (k' := 4) (n' := 20) (by decide) (by decide) ?_
      refine go_iload c0_61 rfl ?_
      refine go_push c0_63 ?_
      refine go_icmp_lt c0_64 (fun q => absurd q (by decide)) (fun _ => ?_)
      refine go_aload c0_67 rfl rfl ?_
      refine go_aload c0_69 rfl rfl ?_
      refine go_callV0 (y := x) (W := 0) (argsL := [(.ref a206)]) (st := []) c0_71 (rm_A1 l Z a0 hw h211 n0 _ a195 ha198 a206 0 d2 o2 rfl 1 a201 d1 o1 rfl P210) (P210.exa (i := 0) rfl) (t40 hw) (t41 hw) (fun _ q => notFace_of_selects (args := #[]) (mvT q (t43 hw))) (t43 hw) (t42 hw) (t2 hw) (t44 hw) (by decide) (lenOf pd7 rfl) rfl rfl (by decide) (by decide) (by decide) (by decide) rfl ?_
      rintro h213 (⟨f214, P212⟩ | ⟨f214, P212⟩)
      · refine go_iload c0_74 rfl ?_
        refine go_push c0_76 ?_
        refine go_icmp_lt c0_77 (fun _ => ?_) (fun q => absurd q (by decide))
        refine go_aload c0_87 rfl rfl ?_
        refine go_callV1 (y := x) (W := 0) (argsL := []) (st := []) c0_89 (rm_E l Z a0 hw h213 n0 _ a195 _ 2 P212) (P212.exa (i := 0) rfl) (t28 hw) (t29 hw) (fun _ q => notFace_of_selects (args := #[]) (mvT q (t31 hw))) (t31 hw) (t30 hw) (t2 hw) (t32 hw) (by decide) (lenOf pd5 rfl) rfl rfl (by decide) (by decide) (by decide) (by decide) rfl ?_
        rintro _ _ ⟨rfl, rfl⟩
        refine go_more (k' := 4) (n' := 20) (by decide) (by decide) ?_
        refine go_isI 0 (by decide) ?_
        refine go_iload c0_92 rfl ?_
        refine go_if_ne c0_94 (fun _ => ?_) (fun q => absurd q (by decide))
        refine go_push c0_101 ?_
        refine go_icmp_ne c0_102 (fun q => absurd q (by decide)) (fun _ => ?_)
        refine go_push c0_105 ?_
        refine go_goto c0_106 ?_
        refine go_istore c0_110 rfl rfl ?_
        dsimp only [setl]
        refine go_iload c0_112 rfl ?_
        refine go_push c0_114 ?_
        refine go_icmp_lt c0_115 (fun _ => ?_) (fun q => absurd q (by decide))
        refine go_iload c0_124 rfl ?_
        refine go_push c0_126 ?_
        refine go_icmp_lt c0_127 (fun _ => ?_) (fun q => absurd q (by decide))
        refine go_iload c0_136 rfl ?_
        refine go_push c0_138 ?_
        refine go_icmp_lt c0_139 (fun _ => ?_) (fun q => absurd q (by decide))
        refine go_aload c0_148 rfl rfl ?_
        refine go_callV1 (y := x) (W := 0) (argsL := []) (st := []) c0_150 (rm_E l Z a0 hw h213 n0 _ a195 _ 2 P212) (P212.exa (i := 0) rfl) (t28 hw) (t29 hw) (fun _ q => notFace_of_selects (args := #[]) (mvT q (t31 hw))) (t31 hw) (t30 hw) (t2 hw) (t32 hw) (by decide) (lenOf pd5 rfl) rfl rfl (by decide) (by decide) (by decide) (by decide) rfl ?_
        rintro _ _ ⟨rfl, rfl⟩
        refine go_more (k' := 4) (n' := 20) (by decide) (by decide) ?_
        refine go_isI 0 (by decide) ?_
        refine go_iload c0_153 rfl ?_
        refine go_iload c0_155 rfl ?_
        refine go_icmp_gt c0_157 (fun _ => ?_) (fun q => absurd q (by decide))
        refine go_push c0_164 ?_
        refine go_icmp_ne c0_165 (fun q => absurd q (by decide)) (fun _ => ?_)
        refine go_push c0_168 ?_
        refine go_goto c0_169 ?_
        refine go_istore c0_173 rfl rfl ?_
        dsimp only [setl]
        refine go_iload c0_175 rfl ?_
        refine go_if_eq c0_177 (fun q => absurd q (by decide)) (fun _ => ?_)
        refine go_iload c0_180 rfl ?_
        refine go_if_eq c0_182 (fun q => absurd q (by decide)) (fun _ => ?_)
        refine go_push c0_185 ?_
        refine go_goto c0_186 ?_
        exact go_bret rfl c0_190 (by decide) (by decide) (by decide) ⟨_, rfl, rfl⟩
      · refine go_iload c0_74 rfl ?_
        refine go_push c0_76 ?_
        refine go_icmp_lt c0_77 (fun _ => ?_) (fun q => absurd q (by decide))
        refine go_aload c0_87 rfl rfl ?_
        refine go_callV1 (y := x) (W := 0) (argsL := []) (st := []) c0_89 (rm_E l Z a0 hw h213 n0 _ a195 _ 2 P212) (P212.exa (i := 0) rfl) (t28 hw) (t29 hw) (fun _ q => notFace_of_selects (args := #[]) (mvT q (t31 hw))) (t31 hw) (t30 hw) (t2 hw) (t32 hw) (by decide) (lenOf pd5 rfl) rfl rfl (by decide) (by decide) (by decide) (by decide) rfl ?_
        rintro _ _ ⟨rfl, rfl⟩
        refine go_more (k' := 4) (n' := 20) (by decide) (by decide) ?_
        refine go_isI 0 (by decide) ?_
        refine go_iload c0_92 rfl ?_
        refine go_if_ne c0_94 (fun _ => ?_) (fun q => absurd q (by decide))
        refine go_push c0_101 ?_
        refine go_icmp_ne c0_102 (fun q => absurd q (by decide)) (fun _ => ?_)
        refine go_push c0_105 ?_
        refine go_goto c0_106 ?_
        refine go_istore c0_110 rfl rfl ?_
        dsimp only [setl]
        refine go_iload c0_112 rfl ?_
        refine go_push c0_114 ?_
        refine go_icmp_lt c0_115 (fun _ => ?_) (fun q => absurd q (by decide))
        refine go_iload c0_124 rfl ?_
        refine go_push c0_126 ?_
        refine go_icmp_lt c0_127 (fun _ => ?_) (fun q => absurd q (by decide))
        refine go_iload c0_136 rfl ?_
        refine go_push c0_138 ?_
        refine go_icmp_lt c0_139 (fun _ => ?_) (fun q => absurd q (by decide))
        refine go_aload c0_148 rfl rfl ?_
        refine go_callV1 (y := x) (W := 0) (argsL := []) (st := []) c0_150 (rm_E l Z a0 hw h213 n0 _ a195 _ 2 P212) (P212.exa (i := 0) rfl) (t28 hw) (t29 hw) (fun _ q => notFace_of_selects (args := #[]) (mvT q (t31 hw))) (t31 hw) (t30 hw) (t2 hw) (t32 hw) (by decide) (lenOf pd5 rfl) rfl rfl (by decide) (by decide) (by decide) (by decide) rfl ?_
        rintro _ _ ⟨rfl, rfl⟩
        refine go_more (k' := 4) (n' := 20) (by decide) (by decide) ?_
        refine go_isI 0 (by decide) ?_
        refine go_iload c0_153 rfl ?_
        refine go_iload c0_155 rfl ?_
        refine go_icmp_gt c0_157 (fun _ => ?_) (fun q => absurd q (by decide))
        refine go_push c0_164 ?_
        refine go_icmp_ne c0_165 (fun q => absurd q (by decide)) (fun _ => ?_)
        refine go_push c0_168 ?_
        refine go_goto c0_169 ?_
        refine go_istore c0_173 rfl rfl ?_
        dsimp only [setl]
        refine go_iload c0_175 rfl ?_
        refine go_if_eq c0_177 (fun q => absurd q (by decide)) (fun _ => ?_)
        refine go_iload c0_180 rfl ?_
        refine go_if_eq c0_182 (fun q => absurd q (by decide)) (fun _ => ?_)
        refine go_push c0_185 ?_
        refine go_goto c0_186 ?_
        exact go_bret rfl c0_190 (by decide) (by decide) (by decide) ⟨_, rfl, rfl⟩
    · refine go_isI 1 hk ?_
      refine go_istore c0_8 rfl rfl ?_
      dsimp only [setl]
      refine go_new (y := x) P0 [(("com/example/umbrella_state/umbrellastate/runtime/DelayedDeliveries", "heap", "[Lcom/example/umbrella_state/umbrellastate/runtime/Delivery;"), .null), (("com/example/umbrella_state/umbrellastate/runtime/DelayedDeliveries", "size", "I"), (.int 0))] c0_10 (t0 hw) (t1 hw) (t2 hw) (⟨⟨Or.inl (t12 hw), (.array (.object "com/example/umbrella_state/umbrellastate/runtime/Delivery")), by decide, rfl⟩, ⟨⟨Or.inl (t34 hw), .int, by decide, rfl⟩, trivial⟩⟩) (by decide) (by decide) (by decide) ?_
      intro h215 a217 P216
      refine go_more (k' := 1) (n' := 2) (by decide) (by decide) ?_
      refine go_dup c0_13 rfl ?_
      refine go_callN0 (y := x) (W := 1) (argsL := []) (st := [(.ref a217)]) c0_14 rfl rfl (rm_Q l Z a0 hw h215 n0 _ a217 P216) (t3 hw) (t4 hw) (t2 hw) (t5 hw) (by decide) (lenOf pd3 rfl) rfl rfl (by decide) (by decide) (by decide) (by decide) rfl ?_
      rintro h219 ⟨ha220, P218⟩
      refine go_more (k' := 2) (n' := 10) (by decide) (by decide) ?_
      refine go_astore c0_17 rfl rfl rfl ?_
      dsimp only [setl]
      refine go_new (y := x) P218 [(("com/example/umbrella_state/umbrellastate/runtime/Delivery", "handler", "Ljava/util/function/Consumer;"), .null), (("com/example/umbrella_state/umbrellastate/runtime/Delivery", "message", "Lcom/example/umbrella_state/umbrellastate/model/Message;"), .null), (("com/example/umbrella_state/umbrellastate/runtime/Delivery", "due", "J"), (.long 0)), (("com/example/umbrella_state/umbrellastate/runtime/Delivery", "order", "J"), (.long 0))] c0_19 (t13 hw) (t14 hw) (t15 hw) (⟨⟨Or.inl (t21 hw), (.object "java/util/function/Consumer"), by decide, rfl⟩, ⟨⟨Or.inl (t23 hw), (.object "com/example/umbrella_state/umbrellastate/model/Message"), by decide, rfl⟩, ⟨⟨Or.inr (t25 hw), .long, by decide, rfl⟩, ⟨⟨Or.inr (t27 hw), .long, by decide, rfl⟩, trivial⟩⟩⟩⟩) (by decide) (by decide) (by decide) ?_
      intro h221 a223 P222
      refine go_more (k' := 3) (n' := 15) (by decide) (by decide) ?_
      refine go_dup c0_22 rfl ?_
      refine go_null c0_23 ?_
      refine go_null c0_24 ?_
      refine go_lload c0_25 rfl ?_
      refine go_lload c0_26 rfl ?_
      refine go_callN0 (y := x) (W := 1) (argsL := [.null, .null, (.long d1), (.long o1)]) (st := [(.ref a223)]) c0_28 rfl rfl (rm_D l Z a0 hw h221 n0 _ a223 d1 o1 P222) (t16 hw) (t17 hw) (t15 hw) (t18 hw) (by decide) (lenOf pd4 rfl) rfl rfl (by decide) (by decide) (by decide) (by decide) rfl ?_
      intro h225 P224
      refine go_more (k' := 3) (n' := 15) (by decide) (by decide) ?_
      refine go_astore c0_31 rfl rfl rfl ?_
      dsimp only [setl]
      refine go_new (y := x) P224 [(("com/example/umbrella_state/umbrellastate/runtime/Delivery", "handler", "Ljava/util/function/Consumer;"), .null), (("com/example/umbrella_state/umbrellastate/runtime/Delivery", "message", "Lcom/example/umbrella_state/umbrellastate/model/Message;"), .null), (("com/example/umbrella_state/umbrellastate/runtime/Delivery", "due", "J"), (.long 0)), (("com/example/umbrella_state/umbrellastate/runtime/Delivery", "order", "J"), (.long 0))] c0_33 (t13 hw) (t14 hw) (t15 hw) (⟨⟨Or.inl (t21 hw), (.object "java/util/function/Consumer"), by decide, rfl⟩, ⟨⟨Or.inl (t23 hw), (.object "com/example/umbrella_state/umbrellastate/model/Message"), by decide, rfl⟩, ⟨⟨Or.inr (t25 hw), .long, by decide, rfl⟩, ⟨⟨Or.inr (t27 hw), .long, by decide, rfl⟩, trivial⟩⟩⟩⟩) (by decide) (by decide) (by decide) ?_
      intro h226 a228 P227
      refine go_more (k' := 4) (n' := 20) (by decide) (by decide) ?_
      refine go_dup c0_36 rfl ?_
      refine go_null c0_37 ?_
      refine go_null c0_38 ?_
      refine go_lload c0_39 rfl ?_
      refine go_lload c0_41 rfl ?_
      refine go_callN0 (y := x) (W := 1) (argsL := [.null, .null, (.long d2), (.long o2)]) (st := [(.ref a228)]) c0_43 rfl rfl (rm_D l Z a0 hw h226 n0 _ a228 d2 o2 P227) (t16 hw) (t17 hw) (t15 hw) (t18 hw) (by decide) (lenOf pd4 rfl) rfl rfl (by decide) (by decide) (by decide) (by decide) rfl ?_
      intro h230 P229
      refine go_more (k' := 4) (n' := 20) (by decide) (by decide) ?_
      have P231 : Hp Z n0 h230 ([(a217, (.inl ("com/example/umbrella_state/umbrellastate/runtime/DelayedDeliveries", [(("com/example/umbrella_state/umbrellastate/runtime/DelayedDeliveries", "heap", "[Lcom/example/umbrella_state/umbrellastate/runtime/Delivery;"), (.ref ha220)), (("com/example/umbrella_state/umbrellastate/runtime/DelayedDeliveries", "size", "I"), (.int 0))]))), (ha220, (.inr ((.object "com/example/umbrella_state/umbrellastate/runtime/Delivery"), "[Lcom/example/umbrella_state/umbrellastate/runtime/Delivery;", [.null, .null, .null, .null, .null, .null, .null, .null]))), (a228, (.inl ("com/example/umbrella_state/umbrellastate/runtime/Delivery", [(("com/example/umbrella_state/umbrellastate/runtime/Delivery", "handler", "Ljava/util/function/Consumer;"), .null), (("com/example/umbrella_state/umbrellastate/runtime/Delivery", "message", "Lcom/example/umbrella_state/umbrellastate/model/Message;"), .null), (("com/example/umbrella_state/umbrellastate/runtime/Delivery", "due", "J"), (.long d2)), (("com/example/umbrella_state/umbrellastate/runtime/Delivery", "order", "J"), (.long o2))]))), (a223, (.inl ("com/example/umbrella_state/umbrellastate/runtime/Delivery", [(("com/example/umbrella_state/umbrellastate/runtime/Delivery", "handler", "Ljava/util/function/Consumer;"), .null), (("com/example/umbrella_state/umbrellastate/runtime/Delivery", "message", "Lcom/example/umbrella_state/umbrellastate/model/Message;"), .null), (("com/example/umbrella_state/umbrellastate/runtime/Delivery", "due", "J"), (.long d1)), (("com/example/umbrella_state/umbrellastate/runtime/Delivery", "order", "J"), (.long o1))])))]) := ((P229.front 3).front 3)
      refine go_astore c0_46 rfl rfl rfl ?_
      dsimp only [setl]
      refine go_iload c0_48 rfl ?_
      refine go_push c0_50 ?_
      refine go_icmp_lt c0_51 (fun q => absurd q (by decide)) (fun _ => ?_)
      refine go_aload c0_54 rfl rfl ?_
      refine go_aload c0_56 rfl rfl ?_
      refine go_callV0 (y := x) (W := 0) (argsL := [(.ref a223)]) (st := []) c0_58 (rm_A0 l Z a0 hw h230 n0 _ a217 ha220 a223 1 d1 o1 rfl P231) (P231.exa (i := 0) rfl) (t40 hw) (t41 hw) (fun _ q => notFace_of_selects (args := #[]) (mvT q (t43 hw))) (t43 hw) (t42 hw) (t2 hw) (t44 hw) (by decide) (lenOf pd7 rfl) rfl rfl (by decide) (by decide) (by decide) (by decide) rfl ?_
      intro h233 P232
      refine go_more (k' := 4) (n' := 20) (by decide) (by decide) ?_
      refine go_iload c0_61 rfl ?_
      refine go_push c0_63 ?_
      refine go_icmp_lt c0_64 (fun q => absurd q (by decide)) (fun _ => ?_)
      refine go_aload c0_67 rfl rfl ?_
      refine go_aload c0_69 rfl rfl ?_
      refine go_callV0 (y := x) (W := 0) (argsL := [(.ref a228)]) (st := []) c0_71 (rm_A1 l Z a0 hw h233 n0 _ a217 ha220 a228 0 d2 o2 rfl 1 a223 d1 o1 rfl P232) (P232.exa (i := 0) rfl) (t40 hw) (t41 hw) (fun _ q => notFace_of_selects (args := #[]) (mvT q (t43 hw))) (t43 hw) (t42 hw) (t2 hw) (t44 hw) (by decide) (lenOf pd7 rfl) rfl rfl (by decide) (by decide) (by decide) (by decide) rfl ?_
      rintro h235 (⟨f236, P234⟩ | ⟨f236, P234⟩)
      · refine go_iload c0_74 rfl ?_
        refine go_push c0_76 ?_
        refine go_icmp_lt c0_77 (fun _ => ?_) (fun q => absurd q (by decide))
        refine go_aload c0_87 rfl rfl ?_
        refine go_callV1 (y := x) (W := 0) (argsL := []) (st := []) c0_89 (rm_E l Z a0 hw h235 n0 _ a217 _ 2 P234) (P234.exa (i := 0) rfl) (t28 hw) (t29 hw) (fun _ q => notFace_of_selects (args := #[]) (mvT q (t31 hw))) (t31 hw) (t30 hw) (t2 hw) (t32 hw) (by decide) (lenOf pd5 rfl) rfl rfl (by decide) (by decide) (by decide) (by decide) rfl ?_
        rintro _ _ ⟨rfl, rfl⟩
        refine go_more (k' := 4) (n' := 20) (by decide) (by decide) ?_
        refine go_isI 0 (by decide) ?_
        refine go_iload c0_92 rfl ?_
        refine go_if_ne c0_94 (fun _ => ?_) (fun q => absurd q (by decide))
        refine go_push c0_101 ?_
        refine go_icmp_ne c0_102 (fun q => absurd q (by decide)) (fun _ => ?_)
        refine go_push c0_105 ?_
        refine go_goto c0_106 ?_
        refine go_istore c0_110 rfl rfl ?_
        dsimp only [setl]
        refine go_iload c0_112 rfl ?_
        refine go_push c0_114 ?_
        refine go_icmp_lt c0_115 (fun q => absurd q (by decide)) (fun _ => ?_)
        refine go_aload c0_118 rfl rfl ?_
        refine go_callV1 (y := x) (W := 0) (argsL := []) (st := []) c0_120 (rm_O2 l Z a0 hw h235 n0 _ a217 ha220 0 a228 d2 o2 rfl 1 a223 d1 o1 rfl P234) (P234.exa (i := 0) rfl) (t35 hw) (t36 hw) (fun _ q => notFace_of_selects (args := #[]) (mvT q (t38 hw))) (t38 hw) (t37 hw) (t2 hw) (t39 hw) (by decide) (lenOf pd6 rfl) rfl rfl (by decide) (by decide) (by decide) (by decide) rfl ?_
        rintro r239 h238 ⟨hr_r239, P237⟩
        refine go_more (k' := 4) (n' := 20) (by decide) (by decide) ?_
        refine go_pop c0_123 (XT.cat1 hr_r239) ?_
        refine go_iload c0_124 rfl ?_
        refine go_push c0_126 ?_
        refine go_icmp_lt c0_127 (fun _ => ?_) (fun q => absurd q (by decide))
        refine go_iload c0_136 rfl ?_
        refine go_push c0_138 ?_
        refine go_icmp_lt c0_139 (fun _ => ?_) (fun q => absurd q (by decide))
        refine go_aload c0_148 rfl rfl ?_
        refine go_callV1 (y := x) (W := 0) (argsL := []) (st := []) c0_150 (rm_E l Z a0 hw h238 n0 _ a217 _ 1 P237) (P237.exa (i := 0) rfl) (t28 hw) (t29 hw) (fun _ q => notFace_of_selects (args := #[]) (mvT q (t31 hw))) (t31 hw) (t30 hw) (t2 hw) (t32 hw) (by decide) (lenOf pd5 rfl) rfl rfl (by decide) (by decide) (by decide) (by decide) rfl ?_
        rintro _ _ ⟨rfl, rfl⟩
        refine go_more (k' := 4) (n' := 20) (by decide) (by decide) ?_
        refine go_isI 0 (by decide) ?_
        refine go_iload c0_153 rfl ?_
        refine go_iload c0_155 rfl ?_
        refine go_icmp_gt c0_157 (fun _ => ?_) (fun q => absurd q (by decide))
        refine go_push c0_164 ?_
        refine go_icmp_ne c0_165 (fun q => absurd q (by decide)) (fun _ => ?_)
        refine go_push c0_168 ?_
        refine go_goto c0_169 ?_
        refine go_istore c0_173 rfl rfl ?_
        dsimp only [setl]
        refine go_iload c0_175 rfl ?_
        refine go_if_eq c0_177 (fun q => absurd q (by decide)) (fun _ => ?_)
        refine go_iload c0_180 rfl ?_
        refine go_if_eq c0_182 (fun q => absurd q (by decide)) (fun _ => ?_)
        refine go_push c0_185 ?_
        refine go_goto c0_186 ?_
        exact go_bret rfl c0_190 (by decide) (by decide) (by decide) ⟨_, rfl, rfl⟩
      · refine go_iload c0_74 rfl ?_
        refine go_push c0_76 ?_
        refine go_icmp_lt c0_77 (fun _ => ?_) (fun q => absurd q (by decide))
        refine go_aload c0_87 rfl rfl ?_
        refine go_callV1 (y := x) (W := 0) (argsL := []) (st := []) c0_89 (rm_E l Z a0 hw h235 n0 _ a217 _ 2 P234) (P234.exa (i := 0) rfl) (t28 hw) (t29 hw) (fun _ q => notFace_of_selects (args := #[]) (mvT q (t31 hw))) (t31 hw) (t30 hw) (t2 hw) (t32 hw) (by decide) (lenOf pd5 rfl) rfl rfl (by decide) (by decide) (by decide) (by decide) rfl ?_
        rintro _ _ ⟨rfl, rfl⟩
        refine go_more (k' := 4) (n' := 20) (by decide) (by decide) ?_
        refine go_isI 0 (by decide) ?_
        refine go_iload c0_92 rfl ?_
        refine go_if_ne c0_94 (fun _ => ?_) (fun q => absurd q (by decide))
        refine go_push c0_101 ?_
        refine go_icmp_ne c0_102 (fun q => absurd q (by decide)) (fun _ => ?_)
        refine go_push c0_105 ?_
        refine go_goto c0_106 ?_
        refine go_istore c0_110 rfl rfl ?_
        dsimp only [setl]
        refine go_iload c0_112 rfl ?_
        refine go_push c0_114 ?_
        refine go_icmp_lt c0_115 (fun q => absurd q (by decide)) (fun _ => ?_)
        refine go_aload c0_118 rfl rfl ?_
        refine go_callV1 (y := x) (W := 0) (argsL := []) (st := []) c0_120 (rm_O2 l Z a0 hw h235 n0 _ a217 ha220 1 a223 d1 o1 rfl 0 a228 d2 o2 rfl P234) (P234.exa (i := 0) rfl) (t35 hw) (t36 hw) (fun _ q => notFace_of_selects (args := #[]) (mvT q (t38 hw))) (t38 hw) (t37 hw) (t2 hw) (t39 hw) (by decide) (lenOf pd6 rfl) rfl rfl (by decide) (by decide) (by decide) (by decide) rfl ?_
        rintro r243 h242 ⟨hr_r243, P241⟩
        refine go_more (k' := 4) (n' := 20) (by decide) (by decide) ?_
        refine go_pop c0_123 (XT.cat1 hr_r243) ?_
        refine go_iload c0_124 rfl ?_
        refine go_push c0_126 ?_
        refine go_icmp_lt c0_127 (fun _ => ?_) (fun q => absurd q (by decide))
        refine go_iload c0_136 rfl ?_
        refine go_push c0_138 ?_
        refine go_icmp_lt c0_139 (fun _ => ?_) (fun q => absurd q (by decide))
        refine go_aload c0_148 rfl rfl ?_
        refine go_callV1 (y := x) (W := 0) (argsL := []) (st := []) c0_150 (rm_E l Z a0 hw h242 n0 _ a217 _ 1 P241) (P241.exa (i := 0) rfl) (t28 hw) (t29 hw) (fun _ q => notFace_of_selects (args := #[]) (mvT q (t31 hw))) (t31 hw) (t30 hw) (t2 hw) (t32 hw) (by decide) (lenOf pd5 rfl) rfl rfl (by decide) (by decide) (by decide) (by decide) rfl ?_
        rintro _ _ ⟨rfl, rfl⟩
        refine go_more (k' := 4) (n' := 20) (by decide) (by decide) ?_
        refine go_isI 0 (by decide) ?_
        refine go_iload c0_153 rfl ?_
        refine go_iload c0_155 rfl ?_
        refine go_icmp_gt c0_157 (fun _ => ?_) (fun q => absurd q (by decide))
        refine go_push c0_164 ?_
        refine go_icmp_ne c0_165 (fun q => absurd q (by decide)) (fun _ => ?_)
        refine go_push c0_168 ?_
        refine go_goto c0_169 ?_
        refine go_istore c0_173 rfl rfl ?_
        dsimp only [setl]
        refine go_iload c0_175 rfl ?_
        refine go_if_eq c0_177 (fun q => absurd q (by decide)) (fun _ => ?_)
        refine go_iload c0_180 rfl ?_
        refine go_if_eq c0_182 (fun q => absurd q (by decide)) (fun _ => ?_)
        refine go_push c0_185 ?_
        refine go_goto c0_186 ?_
        exact go_bret rfl c0_190 (by decide) (by decide) (by decide) ⟨_, rfl, rfl⟩
    · refine go_isI 2 hk ?_
      refine go_istore c0_8 rfl rfl ?_
      dsimp only [setl]
      refine go_new (y := x) P0 [(("com/example/umbrella_state/umbrellastate/runtime/DelayedDeliveries", "heap", "[Lcom/example/umbrella_state/umbrellastate/runtime/Delivery;"), .null), (("com/example/umbrella_state/umbrellastate/runtime/DelayedDeliveries", "size", "I"), (.int 0))] c0_10 (t0 hw) (t1 hw) (t2 hw) (⟨⟨Or.inl (t12 hw), (.array (.object "com/example/umbrella_state/umbrellastate/runtime/Delivery")), by decide, rfl⟩, ⟨⟨Or.inl (t34 hw), .int, by decide, rfl⟩, trivial⟩⟩) (by decide) (by decide) (by decide) ?_
      intro h245 a247 P246
      refine go_more (k' := 1) (n' := 2) (by decide) (by decide) ?_
      refine go_dup c0_13 rfl ?_
      refine go_callN0 (y := x) (W := 1) (argsL := []) (st := [(.ref a247)]) c0_14 rfl rfl (rm_Q l Z a0 hw h245 n0 _ a247 P246) (t3 hw) (t4 hw) (t2 hw) (t5 hw) (by decide) (lenOf pd3 rfl) rfl rfl (by decide) (by decide) (by decide) (by decide) rfl ?_
      rintro h249 ⟨ha250, P248⟩
      refine go_more (k' := 2) (n' := 10) (by decide) (by decide) ?_
      refine go_astore c0_17 rfl rfl rfl ?_
      dsimp only [setl]
      refine go_new (y := x) P248 [(("com/example/umbrella_state/umbrellastate/runtime/Delivery", "handler", "Ljava/util/function/Consumer;"), .null), (("com/example/umbrella_state/umbrellastate/runtime/Delivery", "message", "Lcom/example/umbrella_state/umbrellastate/model/Message;"), .null), (("com/example/umbrella_state/umbrellastate/runtime/Delivery", "due", "J"), (.long 0)), (("com/example/umbrella_state/umbrellastate/runtime/Delivery", "order", "J"), (.long 0))] c0_19 (t13 hw) (t14 hw) (t15 hw) (⟨⟨Or.inl (t21 hw), (.object "java/util/function/Consumer"), by decide, rfl⟩, ⟨⟨Or.inl (t23 hw), (.object "com/example/umbrella_state/umbrellastate/model/Message"), by decide, rfl⟩, ⟨⟨Or.inr (t25 hw), .long, by decide, rfl⟩, ⟨⟨Or.inr (t27 hw), .long, by decide, rfl⟩, trivial⟩⟩⟩⟩) (by decide) (by decide) (by decide) ?_
      intro h251 a253 P252
      refine go_more (k' := 3) (n' := 15) (by decide) (by decide) ?_
      refine go_dup c0_22 rfl ?_
      refine go_null c0_23 ?_
      refine go_null c0_24 ?_
      refine go_lload c0_25 rfl ?_
      refine go_lload c0_26 rfl ?_
      refine go_callN0 (y := x) (W := 1) (argsL := [.null, .null, (.long d1), (.long o1)]) (st := [(.ref a253)]) c0_28 rfl rfl (rm_D l Z a0 hw h251 n0 _ a253 d1 o1 P252) (t16 hw) (t17 hw) (t15 hw) (t18 hw) (by decide) (lenOf pd4 rfl) rfl rfl (by decide) (by decide) (by decide) (by decide) rfl ?_
      intro h255 P254
      refine go_more (k' := 3) (n' := 15) (by decide) (by decide) ?_
      refine go_astore c0_31 rfl rfl rfl ?_
      dsimp only [setl]
      refine go_new (y := x) P254 [(("com/example/umbrella_state/umbrellastate/runtime/Delivery", "handler", "Ljava/util/function/Consumer;"), .null), (("com/example/umbrella_state/umbrellastate/runtime/Delivery", "message", "Lcom/example/umbrella_state/umbrellastate/model/Message;"), .null), (("com/example/umbrella_state/umbrellastate/runtime/Delivery", "due", "J"), (.long 0)), (("com/example/umbrella_state/umbrellastate/runtime/Delivery", "order", "J"), (.long 0))] c0_33 (t13 hw) (t14 hw) (t15 hw) (⟨⟨Or.inl (t21 hw), (.object "java/util/function/Consumer"), by decide, rfl⟩, ⟨⟨Or.inl (t23 hw), (.object "com/example/umbrella_state/umbrellastate/model/Message"), by decide, rfl⟩, ⟨⟨Or.inr (t25 hw), .long, by decide, rfl⟩, ⟨⟨Or.inr (t27 hw), .long, by decide, rfl⟩, trivial⟩⟩⟩⟩) (by decide) (by decide) (by decide) ?_
      intro h256 a258 P257
      refine go_more (k' := 4) (n' := 20) (by decide) (by decide) ?_
      refine go_dup c0_36 rfl ?_
      refine go_null c0_37 ?_
      refine go_null c0_38 ?_
      refine go_lload c0_39 rfl ?_
      refine go_lload c0_41 rfl ?_
      refine go_callN0 (y := x) (W := 1) (argsL := [.null, .null, (.long d2), (.long o2)]) (st := [(.ref a258)]) c0_43 rfl rfl (rm_D l Z a0 hw h256 n0 _ a258 d2 o2 P257) (t16 hw) (t17 hw) (t15 hw) (t18 hw) (by decide) (lenOf pd4 rfl) rfl rfl (by decide) (by decide) (by decide) (by decide) rfl ?_
      intro h260 P259
      refine go_more (k' := 4) (n' := 20) (by decide) (by decide) ?_
      have P261 : Hp Z n0 h260 ([(a247, (.inl ("com/example/umbrella_state/umbrellastate/runtime/DelayedDeliveries", [(("com/example/umbrella_state/umbrellastate/runtime/DelayedDeliveries", "heap", "[Lcom/example/umbrella_state/umbrellastate/runtime/Delivery;"), (.ref ha250)), (("com/example/umbrella_state/umbrellastate/runtime/DelayedDeliveries", "size", "I"), (.int 0))]))), (ha250, (.inr ((.object "com/example/umbrella_state/umbrellastate/runtime/Delivery"), "[Lcom/example/umbrella_state/umbrellastate/runtime/Delivery;", [.null, .null, .null, .null, .null, .null, .null, .null]))), (a258, (.inl ("com/example/umbrella_state/umbrellastate/runtime/Delivery", [(("com/example/umbrella_state/umbrellastate/runtime/Delivery", "handler", "Ljava/util/function/Consumer;"), .null), (("com/example/umbrella_state/umbrellastate/runtime/Delivery", "message", "Lcom/example/umbrella_state/umbrellastate/model/Message;"), .null), (("com/example/umbrella_state/umbrellastate/runtime/Delivery", "due", "J"), (.long d2)), (("com/example/umbrella_state/umbrellastate/runtime/Delivery", "order", "J"), (.long o2))]))), (a253, (.inl ("com/example/umbrella_state/umbrellastate/runtime/Delivery", [(("com/example/umbrella_state/umbrellastate/runtime/Delivery", "handler", "Ljava/util/function/Consumer;"), .null), (("com/example/umbrella_state/umbrellastate/runtime/Delivery", "message", "Lcom/example/umbrella_state/umbrellastate/model/Message;"), .null), (("com/example/umbrella_state/umbrellastate/runtime/Delivery", "due", "J"), (.long d1)), (("com/example/umbrella_state/umbrellastate/runtime/Delivery", "order", "J"), (.long o1))])))]) := ((P259.front 3).front 3)
      refine go_astore c0_46 rfl rfl rfl ?_
      dsimp only [setl]
      refine go_iload c0_48 rfl ?_
      refine go_push c0_50 ?_
      refine go_icmp_lt c0_51 (fun q => absurd q (by decide)) (fun _ => ?_)
      refine go_aload c0_54 rfl rfl ?_
      refine go_aload c0_56 rfl rfl ?_
      refine go_callV0 (y := x) (W := 0) (argsL := [(.ref a253)]) (st := []) c0_58 (rm_A0 l Z a0 hw h260 n0 _ a247 ha250 a253 1 d1 o1 rfl P261) (P261.exa (i := 0) rfl) (t40 hw) (t41 hw) (fun _ q => notFace_of_selects (args := #[]) (mvT q (t43 hw))) (t43 hw) (t42 hw) (t2 hw) (t44 hw) (by decide) (lenOf pd7 rfl) rfl rfl (by decide) (by decide) (by decide) (by decide) rfl ?_
      intro h263 P262
      refine go_more (k' := 4) (n' := 20) (by decide) (by decide) ?_
      refine go_iload c0_61 rfl ?_
      refine go_push c0_63 ?_
      refine go_icmp_lt c0_64 (fun q => absurd q (by decide)) (fun _ => ?_)
      refine go_aload c0_67 rfl rfl ?_
      refine go_aload c0_69 rfl rfl ?_
      refine go_callV0 (y := x) (W := 0) (argsL := [(.ref a258)]) (st := []) c0_71 (rm_A1 l Z a0 hw h263 n0 _ a247 ha250 a258 0 d2 o2 rfl 1 a253 d1 o1 rfl P262) (P262.exa (i := 0) rfl) (t40 hw) (t41 hw) (fun _ q => notFace_of_selects (args := #[]) (mvT q (t43 hw))) (t43 hw) (t42 hw) (t2 hw) (t44 hw) (by decide) (lenOf pd7 rfl) rfl rfl (by decide) (by decide) (by decide) (by decide) rfl ?_
      rintro h265 (⟨f266, P264⟩ | ⟨f266, P264⟩)
      · refine go_iload c0_74 rfl ?_
        refine go_push c0_76 ?_
        refine go_icmp_lt c0_77 (fun _ => ?_) (fun q => absurd q (by decide))
        refine go_aload c0_87 rfl rfl ?_
        refine go_callV1 (y := x) (W := 0) (argsL := []) (st := []) c0_89 (rm_E l Z a0 hw h265 n0 _ a247 _ 2 P264) (P264.exa (i := 0) rfl) (t28 hw) (t29 hw) (fun _ q => notFace_of_selects (args := #[]) (mvT q (t31 hw))) (t31 hw) (t30 hw) (t2 hw) (t32 hw) (by decide) (lenOf pd5 rfl) rfl rfl (by decide) (by decide) (by decide) (by decide) rfl ?_
        rintro _ _ ⟨rfl, rfl⟩
        refine go_more (k' := 4) (n' := 20) (by decide) (by decide) ?_
        refine go_isI 0 (by decide) ?_
        refine go_iload c0_92 rfl ?_
        refine go_if_ne c0_94 (fun _ => ?_) (fun q => absurd q (by decide))
        refine go_push c0_101 ?_
        refine go_icmp_ne c0_102 (fun q => absurd q (by decide)) (fun _ => ?_)
        refine go_push c0_105 ?_
        refine go_goto c0_106 ?_
        refine go_istore c0_110 rfl rfl ?_
        dsimp only [setl]
        refine go_iload c0_112 rfl ?_
        refine go_push c0_114 ?_
        refine go_icmp_lt c0_115 (fun q => absurd q (by decide)) (fun _ => ?_)
        refine go_aload c0_118 rfl rfl ?_
        refine go_callV1 (y := x) (W := 0) (argsL := []) (st := []) c0_120 (rm_O2 l Z a0 hw h265 n0 _ a247 ha250 0 a258 d2 o2 rfl 1 a253 d1 o1 rfl P264) (P264.exa (i := 0) rfl) (t35 hw) (t36 hw) (fun _ q => notFace_of_selects (args := #[]) (mvT q (t38 hw))) (t38 hw) (t37 hw) (t2 hw) (t39 hw) (by decide) (lenOf pd6 rfl) rfl rfl (by decide) (by decide) (by decide) (by decide) rfl ?_
        rintro r269 h268 ⟨hr_r269, P267⟩
        refine go_more (k' := 4) (n' := 20) (by decide) (by decide) ?_
        refine go_pop c0_123 (XT.cat1 hr_r269) ?_
        refine go_iload c0_124 rfl ?_
        refine go_push c0_126 ?_
        refine go_icmp_lt c0_127 (fun q => absurd q (by decide)) (fun _ => ?_)
        refine go_aload c0_130 rfl rfl ?_
        refine go_callV1 (y := x) (W := 0) (argsL := []) (st := []) c0_132 (rm_O1 l Z a0 hw h268 n0 _ a247 ha250 1 a253 d1 o1 rfl P267) (P267.exa (i := 0) rfl) (t35 hw) (t36 hw) (fun _ q => notFace_of_selects (args := #[]) (mvT q (t38 hw))) (t38 hw) (t37 hw) (t2 hw) (t39 hw) (by decide) (lenOf pd6 rfl) rfl rfl (by decide) (by decide) (by decide) (by decide) rfl ?_
        rintro r273 h272 ⟨hr_r273, P271⟩
        refine go_more (k' := 4) (n' := 20) (by decide) (by decide) ?_
        refine go_pop c0_135 (XT.cat1 hr_r273) ?_
        refine go_iload c0_136 rfl ?_
        refine go_push c0_138 ?_
        refine go_icmp_lt c0_139 (fun _ => ?_) (fun q => absurd q (by decide))
        refine go_aload c0_148 rfl rfl ?_
        refine go_callV1 (y := x) (W := 0) (argsL := []) (st := []) c0_150 (rm_E l Z a0 hw h272 n0 _ a247 _ 0 P271) (P271.exa (i := 0) rfl) (t28 hw) (t29 hw) (fun _ q => notFace_of_selects (args := #[]) (mvT q (t31 hw))) (t31 hw) (t30 hw) (t2 hw) (t32 hw) (by decide) (lenOf pd5 rfl) rfl rfl (by decide) (by decide) (by decide) (by decide) rfl ?_
        rintro _ _ ⟨rfl, rfl⟩
        refine go_more (k' := 4) (n' := 20) (by decide) (by decide) ?_
        refine go_isI 1 (by decide) ?_
        refine go_iload c0_153 rfl ?_
        refine go_iload c0_155 rfl ?_
        refine go_icmp_gt c0_157 (fun q => absurd q (by decide)) (fun _ => ?_)
        refine go_push c0_160 ?_
        refine go_goto c0_161 ?_
        refine go_icmp_ne c0_165 (fun q => absurd q (by decide)) (fun _ => ?_)
        refine go_push c0_168 ?_
        refine go_goto c0_169 ?_
        refine go_istore c0_173 rfl rfl ?_
        dsimp only [setl]
        refine go_iload c0_175 rfl ?_
        refine go_if_eq c0_177 (fun q => absurd q (by decide)) (fun _ => ?_)
        refine go_iload c0_180 rfl ?_
        refine go_if_eq c0_182 (fun q => absurd q (by decide)) (fun _ => ?_)
        refine go_push c0_185 ?_
        refine go_goto c0_186 ?_
        exact go_bret rfl c0_190 (by decide) (by decide) (by decide) ⟨_, rfl, rfl⟩
      · refine go_iload c0_74 rfl ?_
        refine go_push c0_76 ?_
        refine go_icmp_lt c0_77 (fun _ => ?_) (fun q => absurd q (by decide))
        refine go_aload c0_87 rfl rfl ?_
        refine go_callV1 (y := x) (W := 0) (argsL := []) (st := []) c0_89 (rm_E l Z a0 hw h265 n0 _ a247 _ 2 P264) (P264.exa (i := 0) rfl) (t28 hw) (t29 hw) (fun _ q => notFace_of_selects (args := #[]) (mvT q (t31 hw))) (t31 hw) (t30 hw) (t2 hw) (t32 hw) (by decide) (lenOf pd5 rfl) rfl rfl (by decide) (by decide) (by decide) (by decide) rfl ?_
        rintro _ _ ⟨rfl, rfl⟩
        refine go_more (k' := 4) (n' := 20) (by decide) (by decide) ?_
        refine go_isI 0 (by decide) ?_
        refine go_iload c0_92 rfl ?_
        refine go_if_ne c0_94 (fun _ => ?_) (fun q => absurd q (by decide))
        refine go_push c0_101 ?_
        refine go_icmp_ne c0_102 (fun q => absurd q (by decide)) (fun _ => ?_)
        refine go_push c0_105 ?_
        refine go_goto c0_106 ?_
        refine go_istore c0_110 rfl rfl ?_
        dsimp only [setl]
        refine go_iload c0_112 rfl ?_
        refine go_push c0_114 ?_
        refine go_icmp_lt c0_115 (fun q => absurd q (by decide)) (fun _ => ?_)
        refine go_aload c0_118 rfl rfl ?_
        refine go_callV1 (y := x) (W := 0) (argsL := []) (st := []) c0_120 (rm_O2 l Z a0 hw h265 n0 _ a247 ha250 1 a253 d1 o1 rfl 0 a258 d2 o2 rfl P264) (P264.exa (i := 0) rfl) (t35 hw) (t36 hw) (fun _ q => notFace_of_selects (args := #[]) (mvT q (t38 hw))) (t38 hw) (t37 hw) (t2 hw) (t39 hw) (by decide) (lenOf pd6 rfl) rfl rfl (by decide) (by decide) (by decide) (by decide) rfl ?_
        rintro r277 h276 ⟨hr_r277, P275⟩
        refine go_more (k' := 4) (n' := 20) (by decide) (by decide) ?_
        refine go_pop c0_123 (XT.cat1 hr_r277) ?_
        refine go_iload c0_124 rfl ?_
        refine go_push c0_126 ?_
        refine go_icmp_lt c0_127 (fun q => absurd q (by decide)) (fun _ => ?_)
        refine go_aload c0_130 rfl rfl ?_
        refine go_callV1 (y := x) (W := 0) (argsL := []) (st := []) c0_132 (rm_O1 l Z a0 hw h276 n0 _ a247 ha250 0 a258 d2 o2 rfl P275) (P275.exa (i := 0) rfl) (t35 hw) (t36 hw) (fun _ q => notFace_of_selects (args := #[]) (mvT q (t38 hw))) (t38 hw) (t37 hw) (t2 hw) (t39 hw) (by decide) (lenOf pd6 rfl) rfl rfl (by decide) (by decide) (by decide) (by decide) rfl ?_
        rintro r281 h280 ⟨hr_r281, P279⟩
        refine go_more (k' := 4) (n' := 20) (by decide) (by decide) ?_
        refine go_pop c0_135 (XT.cat1 hr_r281) ?_
        refine go_iload c0_136 rfl ?_
        refine go_push c0_138 ?_
        refine go_icmp_lt c0_139 (fun _ => ?_) (fun q => absurd q (by decide))
        refine go_aload c0_148 rfl rfl ?_
        refine go_callV1 (y := x) (W := 0) (argsL := []) (st := []) c0_150 (rm_E l Z a0 hw h280 n0 _ a247 _ 0 P279) (P279.exa (i := 0) rfl) (t28 hw) (t29 hw) (fun _ q => notFace_of_selects (args := #[]) (mvT q (t31 hw))) (t31 hw) (t30 hw) (t2 hw) (t32 hw) (by decide) (lenOf pd5 rfl) rfl rfl (by decide) (by decide) (by decide) (by decide) rfl ?_
        rintro _ _ ⟨rfl, rfl⟩
        refine go_more (k' := 4) (n' := 20) (by decide) (by decide) ?_
        refine go_isI 1 (by decide) ?_
        refine go_iload c0_153 rfl ?_
        refine go_iload c0_155 rfl ?_
        refine go_icmp_gt c0_157 (fun q => absurd q (by decide)) (fun _ => ?_)
        refine go_push c0_160 ?_
        refine go_goto c0_161 ?_
        refine go_icmp_ne c0_165 (fun q => absurd q (by decide)) (fun _ => ?_)
        refine go_push c0_168 ?_
        refine go_goto c0_169 ?_
        refine go_istore c0_173 rfl rfl ?_
        dsimp only [setl]
        refine go_iload c0_175 rfl ?_
        refine go_if_eq c0_177 (fun q => absurd q (by decide)) (fun _ => ?_)
        refine go_iload c0_180 rfl ?_
        refine go_if_eq c0_182 (fun q => absurd q (by decide)) (fun _ => ?_)
        refine go_push c0_185 ?_
        refine go_goto c0_186 ?_
        exact go_bret rfl c0_190 (by decide) (by decide) (by decide) ⟨_, rfl, rfl⟩
    · refine go_isI 3 hk ?_
      refine go_istore c0_8 rfl rfl ?_
      dsimp only [setl]
      refine go_new (y := x) P0 [(("com/example/umbrella_state/umbrellastate/runtime/DelayedDeliveries", "heap", "[Lcom/example/umbrella_state/umbrellastate/runtime/Delivery;"), .null), (("com/example/umbrella_state/umbrellastate/runtime/DelayedDeliveries", "size", "I"), (.int 0))] c0_10 (t0 hw) (t1 hw) (t2 hw) (⟨⟨Or.inl (t12 hw), (.array (.object "com/example/umbrella_state/umbrellastate/runtime/Delivery")), by decide, rfl⟩, ⟨⟨Or.inl (t34 hw), .int, by decide, rfl⟩, trivial⟩⟩) (by decide) (by decide) (by decide) ?_
      intro h283 a285 P284
      refine go_more (k' := 1) (n' := 2) (by decide) (by decide) ?_
      refine go_dup c0_13 rfl ?_
      refine go_callN0 (y := x) (W := 1) (argsL := []) (st := [(.ref a285)]) c0_14 rfl rfl (rm_Q l Z a0 hw h283 n0 _ a285 P284) (t3 hw) (t4 hw) (t2 hw) (t5 hw) (by decide) (lenOf pd3 rfl) rfl rfl (by decide) (by decide) (by decide) (by decide) rfl ?_
      rintro h287 ⟨ha288, P286⟩
      refine go_more (k' := 2) (n' := 10) (by decide) (by decide) ?_
      refine go_astore c0_17 rfl rfl rfl ?_
      dsimp only [setl]
      refine go_new (y := x) P286 [(("com/example/umbrella_state/umbrellastate/runtime/Delivery", "handler", "Ljava/util/function/Consumer;"), .null), (("com/example/umbrella_state/umbrellastate/runtime/Delivery", "message", "Lcom/example/umbrella_state/umbrellastate/model/Message;"), .null), (("com/example/umbrella_state/umbrellastate/runtime/Delivery", "due", "J"), (.long 0)), (("com/example/umbrella_state/umbrellastate/runtime/Delivery", "order", "J"), (.long 0))] c0_19 (t13 hw) (t14 hw) (t15 hw) (⟨⟨Or.inl (t21 hw), (.object "java/util/function/Consumer"), by decide, rfl⟩, ⟨⟨Or.inl (t23 hw), (.object "com/example/umbrella_state/umbrellastate/model/Message"), by decide, rfl⟩, ⟨⟨Or.inr (t25 hw), .long, by decide, rfl⟩, ⟨⟨Or.inr (t27 hw), .long, by decide, rfl⟩, trivial⟩⟩⟩⟩) (by decide) (by decide) (by decide) ?_
      intro h289 a291 P290
      refine go_more (k' := 3) (n' := 15) (by decide) (by decide) ?_
      refine go_dup c0_22 rfl ?_
      refine go_null c0_23 ?_
      refine go_null c0_24 ?_
      refine go_lload c0_25 rfl ?_
      refine go_lload c0_26 rfl ?_
      refine go_callN0 (y := x) (W := 1) (argsL := [.null, .null, (.long d1), (.long o1)]) (st := [(.ref a291)]) c0_28 rfl rfl (rm_D l Z a0 hw h289 n0 _ a291 d1 o1 P290) (t16 hw) (t17 hw) (t15 hw) (t18 hw) (by decide) (lenOf pd4 rfl) rfl rfl (by decide) (by decide) (by decide) (by decide) rfl ?_
      intro h293 P292
      refine go_more (k' := 3) (n' := 15) (by decide) (by decide) ?_
      refine go_astore c0_31 rfl rfl rfl ?_
      dsimp only [setl]
      refine go_new (y := x) P292 [(("com/example/umbrella_state/umbrellastate/runtime/Delivery", "handler", "Ljava/util/function/Consumer;"), .null), (("com/example/umbrella_state/umbrellastate/runtime/Delivery", "message", "Lcom/example/umbrella_state/umbrellastate/model/Message;"), .null), (("com/example/umbrella_state/umbrellastate/runtime/Delivery", "due", "J"), (.long 0)), (("com/example/umbrella_state/umbrellastate/runtime/Delivery", "order", "J"), (.long 0))] c0_33 (t13 hw) (t14 hw) (t15 hw) (⟨⟨Or.inl (t21 hw), (.object "java/util/function/Consumer"), by decide, rfl⟩, ⟨⟨Or.inl (t23 hw), (.object "com/example/umbrella_state/umbrellastate/model/Message"), by decide, rfl⟩, ⟨⟨Or.inr (t25 hw), .long, by decide, rfl⟩, ⟨⟨Or.inr (t27 hw), .long, by decide, rfl⟩, trivial⟩⟩⟩⟩) (by decide) (by decide) (by decide) ?_
      intro h294 a296 P295
      refine go_more (k' := 4) (n' := 20) (by decide) (by decide) ?_
      refine go_dup c0_36 rfl ?_
      refine go_null c0_37 ?_
      refine go_null c0_38 ?_
      refine go_lload c0_39 rfl ?_
      refine go_lload c0_41 rfl ?_
      refine go_callN0 (y := x) (W := 1) (argsL := [.null, .null, (.long d2), (.long o2)]) (st := [(.ref a296)]) c0_43 rfl rfl (rm_D l Z a0 hw h294 n0 _ a296 d2 o2 P295) (t16 hw) (t17 hw) (t15 hw) (t18 hw) (by decide) (lenOf pd4 rfl) rfl rfl (by decide) (by decide) (by decide) (by decide) rfl ?_
      intro h298 P297
      refine go_more (k' := 4) (n' := 20) (by decide) (by decide) ?_
      have P299 : Hp Z n0 h298 ([(a285, (.inl ("com/example/umbrella_state/umbrellastate/runtime/DelayedDeliveries", [(("com/example/umbrella_state/umbrellastate/runtime/DelayedDeliveries", "heap", "[Lcom/example/umbrella_state/umbrellastate/runtime/Delivery;"), (.ref ha288)), (("com/example/umbrella_state/umbrellastate/runtime/DelayedDeliveries", "size", "I"), (.int 0))]))), (ha288, (.inr ((.object "com/example/umbrella_state/umbrellastate/runtime/Delivery"), "[Lcom/example/umbrella_state/umbrellastate/runtime/Delivery;", [.null, .null, .null, .null, .null, .null, .null, .null]))), (a296, (.inl ("com/example/umbrella_state/umbrellastate/runtime/Delivery", [(("com/example/umbrella_state/umbrellastate/runtime/Delivery", "handler", "Ljava/util/function/Consumer;"), .null), (("com/example/umbrella_state/umbrellastate/runtime/Delivery", "message", "Lcom/example/umbrella_state/umbrellastate/model/Message;"), .null), (("com/example/umbrella_state/umbrellastate/runtime/Delivery", "due", "J"), (.long d2)), (("com/example/umbrella_state/umbrellastate/runtime/Delivery", "order", "J"), (.long o2))]))), (a291, (.inl ("com/example/umbrella_state/umbrellastate/runtime/Delivery", [(("com/example/umbrella_state/umbrellastate/runtime/Delivery", "handler", "Ljava/util/function/Consumer;"), .null), (("com/example/umbrella_state/umbrellastate/runtime/Delivery", "message", "Lcom/example/umbrella_state/umbrellastate/model/Message;"), .null), (("com/example/umbrella_state/umbrellastate/runtime/Delivery", "due", "J"), (.long d1)), (("com/example/umbrella_state/umbrellastate/runtime/Delivery", "order", "J"), (.long o1))])))]) := ((P297.front 3).front 3)
      refine go_astore c0_46 rfl rfl rfl ?_
      dsimp only [setl]
      refine go_iload c0_48 rfl ?_
      refine go_push c0_50 ?_
      refine go_icmp_lt c0_51 (fun q => absurd q (by decide)) (fun _ => ?_)
      refine go_aload c0_54 rfl rfl ?_
      refine go_aload c0_56 rfl rfl ?_
      refine go_callV0 (y := x) (W := 0) (argsL := [(.ref a291)]) (st := []) c0_58 (rm_A0 l Z a0 hw h298 n0 _ a285 ha288 a291 1 d1 o1 rfl P299) (P299.exa (i := 0) rfl) (t40 hw) (t41 hw) (fun _ q => notFace_of_selects (args := #[]) (mvT q (t43 hw))) (t43 hw) (t42 hw) (t2 hw) (t44 hw) (by decide) (lenOf pd7 rfl) rfl rfl (by decide) (by decide) (by decide) (by decide) rfl ?_
      intro h301 P300
      refine go_more (k' := 4) (n' := 20) (by decide) (by decide) ?_
      refine go_iload c0_61 rfl ?_
      refine go_push c0_63 ?_
      refine go_icmp_lt c0_64 (fun q => absurd q (by decide)) (fun _ => ?_)
      refine go_aload c0_67 rfl rfl ?_
      refine go_aload c0_69 rfl rfl ?_
      refine go_callV0 (y := x) (W := 0) (argsL := [(.ref a296)]) (st := []) c0_71 (rm_A1 l Z a0 hw h301 n0 _ a285 ha288 a296 0 d2 o2 rfl 1 a291 d1 o1 rfl P300) (P300.exa (i := 0) rfl) (t40 hw) (t41 hw) (fun _ q => notFace_of_selects (args := #[]) (mvT q (t43 hw))) (t43 hw) (t42 hw) (t2 hw) (t44 hw) (by decide) (lenOf pd7 rfl) rfl rfl (by decide) (by decide) (by decide) (by decide) rfl ?_
      rintro h303 (⟨f304, P302⟩ | ⟨f304, P302⟩)
      · refine go_iload c0_74 rfl ?_
        refine go_push c0_76 ?_
        refine go_icmp_lt c0_77 (fun _ => ?_) (fun q => absurd q (by decide))
        refine go_aload c0_87 rfl rfl ?_
        refine go_callV1 (y := x) (W := 0) (argsL := []) (st := []) c0_89 (rm_E l Z a0 hw h303 n0 _ a285 _ 2 P302) (P302.exa (i := 0) rfl) (t28 hw) (t29 hw) (fun _ q => notFace_of_selects (args := #[]) (mvT q (t31 hw))) (t31 hw) (t30 hw) (t2 hw) (t32 hw) (by decide) (lenOf pd5 rfl) rfl rfl (by decide) (by decide) (by decide) (by decide) rfl ?_
        rintro _ _ ⟨rfl, rfl⟩
        refine go_more (k' := 4) (n' := 20) (by decide) (by decide) ?_
        refine go_isI 0 (by decide) ?_
        refine go_iload c0_92 rfl ?_
        refine go_if_ne c0_94 (fun _ => ?_) (fun q => absurd q (by decide))
        refine go_push c0_101 ?_
        refine go_icmp_ne c0_102 (fun q => absurd q (by decide)) (fun _ => ?_)
        refine go_push c0_105 ?_
        refine go_goto c0_106 ?_
        refine go_istore c0_110 rfl rfl ?_
        dsimp only [setl]
        refine go_iload c0_112 rfl ?_
        refine go_push c0_114 ?_
        refine go_icmp_lt c0_115 (fun q => absurd q (by decide)) (fun _ => ?_)
        refine go_aload c0_118 rfl rfl ?_
        refine go_callV1 (y := x) (W := 0) (argsL := []) (st := []) c0_120 (rm_O2 l Z a0 hw h303 n0 _ a285 ha288 0 a296 d2 o2 rfl 1 a291 d1 o1 rfl P302) (P302.exa (i := 0) rfl) (t35 hw) (t36 hw) (fun _ q => notFace_of_selects (args := #[]) (mvT q (t38 hw))) (t38 hw) (t37 hw) (t2 hw) (t39 hw) (by decide) (lenOf pd6 rfl) rfl rfl (by decide) (by decide) (by decide) (by decide) rfl ?_
        rintro r307 h306 ⟨hr_r307, P305⟩
        refine go_more (k' := 4) (n' := 20) (by decide) (by decide) ?_
        refine go_pop c0_123 (XT.cat1 hr_r307) ?_
        refine go_iload c0_124 rfl ?_
        refine go_push c0_126 ?_
        refine go_icmp_lt c0_127 (fun q => absurd q (by decide)) (fun _ => ?_)
        refine go_aload c0_130 rfl rfl ?_
        refine go_callV1 (y := x) (W := 0) (argsL := []) (st := []) c0_132 (rm_O1 l Z a0 hw h306 n0 _ a285 ha288 1 a291 d1 o1 rfl P305) (P305.exa (i := 0) rfl) (t35 hw) (t36 hw) (fun _ q => notFace_of_selects (args := #[]) (mvT q (t38 hw))) (t38 hw) (t37 hw) (t2 hw) (t39 hw) (by decide) (lenOf pd6 rfl) rfl rfl (by decide) (by decide) (by decide) (by decide) rfl ?_
        rintro r311 h310 ⟨hr_r311, P309⟩
        refine go_more (k' := 4) (n' := 20) (by decide) (by decide) ?_
        refine go_pop c0_135 (XT.cat1 hr_r311) ?_
        refine go_iload c0_136 rfl ?_
        refine go_push c0_138 ?_
        refine go_icmp_lt c0_139 (fun q => absurd q (by decide)) (fun _ => ?_)
        refine go_aload c0_142 rfl rfl ?_
        refine go_callV1 (y := x) (W := 0) (argsL := []) (st := []) c0_144 (rm_O0 l Z a0 hw h310 n0 _ a285 ha288 P309) (P309.exa (i := 0) rfl) (t35 hw) (t36 hw) (fun _ q => notFace_of_selects (args := #[]) (mvT q (t38 hw))) (t38 hw) (t37 hw) (t2 hw) (t39 hw) (by decide) (lenOf pd6 rfl) rfl rfl (by decide) (by decide) (by decide) (by decide) rfl ?_
        rintro r315 h314 ⟨hr_r315, P313⟩
        refine go_more (k' := 4) (n' := 20) (by decide) (by decide) ?_
        refine go_pop c0_147 (XT.cat1 hr_r315) ?_
        refine go_aload c0_148 rfl rfl ?_
        refine go_callV1 (y := x) (W := 0) (argsL := []) (st := []) c0_150 (rm_E l Z a0 hw h314 n0 _ a285 _ 0 P313) (P313.exa (i := 0) rfl) (t28 hw) (t29 hw) (fun _ q => notFace_of_selects (args := #[]) (mvT q (t31 hw))) (t31 hw) (t30 hw) (t2 hw) (t32 hw) (by decide) (lenOf pd5 rfl) rfl rfl (by decide) (by decide) (by decide) (by decide) rfl ?_
        rintro _ _ ⟨rfl, rfl⟩
        refine go_more (k' := 4) (n' := 20) (by decide) (by decide) ?_
        refine go_isI 1 (by decide) ?_
        refine go_iload c0_153 rfl ?_
        refine go_iload c0_155 rfl ?_
        refine go_icmp_gt c0_157 (fun q => absurd q (by decide)) (fun _ => ?_)
        refine go_push c0_160 ?_
        refine go_goto c0_161 ?_
        refine go_icmp_ne c0_165 (fun q => absurd q (by decide)) (fun _ => ?_)
        refine go_push c0_168 ?_
        refine go_goto c0_169 ?_
        refine go_istore c0_173 rfl rfl ?_
        dsimp only [setl]
        refine go_iload c0_175 rfl ?_
        refine go_if_eq c0_177 (fun q => absurd q (by decide)) (fun _ => ?_)
        refine go_iload c0_180 rfl ?_
        refine go_if_eq c0_182 (fun q => absurd q (by decide)) (fun _ => ?_)
        refine go_push c0_185 ?_
        refine go_goto c0_186 ?_
        exact go_bret rfl c0_190 (by decide) (by decide) (by decide) ⟨_, rfl, rfl⟩
      · refine go_iload c0_74 rfl ?_
        refine go_push c0_76 ?_
        refine go_icmp_lt c0_77 (fun _ => ?_) (fun q => absurd q (by decide))
        refine go_aload c0_87 rfl rfl ?_
        refine go_callV1 (y := x) (W := 0) (argsL := []) (st := []) c0_89 (rm_E l Z a0 hw h303 n0 _ a285 _ 2 P302) (P302.exa (i := 0) rfl) (t28 hw) (t29 hw) (fun _ q => notFace_of_selects (args := #[]) (mvT q (t31 hw))) (t31 hw) (t30 hw) (t2 hw) (t32 hw) (by decide) (lenOf pd5 rfl) rfl rfl (by decide) (by decide) (by decide) (by decide) rfl ?_
        rintro _ _ ⟨rfl, rfl⟩
        refine go_more (k' := 4) (n' := 20) (by decide) (by decide) ?_
        refine go_isI 0 (by decide) ?_
        refine go_iload c0_92 rfl ?_
        refine go_if_ne c0_94 (fun _ => ?_) (fun q => absurd q (by decide))
        refine go_push c0_101 ?_
        refine go_icmp_ne c0_102 (fun q => absurd q (by decide)) (fun _ => ?_)
        refine go_push c0_105 ?_
        refine go_goto c0_106 ?_
        refine go_istore c0_110 rfl rfl ?_
        dsimp only [setl]
        refine go_iload c0_112 rfl ?_
        refine go_push c0_114 ?_
        refine go_icmp_lt c0_115 (fun q => absurd q (by decide)) (fun _ => ?_)
        refine go_aload c0_118 rfl rfl ?_
        refine go_callV1 (y := x) (W := 0) (argsL := []) (st := []) c0_120 (rm_O2 l Z a0 hw h303 n0 _ a285 ha288 1 a291 d1 o1 rfl 0 a296 d2 o2 rfl P302) (P302.exa (i := 0) rfl) (t35 hw) (t36 hw) (fun _ q => notFace_of_selects (args := #[]) (mvT q (t38 hw))) (t38 hw) (t37 hw) (t2 hw) (t39 hw) (by decide) (lenOf pd6 rfl) rfl rfl (by decide) (by decide) (by decide) (by decide) rfl ?_
        rintro r319 h318 ⟨hr_r319, P317⟩
        refine go_more (k' := 4) (n' := 20) (by decide) (by decide) ?_
        refine go_pop c0_123 (XT.cat1 hr_r319) ?_
        refine go_iload c0_124 rfl ?_
        refine go_push c0_126 ?_
        refine go_icmp_lt c0_127 (fun q => absurd q (by decide)) (fun _ => ?_)
        refine go_aload c0_130 rfl rfl ?_
        refine go_callV1 (y := x) (W := 0) (argsL := []) (st := []) c0_132 (rm_O1 l Z a0 hw h318 n0 _ a285 ha288 0 a296 d2 o2 rfl P317) (P317.exa (i := 0) rfl) (t35 hw) (t36 hw) (fun _ q => notFace_of_selects (args := #[]) (mvT q (t38 hw))) (t38 hw) (t37 hw) (t2 hw) (t39 hw) (by decide) (lenOf pd6 rfl) rfl rfl (by decide) (by decide) (by decide) (by decide) rfl ?_
        rintro r323 h322 ⟨hr_r323, P321⟩
        refine go_more (k' := 4) (n' := 20) (by decide) (by decide) ?_
        refine go_pop c0_135 (XT.cat1 hr_r323) ?_
        refine go_iload c0_136 rfl ?_
        refine go_push c0_138 ?_
        refine go_icmp_lt c0_139 (fun q => absurd q (by decide)) (fun _ => ?_)
        refine go_aload c0_142 rfl rfl ?_
        refine go_callV1 (y := x) (W := 0) (argsL := []) (st := []) c0_144 (rm_O0 l Z a0 hw h322 n0 _ a285 ha288 P321) (P321.exa (i := 0) rfl) (t35 hw) (t36 hw) (fun _ q => notFace_of_selects (args := #[]) (mvT q (t38 hw))) (t38 hw) (t37 hw) (t2 hw) (t39 hw) (by decide) (lenOf pd6 rfl) rfl rfl (by decide) (by decide) (by decide) (by decide) rfl ?_
        rintro r327 h326 ⟨hr_r327, P325⟩
        refine go_more (k' := 4) (n' := 20) (by decide) (by decide) ?_
        refine go_pop c0_147 (XT.cat1 hr_r327) ?_
        refine go_aload c0_148 rfl rfl ?_
        refine go_callV1 (y := x) (W := 0) (argsL := []) (st := []) c0_150 (rm_E l Z a0 hw h326 n0 _ a285 _ 0 P325) (P325.exa (i := 0) rfl) (t28 hw) (t29 hw) (fun _ q => notFace_of_selects (args := #[]) (mvT q (t31 hw))) (t31 hw) (t30 hw) (t2 hw) (t32 hw) (by decide) (lenOf pd5 rfl) rfl rfl (by decide) (by decide) (by decide) (by decide) rfl ?_
        rintro _ _ ⟨rfl, rfl⟩
        refine go_more (k' := 4) (n' := 20) (by decide) (by decide) ?_
        refine go_isI 1 (by decide) ?_
        refine go_iload c0_153 rfl ?_
        refine go_iload c0_155 rfl ?_
        refine go_icmp_gt c0_157 (fun q => absurd q (by decide)) (fun _ => ?_)
        refine go_push c0_160 ?_
        refine go_goto c0_161 ?_
        refine go_icmp_ne c0_165 (fun q => absurd q (by decide)) (fun _ => ?_)
        refine go_push c0_168 ?_
        refine go_goto c0_169 ?_
        refine go_istore c0_173 rfl rfl ?_
        dsimp only [setl]
        refine go_iload c0_175 rfl ?_
        refine go_if_eq c0_177 (fun q => absurd q (by decide)) (fun _ => ?_)
        refine go_iload c0_180 rfl ?_
        refine go_if_eq c0_182 (fun q => absurd q (by decide)) (fun _ => ?_)
        refine go_push c0_185 ?_
        refine go_goto c0_186 ?_
        exact go_bret rfl c0_190 (by decide) (by decide) (by decide) ⟨_, rfl, rfl⟩
  · refine go_isI 3 hn ?_
    refine go_istore c0_3 rfl rfl ?_
    dsimp only [setl]
    refine go_iload c0_5 rfl ?_
    refine go_push c0_6 ?_
    refine go_iand c0_7 ?_
    rcases own_n4 b with hk | hk | hk | hk
    · refine go_isI 0 hk ?_
      refine go_istore c0_8 rfl rfl ?_
      dsimp only [setl]
      refine go_new (y := x) P0 [(("com/example/umbrella_state/umbrellastate/runtime/DelayedDeliveries", "heap", "[Lcom/example/umbrella_state/umbrellastate/runtime/Delivery;"), .null), (("com/example/umbrella_state/umbrellastate/runtime/DelayedDeliveries", "size", "I"), (.int 0))] c0_10 (t0 hw) (t1 hw) (t2 hw) (⟨⟨Or.inl (t12 hw), (.array (.object "com/example/umbrella_state/umbrellastate/runtime/Delivery")), by decide, rfl⟩, ⟨⟨Or.inl (t34 hw), .int, by decide, rfl⟩, trivial⟩⟩) (by decide) (by decide) (by decide) ?_
      intro h329 a331 P330
      refine go_more (k' := 1) (n' := 2) (by decide) (by decide) ?_
      refine go_dup c0_13 rfl ?_
      refine go_callN0 (y := x) (W := 1) (argsL := []) (st := [(.ref a331)]) c0_14 rfl rfl (rm_Q l Z a0 hw h329 n0 _ a331 P330) (t3 hw) (t4 hw) (t2 hw) (t5 hw) (by decide) (lenOf pd3 rfl) rfl rfl (by decide) (by decide) (by decide) (by decide) rfl ?_
      rintro h333 ⟨ha334, P332⟩
      refine go_more (k' := 2) (n' := 10) (by decide) (by decide) ?_
      refine go_astore c0_17 rfl rfl rfl ?_
      dsimp only [setl]
      refine go_new (y := x) P332 [(("com/example/umbrella_state/umbrellastate/runtime/Delivery", "handler", "Ljava/util/function/Consumer;"), .null), (("com/example/umbrella_state/umbrellastate/runtime/Delivery", "message", "Lcom/example/umbrella_state/umbrellastate/model/Message;"), .null), (("com/example/umbrella_state/umbrellastate/runtime/Delivery", "due", "J"), (.long 0)), (("com/example/umbrella_state/umbrellastate/runtime/Delivery", "order", "J"), (.long 0))] c0_19 (t13 hw) (t14 hw) (t15 hw) (⟨⟨Or.inl (t21 hw), (.object "java/util/function/Consumer"), by decide, rfl⟩, ⟨⟨Or.inl (t23 hw), (.object "com/example/umbrella_state/umbrellastate/model/Message"), by decide, rfl⟩, ⟨⟨Or.inr (t25 hw), .long, by decide, rfl⟩, ⟨⟨Or.inr (t27 hw), .long, by decide, rfl⟩, trivial⟩⟩⟩⟩) (by decide) (by decide) (by decide) ?_
      intro h335 a337 P336
      refine go_more (k' := 3) (n' := 15) (by decide) (by decide) ?_
      refine go_dup c0_22 rfl ?_
      refine go_null c0_23 ?_
      refine go_null c0_24 ?_
      refine go_lload c0_25 rfl ?_
      refine go_lload c0_26 rfl ?_
      refine go_callN0 (y := x) (W := 1) (argsL := [.null, .null, (.long d1), (.long o1)]) (st := [(.ref a337)]) c0_28 rfl rfl (rm_D l Z a0 hw h335 n0 _ a337 d1 o1 P336) (t16 hw) (t17 hw) (t15 hw) (t18 hw) (by decide) (lenOf pd4 rfl) rfl rfl (by decide) (by decide) (by decide) (by decide) rfl ?_
      intro h339 P338
      refine go_more (k' := 3) (n' := 15) (by decide) (by decide) ?_
      refine go_astore c0_31 rfl rfl rfl ?_
      dsimp only [setl]
      refine go_new (y := x) P338 [(("com/example/umbrella_state/umbrellastate/runtime/Delivery", "handler", "Ljava/util/function/Consumer;"), .null), (("com/example/umbrella_state/umbrellastate/runtime/Delivery", "message", "Lcom/example/umbrella_state/umbrellastate/model/Message;"), .null), (("com/example/umbrella_state/umbrellastate/runtime/Delivery", "due", "J"), (.long 0)), (("com/example/umbrella_state/umbrellastate/runtime/Delivery", "order", "J"), (.long 0))] c0_33 (t13 hw) (t14 hw) (t15 hw) (⟨⟨Or.inl (t21 hw), (.object "java/util/function/Consumer"), by decide, rfl⟩, ⟨⟨Or.inl (t23 hw), (.object "com/example/umbrella_state/umbrellastate/model/Message"), by decide, rfl⟩, ⟨⟨Or.inr (t25 hw), .long, by decide, rfl⟩, ⟨⟨Or.inr (t27 hw), .long, by decide, rfl⟩, trivial⟩⟩⟩⟩) (by decide) (by decide) (by decide) ?_
      intro h340 a342 P341
      refine go_more (k' := 4) (n' := 20) (by decide) (by decide) ?_
      refine go_dup c0_36 rfl ?_
      refine go_null c0_37 ?_
      refine go_null c0_38 ?_
      refine go_lload c0_39 rfl ?_
      refine go_lload c0_41 rfl ?_
      refine go_callN0 (y := x) (W := 1) (argsL := [.null, .null, (.long d2), (.long o2)]) (st := [(.ref a342)]) c0_43 rfl rfl (rm_D l Z a0 hw h340 n0 _ a342 d2 o2 P341) (t16 hw) (t17 hw) (t15 hw) (t18 hw) (by decide) (lenOf pd4 rfl) rfl rfl (by decide) (by decide) (by decide) (by decide) rfl ?_
      intro h344 P343
      refine go_more (k' := 4) (n' := 20) (by decide) (by decide) ?_
      have P345 : Hp Z n0 h344 ([(a331, (.inl ("com/example/umbrella_state/umbrellastate/runtime/DelayedDeliveries", [(("com/example/umbrella_state/umbrellastate/runtime/DelayedDeliveries", "heap", "[Lcom/example/umbrella_state/umbrellastate/runtime/Delivery;"), (.ref ha334)), (("com/example/umbrella_state/umbrellastate/runtime/DelayedDeliveries", "size", "I"), (.int 0))]))), (ha334, (.inr ((.object "com/example/umbrella_state/umbrellastate/runtime/Delivery"), "[Lcom/example/umbrella_state/umbrellastate/runtime/Delivery;", [.null, .null, .null, .null, .null, .null, .null, .null]))), (a342, (.inl ("com/example/umbrella_state/umbrellastate/runtime/Delivery", [(("com/example/umbrella_state/umbrellastate/runtime/Delivery", "handler", "Ljava/util/function/Consumer;"), .null), (("com/example/umbrella_state/umbrellastate/runtime/Delivery", "message", "Lcom/example/umbrella_state/umbrellastate/model/Message;"), .null), (("com/example/umbrella_state/umbrellastate/runtime/Delivery", "due", "J"), (.long d2)), (("com/example/umbrella_state/umbrellastate/runtime/Delivery", "order", "J"), (.long o2))]))), (a337, (.inl ("com/example/umbrella_state/umbrellastate/runtime/Delivery", [(("com/example/umbrella_state/umbrellastate/runtime/Delivery", "handler", "Ljava/util/function/Consumer;"), .null), (("com/example/umbrella_state/umbrellastate/runtime/Delivery", "message", "Lcom/example/umbrella_state/umbrellastate/model/Message;"), .null), (("com/example/umbrella_state/umbrellastate/runtime/Delivery", "due", "J"), (.long d1)), (("com/example/umbrella_state/umbrellastate/runtime/Delivery", "order", "J"), (.long o1))])))]) := ((P343.front 3).front 3)
      refine go_astore c0_46 rfl rfl rfl ?_
      dsimp only [setl]
      refine go_iload c0_48 rfl ?_
      refine go_push c0_50 ?_
      refine go_icmp_lt c0_51 (fun q => absurd q (by decide)) (fun _ => ?_)
      refine go_aload c0_54 rfl rfl ?_
      refine go_aload c0_56 rfl rfl ?_
      refine go_callV0 (y := x) (W := 0) (argsL := [(.ref a337)]) (st := []) c0_58 (rm_A0 l Z a0 hw h344 n0 _ a331 ha334 a337 1 d1 o1 rfl P345) (P345.exa (i := 0) rfl) (t40 hw) (t41 hw) (fun _ q => notFace_of_selects (args := #[]) (mvT q (t43 hw))) (t43 hw) (t42 hw) (t2 hw) (t44 hw) (by decide) (lenOf pd7 rfl) rfl rfl (by decide) (by decide) (by decide) (by decide) rfl ?_
      intro h347 P346
      refine go_more (k' := 4) (n' := 20) (by decide) (by decide) ?_
      refine go_iload c0_61 rfl ?_
      refine go_push c0_63 ?_
      refine go_icmp_lt c0_64 (fun q => absurd q (by decide)) (fun _ => ?_)
      refine go_aload c0_67 rfl rfl ?_
      refine go_aload c0_69 rfl rfl ?_
      refine go_callV0 (y := x) (W := 0) (argsL := [(.ref a342)]) (st := []) c0_71 (rm_A1 l Z a0 hw h347 n0 _ a331 ha334 a342 0 d2 o2 rfl 1 a337 d1 o1 rfl P346) (P346.exa (i := 0) rfl) (t40 hw) (t41 hw) (fun _ q => notFace_of_selects (args := #[]) (mvT q (t43 hw))) (t43 hw) (t42 hw) (t2 hw) (t44 hw) (by decide) (lenOf pd7 rfl) rfl rfl (by decide) (by decide) (by decide) (by decide) rfl ?_
      rintro h349 (⟨f350, P348⟩ | ⟨f350, P348⟩)
      · refine go_iload c0_74 rfl ?_
        refine go_push c0_76 ?_
        refine go_icmp_lt c0_77 (fun q => absurd q (by decide)) (fun _ => ?_)
        refine go_aload c0_80 rfl rfl ?_
        refine go_aload c0_82 rfl rfl ?_
        refine go_callV0 (y := x) (W := 0) (argsL := [(.ref a337)]) (st := []) c0_84 (rm_A2 l Z a0 hw h349 n0 _ a331 ha334 a337 1 d1 o1 rfl 0 a342 d2 o2 rfl a337 P348) (P348.exa (i := 0) rfl) (t40 hw) (t41 hw) (fun _ q => notFace_of_selects (args := #[]) (mvT q (t43 hw))) (t43 hw) (t42 hw) (t2 hw) (t44 hw) (by decide) (lenOf pd7 rfl) rfl rfl (by decide) (by decide) (by decide) (by decide) rfl ?_
        rintro h352 (⟨f353, P351⟩ | ⟨f353, P351⟩)
        · refine go_aload c0_87 rfl rfl ?_
          refine go_callV1 (y := x) (W := 0) (argsL := []) (st := []) c0_89 (rm_E l Z a0 hw h352 n0 _ a331 _ 3 P351) (P351.exa (i := 0) rfl) (t28 hw) (t29 hw) (fun _ q => notFace_of_selects (args := #[]) (mvT q (t31 hw))) (t31 hw) (t30 hw) (t2 hw) (t32 hw) (by decide) (lenOf pd5 rfl) rfl rfl (by decide) (by decide) (by decide) (by decide) rfl ?_
          rintro _ _ ⟨rfl, rfl⟩
          refine go_more (k' := 4) (n' := 20) (by decide) (by decide) ?_
          refine go_isI 0 (by decide) ?_
          refine go_iload c0_92 rfl ?_
          refine go_if_ne c0_94 (fun _ => ?_) (fun q => absurd q (by decide))
          refine go_push c0_101 ?_
          refine go_icmp_ne c0_102 (fun q => absurd q (by decide)) (fun _ => ?_)
          refine go_push c0_105 ?_
          refine go_goto c0_106 ?_
          refine go_istore c0_110 rfl rfl ?_
          dsimp only [setl]
          refine go_iload c0_112 rfl ?_
          refine go_push c0_114 ?_
          refine go_icmp_lt c0_115 (fun _ => ?_) (fun q => absurd q (by decide))
          refine go_iload c0_124 rfl ?_
          refine go_push c0_126 ?_
          refine go_icmp_lt c0_127 (fun _ => ?_) (fun q => absurd q (by decide))
          refine go_iload c0_136 rfl ?_
          refine go_push c0_138 ?_
          refine go_icmp_lt c0_139 (fun _ => ?_) (fun q => absurd q (by decide))
          refine go_aload c0_148 rfl rfl ?_
          refine go_callV1 (y := x) (W := 0) (argsL := []) (st := []) c0_150 (rm_E l Z a0 hw h352 n0 _ a331 _ 3 P351) (P351.exa (i := 0) rfl) (t28 hw) (t29 hw) (fun _ q => notFace_of_selects (args := #[]) (mvT q (t31 hw))) (t31 hw) (t30 hw) (t2 hw) (t32 hw) (by decide) (lenOf pd5 rfl) rfl rfl (by decide) (by decide) (by decide) (by decide) rfl ?_
          rintro _ _ ⟨rfl, rfl⟩
          refine go_more (k' := 4) (n' := 20) (by decide) (by decide) ?_
          refine go_isI 0 (by decide) ?_
          refine go_iload c0_153 rfl ?_
          refine go_iload c0_155 rfl ?_
          refine go_icmp_gt c0_157 (fun _ => ?_) (fun q => absurd q (by decide))
          refine go_push c0_164 ?_
          refine go_icmp_ne c0_165 (fun q => absurd q (by decide)) (fun _ => ?_)
          refine go_push c0_168 ?_
          refine go_goto c0_169 ?_
          refine go_istore c0_173 rfl rfl ?_
          dsimp only [setl]
          refine go_iload c0_175 rfl ?_
          refine go_if_eq c0_177 (fun q => absurd q (by decide)) (fun _ => ?_)
          refine go_iload c0_180 rfl ?_
          refine go_if_eq c0_182 (fun q => absurd q (by decide)) (fun _ => ?_)
          refine go_push c0_185 ?_
          refine go_goto c0_186 ?_
          exact go_bret rfl c0_190 (by decide) (by decide) (by decide) ⟨_, rfl, rfl⟩
        · refine go_aload c0_87 rfl rfl ?_
          refine go_callV1 (y := x) (W := 0) (argsL := []) (st := []) c0_89 (rm_E l Z a0 hw h352 n0 _ a331 _ 3 P351) (P351.exa (i := 0) rfl) (t28 hw) (t29 hw) (fun _ q => notFace_of_selects (args := #[]) (mvT q (t31 hw))) (t31 hw) (t30 hw) (t2 hw) (t32 hw) (by decide) (lenOf pd5 rfl) rfl rfl (by decide) (by decide) (by decide) (by decide) rfl ?_
          rintro _ _ ⟨rfl, rfl⟩
          refine go_more (k' := 4) (n' := 20) (by decide) (by decide) ?_
          refine go_isI 0 (by decide) ?_
          refine go_iload c0_92 rfl ?_
          refine go_if_ne c0_94 (fun _ => ?_) (fun q => absurd q (by decide))
          refine go_push c0_101 ?_
          refine go_icmp_ne c0_102 (fun q => absurd q (by decide)) (fun _ => ?_)
          refine go_push c0_105 ?_
          refine go_goto c0_106 ?_
          refine go_istore c0_110 rfl rfl ?_
          dsimp only [setl]
          refine go_iload c0_112 rfl ?_
          refine go_push c0_114 ?_
          refine go_icmp_lt c0_115 (fun _ => ?_) (fun q => absurd q (by decide))
          refine go_iload c0_124 rfl ?_
          refine go_push c0_126 ?_
          refine go_icmp_lt c0_127 (fun _ => ?_) (fun q => absurd q (by decide))
          refine go_iload c0_136 rfl ?_
          refine go_push c0_138 ?_
          refine go_icmp_lt c0_139 (fun _ => ?_) (fun q => absurd q (by decide))
          refine go_aload c0_148 rfl rfl ?_
          refine go_callV1 (y := x) (W := 0) (argsL := []) (st := []) c0_150 (rm_E l Z a0 hw h352 n0 _ a331 _ 3 P351) (P351.exa (i := 0) rfl) (t28 hw) (t29 hw) (fun _ q => notFace_of_selects (args := #[]) (mvT q (t31 hw))) (t31 hw) (t30 hw) (t2 hw) (t32 hw) (by decide) (lenOf pd5 rfl) rfl rfl (by decide) (by decide) (by decide) (by decide) rfl ?_
          rintro _ _ ⟨rfl, rfl⟩
          refine go_more (k' := 4) (n' := 20) (by decide) (by decide) ?_
          refine go_isI 0 (by decide) ?_
          refine go_iload c0_153 rfl ?_
          refine go_iload c0_155 rfl ?_
          refine go_icmp_gt c0_157 (fun _ => ?_) (fun q => absurd q (by decide))
          refine go_push c0_164 ?_
          refine go_icmp_ne c0_165 (fun q => absurd q (by decide)) (fun _ => ?_)
          refine go_push c0_168 ?_
          refine go_goto c0_169 ?_
          refine go_istore c0_173 rfl rfl ?_
          dsimp only [setl]
          refine go_iload c0_175 rfl ?_
          refine go_if_eq c0_177 (fun q => absurd q (by decide)) (fun _ => ?_)
          refine go_iload c0_180 rfl ?_
          refine go_if_eq c0_182 (fun q => absurd q (by decide)) (fun _ => ?_)
          refine go_push c0_185 ?_
          refine go_goto c0_186 ?_
          exact go_bret rfl c0_190 (by decide) (by decide) (by decide) ⟨_, rfl, rfl⟩
      · refine go_iload c0_74 rfl ?_
        refine go_push c0_76 ?_
        refine go_icmp_lt c0_77 (fun q => absurd q (by decide)) (fun _ => ?_)
        refine go_aload c0_80 rfl rfl ?_
        refine go_aload c0_82 rfl rfl ?_
        refine go_callV0 (y := x) (W := 0) (argsL := [(.ref a337)]) (st := []) c0_84 (rm_A2 l Z a0 hw h349 n0 _ a331 ha334 a337 1 d1 o1 rfl 1 a337 d1 o1 rfl a342 P348) (P348.exa (i := 0) rfl) (t40 hw) (t41 hw) (fun _ q => notFace_of_selects (args := #[]) (mvT q (t43 hw))) (t43 hw) (t42 hw) (t2 hw) (t44 hw) (by decide) (lenOf pd7 rfl) rfl rfl (by decide) (by decide) (by decide) (by decide) rfl ?_
        rintro h355 (⟨f356, P354⟩ | ⟨f356, P354⟩)
        · refine go_aload c0_87 rfl rfl ?_
          refine go_callV1 (y := x) (W := 0) (argsL := []) (st := []) c0_89 (rm_E l Z a0 hw h355 n0 _ a331 _ 3 P354) (P354.exa (i := 0) rfl) (t28 hw) (t29 hw) (fun _ q => notFace_of_selects (args := #[]) (mvT q (t31 hw))) (t31 hw) (t30 hw) (t2 hw) (t32 hw) (by decide) (lenOf pd5 rfl) rfl rfl (by decide) (by decide) (by decide) (by decide) rfl ?_
          rintro _ _ ⟨rfl, rfl⟩
          refine go_more (k' := 4) (n' := 20) (by decide) (by decide) ?_
          refine go_isI 0 (by decide) ?_
          refine go_iload c0_92 rfl ?_
          refine go_if_ne c0_94 (fun _ => ?_) (fun q => absurd q (by decide))
          refine go_push c0_101 ?_
          refine go_icmp_ne c0_102 (fun q => absurd q (by decide)) (fun _ => ?_)
          refine go_push c0_105 ?_
          refine go_goto c0_106 ?_
          refine go_istore c0_110 rfl rfl ?_
          dsimp only [setl]
          refine go_iload c0_112 rfl ?_
          refine go_push c0_114 ?_
          refine go_icmp_lt c0_115 (fun _ => ?_) (fun q => absurd q (by decide))
          refine go_iload c0_124 rfl ?_
          refine go_push c0_126 ?_
          refine go_icmp_lt c0_127 (fun _ => ?_) (fun q => absurd q (by decide))
          refine go_iload c0_136 rfl ?_
          refine go_push c0_138 ?_
          refine go_icmp_lt c0_139 (fun _ => ?_) (fun q => absurd q (by decide))
          refine go_aload c0_148 rfl rfl ?_
          refine go_callV1 (y := x) (W := 0) (argsL := []) (st := []) c0_150 (rm_E l Z a0 hw h355 n0 _ a331 _ 3 P354) (P354.exa (i := 0) rfl) (t28 hw) (t29 hw) (fun _ q => notFace_of_selects (args := #[]) (mvT q (t31 hw))) (t31 hw) (t30 hw) (t2 hw) (t32 hw) (by decide) (lenOf pd5 rfl) rfl rfl (by decide) (by decide) (by decide) (by decide) rfl ?_
          rintro _ _ ⟨rfl, rfl⟩
          refine go_more (k' := 4) (n' := 20) (by decide) (by decide) ?_
          refine go_isI 0 (by decide) ?_
          refine go_iload c0_153 rfl ?_
          refine go_iload c0_155 rfl ?_
          refine go_icmp_gt c0_157 (fun _ => ?_) (fun q => absurd q (by decide))
          refine go_push c0_164 ?_
          refine go_icmp_ne c0_165 (fun q => absurd q (by decide)) (fun _ => ?_)
          refine go_push c0_168 ?_
          refine go_goto c0_169 ?_
          refine go_istore c0_173 rfl rfl ?_
          dsimp only [setl]
          refine go_iload c0_175 rfl ?_
          refine go_if_eq c0_177 (fun q => absurd q (by decide)) (fun _ => ?_)
          refine go_iload c0_180 rfl ?_
          refine go_if_eq c0_182 (fun q => absurd q (by decide)) (fun _ => ?_)
          refine go_push c0_185 ?_
          refine go_goto c0_186 ?_
          exact go_bret rfl c0_190 (by decide) (by decide) (by decide) ⟨_, rfl, rfl⟩
        · refine go_aload c0_87 rfl rfl ?_
          refine go_callV1 (y := x) (W := 0) (argsL := []) (st := []) c0_89 (rm_E l Z a0 hw h355 n0 _ a331 _ 3 P354) (P354.exa (i := 0) rfl) (t28 hw) (t29 hw) (fun _ q => notFace_of_selects (args := #[]) (mvT q (t31 hw))) (t31 hw) (t30 hw) (t2 hw) (t32 hw) (by decide) (lenOf pd5 rfl) rfl rfl (by decide) (by decide) (by decide) (by decide) rfl ?_
          rintro _ _ ⟨rfl, rfl⟩
          refine go_more (k' := 4) (n' := 20) (by decide) (by decide) ?_
          refine go_isI 0 (by decide) ?_
          refine go_iload c0_92 rfl ?_
          refine go_if_ne c0_94 (fun _ => ?_) (fun q => absurd q (by decide))
          refine go_push c0_101 ?_
          refine go_icmp_ne c0_102 (fun q => absurd q (by decide)) (fun _ => ?_)
          refine go_push c0_105 ?_
          refine go_goto c0_106 ?_
          refine go_istore c0_110 rfl rfl ?_
          dsimp only [setl]
          refine go_iload c0_112 rfl ?_
          refine go_push c0_114 ?_
          refine go_icmp_lt c0_115 (fun _ => ?_) (fun q => absurd q (by decide))
          refine go_iload c0_124 rfl ?_
          refine go_push c0_126 ?_
          refine go_icmp_lt c0_127 (fun _ => ?_) (fun q => absurd q (by decide))
          refine go_iload c0_136 rfl ?_
          refine go_push c0_138 ?_
          refine go_icmp_lt c0_139 (fun _ => ?_) (fun q => absurd q (by decide))
          refine go_aload c0_148 rfl rfl ?_
          refine go_callV1 (y := x) (W := 0) (argsL := []) (st := []) c0_150 (rm_E l Z a0 hw h355 n0 _ a331 _ 3 P354) (P354.exa (i := 0) rfl) (t28 hw) (t29 hw) (fun _ q => notFace_of_selects (args := #[]) (mvT q (t31 hw))) (t31 hw) (t30 hw) (t2 hw) (t32 hw) (by decide) (lenOf pd5 rfl) rfl rfl (by decide) (by decide) (by decide) (by decide) rfl ?_
          rintro _ _ ⟨rfl, rfl⟩
          refine go_more (k' := 4) (n' := 20) (by decide) (by decide) ?_
          refine go_isI 0 (by decide) ?_
          refine go_iload c0_153 rfl ?_
          refine go_iload c0_155 rfl ?_
          refine go_icmp_gt c0_157 (fun _ => ?_) (fun q => absurd q (by decide))
          refine go_push c0_164 ?_
          refine go_icmp_ne c0_165 (fun q => absurd q (by decide)) (fun _ => ?_)
          refine go_push c0_168 ?_
          refine go_goto c0_169 ?_
          refine go_istore c0_173 rfl rfl ?_
          dsimp only [setl]
          refine go_iload c0_175 rfl ?_
          refine go_if_eq c0_177 (fun q => absurd q (by decide)) (fun _ => ?_)
          refine go_iload c0_180 rfl ?_
          refine go_if_eq c0_182 (fun q => absurd q (by decide)) (fun _ => ?_)
          refine go_push c0_185 ?_
          refine go_goto c0_186 ?_
          exact go_bret rfl c0_190 (by decide) (by decide) (by decide) ⟨_, rfl, rfl⟩
    · refine go_isI 1 hk ?_
      refine go_istore c0_8 rfl rfl ?_
      dsimp only [setl]
      refine go_new (y := x) P0 [(("com/example/umbrella_state/umbrellastate/runtime/DelayedDeliveries", "heap", "[Lcom/example/umbrella_state/umbrellastate/runtime/Delivery;"), .null), (("com/example/umbrella_state/umbrellastate/runtime/DelayedDeliveries", "size", "I"), (.int 0))] c0_10 (t0 hw) (t1 hw) (t2 hw) (⟨⟨Or.inl (t12 hw), (.array (.object "com/example/umbrella_state/umbrellastate/runtime/Delivery")), by decide, rfl⟩, ⟨⟨Or.inl (t34 hw), .int, by decide, rfl⟩, trivial⟩⟩) (by decide) (by decide) (by decide) ?_
      intro h357 a359 P358
      refine go_more (k' := 1) (n' := 2) (by decide) (by decide) ?_
      refine go_dup c0_13 rfl ?_
      refine go_callN0 (y := x) (W := 1) (argsL := []) (st := [(.ref a359)]) c0_14 rfl rfl (rm_Q l Z a0 hw h357 n0 _ a359 P358) (t3 hw) (t4 hw) (t2 hw) (t5 hw) (by decide) (lenOf pd3 rfl) rfl rfl (by decide) (by decide) (by decide) (by decide) rfl ?_
      rintro h361 ⟨ha362, P360⟩
      refine go_more (k' := 2) (n' := 10) (by decide) (by decide) ?_
      refine go_astore c0_17 rfl rfl rfl ?_
      dsimp only [setl]
      refine go_new (y := x) P360 [(("com/example/umbrella_state/umbrellastate/runtime/Delivery", "handler", "Ljava/util/function/Consumer;"), .null), (("com/example/umbrella_state/umbrellastate/runtime/Delivery", "message", "Lcom/example/umbrella_state/umbrellastate/model/Message;"), .null), (("com/example/umbrella_state/umbrellastate/runtime/Delivery", "due", "J"), (.long 0)), (("com/example/umbrella_state/umbrellastate/runtime/Delivery", "order", "J"), (.long 0))] c0_19 (t13 hw) (t14 hw) (t15 hw) (⟨⟨Or.inl (t21 hw), (.object "java/util/function/Consumer"), by decide, rfl⟩, ⟨⟨Or.inl (t23 hw), (.object "com/example/umbrella_state/umbrellastate/model/Message"), by decide, rfl⟩, ⟨⟨Or.inr (t25 hw), .long, by decide, rfl⟩, ⟨⟨Or.inr (t27 hw), .long, by decide, rfl⟩, trivial⟩⟩⟩⟩) (by decide) (by decide) (by decide) ?_
      intro h363 a365 P364
      refine go_more (k' := 3) (n' := 15) (by decide) (by decide) ?_
      refine go_dup c0_22 rfl ?_
      refine go_null c0_23 ?_
      refine go_null c0_24 ?_
      refine go_lload c0_25 rfl ?_
      refine go_lload c0_26 rfl ?_
      refine go_callN0 (y := x) (W := 1) (argsL := [.null, .null, (.long d1), (.long o1)]) (st := [(.ref a365)]) c0_28 rfl rfl (rm_D l Z a0 hw h363 n0 _ a365 d1 o1 P364) (t16 hw) (t17 hw) (t15 hw) (t18 hw) (by decide) (lenOf pd4 rfl) rfl rfl (by decide) (by decide) (by decide) (by decide) rfl ?_
      intro h367 P366
      refine go_more (k' := 3) (n' := 15) (by decide) (by decide) ?_
      refine go_astore c0_31 rfl rfl rfl ?_
      dsimp only [setl]
      refine go_new (y := x) P366 [(("com/example/umbrella_state/umbrellastate/runtime/Delivery", "handler", "Ljava/util/function/Consumer;"), .null), (("com/example/umbrella_state/umbrellastate/runtime/Delivery", "message", "Lcom/example/umbrella_state/umbrellastate/model/Message;"), .null), (("com/example/umbrella_state/umbrellastate/runtime/Delivery", "due", "J"), (.long 0)), (("com/example/umbrella_state/umbrellastate/runtime/Delivery", "order", "J"), (.long 0))] c0_33 (t13 hw) (t14 hw) (t15 hw) (⟨⟨Or.inl (t21 hw), (.object "java/util/function/Consumer"), by decide, rfl⟩, ⟨⟨Or.inl (t23 hw), (.object "com/example/umbrella_state/umbrellastate/model/Message"), by decide, rfl⟩, ⟨⟨Or.inr (t25 hw), .long, by decide, rfl⟩, ⟨⟨Or.inr (t27 hw), .long, by decide, rfl⟩, trivial⟩⟩⟩⟩) (by decide) (by decide) (by decide) ?_
      intro h368 a370 P369
      refine go_more (k' := 4) (n' := 20) (by decide) (by decide) ?_
      refine go_dup c0_36 rfl ?_
      refine go_null c0_37 ?_
      refine go_null c0_38 ?_
      refine go_lload c0_39 rfl ?_
      refine go_lload c0_41 rfl ?_
      refine go_callN0 (y := x) (W := 1) (argsL := [.null, .null, (.long d2), (.long o2)]) (st := [(.ref a370)]) c0_43 rfl rfl (rm_D l Z a0 hw h368 n0 _ a370 d2 o2 P369) (t16 hw) (t17 hw) (t15 hw) (t18 hw) (by decide) (lenOf pd4 rfl) rfl rfl (by decide) (by decide) (by decide) (by decide) rfl ?_
      intro h372 P371
      refine go_more (k' := 4) (n' := 20) (by decide) (by decide) ?_
      have P373 : Hp Z n0 h372 ([(a359, (.inl ("com/example/umbrella_state/umbrellastate/runtime/DelayedDeliveries", [(("com/example/umbrella_state/umbrellastate/runtime/DelayedDeliveries", "heap", "[Lcom/example/umbrella_state/umbrellastate/runtime/Delivery;"), (.ref ha362)), (("com/example/umbrella_state/umbrellastate/runtime/DelayedDeliveries", "size", "I"), (.int 0))]))), (ha362, (.inr ((.object "com/example/umbrella_state/umbrellastate/runtime/Delivery"), "[Lcom/example/umbrella_state/umbrellastate/runtime/Delivery;", [.null, .null, .null, .null, .null, .null, .null, .null]))), (a370, (.inl ("com/example/umbrella_state/umbrellastate/runtime/Delivery", [(("com/example/umbrella_state/umbrellastate/runtime/Delivery", "handler", "Ljava/util/function/Consumer;"), .null), (("com/example/umbrella_state/umbrellastate/runtime/Delivery", "message", "Lcom/example/umbrella_state/umbrellastate/model/Message;"), .null), (("com/example/umbrella_state/umbrellastate/runtime/Delivery", "due", "J"), (.long d2)), (("com/example/umbrella_state/umbrellastate/runtime/Delivery", "order", "J"), (.long o2))]))), (a365, (.inl ("com/example/umbrella_state/umbrellastate/runtime/Delivery", [(("com/example/umbrella_state/umbrellastate/runtime/Delivery", "handler", "Ljava/util/function/Consumer;"), .null), (("com/example/umbrella_state/umbrellastate/runtime/Delivery", "message", "Lcom/example/umbrella_state/umbrellastate/model/Message;"), .null), (("com/example/umbrella_state/umbrellastate/runtime/Delivery", "due", "J"), (.long d1)), (("com/example/umbrella_state/umbrellastate/runtime/Delivery", "order", "J"), (.long o1))])))]) := ((P371.front 3).front 3)
      refine go_astore c0_46 rfl rfl rfl ?_
      dsimp only [setl]
      refine go_iload c0_48 rfl ?_
      refine go_push c0_50 ?_
      refine go_icmp_lt c0_51 (fun q => absurd q (by decide)) (fun _ => ?_)
      refine go_aload c0_54 rfl rfl ?_
      refine go_aload c0_56 rfl rfl ?_
      refine go_callV0 (y := x) (W := 0) (argsL := [(.ref a365)]) (st := []) c0_58 (rm_A0 l Z a0 hw h372 n0 _ a359 ha362 a365 1 d1 o1 rfl P373) (P373.exa (i := 0) rfl) (t40 hw) (t41 hw) (fun _ q => notFace_of_selects (args := #[]) (mvT q (t43 hw))) (t43 hw) (t42 hw) (t2 hw) (t44 hw) (by decide) (lenOf pd7 rfl) rfl rfl (by decide) (by decide) (by decide) (by decide) rfl ?_
      intro h375 P374
      refine go_more (k' := 4) (n' := 20) (by decide) (by decide) ?_
      refine go_iload c0_61 rfl ?_
      refine go_push c0_63 ?_
      refine go_icmp_lt c0_64 (fun q => absurd q (by decide)) (fun _ => ?_)
      refine go_aload c0_67 rfl rfl ?_
      refine go_aload c0_69 rfl rfl ?_
      refine go_callV0 (y := x) (W := 0) (argsL := [(.ref a370)]) (st := []) c0_71 (rm_A1 l Z a0 hw h375 n0 _ a359 ha362 a370 0 d2 o2 rfl 1 a365 d1 o1 rfl P374) (P374.exa (i := 0) rfl) (t40 hw) (t41 hw) (fun _ q => notFace_of_selects (args := #[]) (mvT q (t43 hw))) (t43 hw) (t42 hw) (t2 hw) (t44 hw) (by decide) (lenOf pd7 rfl) rfl rfl (by decide) (by decide) (by decide) (by decide) rfl ?_
      rintro h377 (⟨f378, P376⟩ | ⟨f378, P376⟩)
      · refine go_iload c0_74 rfl ?_
        refine go_push c0_76 ?_
        refine go_icmp_lt c0_77 (fun q => absurd q (by decide)) (fun _ => ?_)
        refine go_aload c0_80 rfl rfl ?_
        refine go_aload c0_82 rfl rfl ?_
        refine go_callV0 (y := x) (W := 0) (argsL := [(.ref a365)]) (st := []) c0_84 (rm_A2 l Z a0 hw h377 n0 _ a359 ha362 a365 1 d1 o1 rfl 0 a370 d2 o2 rfl a365 P376) (P376.exa (i := 0) rfl) (t40 hw) (t41 hw) (fun _ q => notFace_of_selects (args := #[]) (mvT q (t43 hw))) (t43 hw) (t42 hw) (t2 hw) (t44 hw) (by decide) (lenOf pd7 rfl) rfl rfl (by decide) (by decide) (by decide) (by decide) rfl ?_
        rintro h380 (⟨f381, P379⟩ | ⟨f381, P379⟩)
        · refine go_aload c0_87 rfl rfl ?_
          refine go_callV1 (y := x) (W := 0) (argsL := []) (st := []) c0_89 (rm_E l Z a0 hw h380 n0 _ a359 _ 3 P379) (P379.exa (i := 0) rfl) (t28 hw) (t29 hw) (fun _ q => notFace_of_selects (args := #[]) (mvT q (t31 hw))) (t31 hw) (t30 hw) (t2 hw) (t32 hw) (by decide) (lenOf pd5 rfl) rfl rfl (by decide) (by decide) (by decide) (by decide) rfl ?_
          rintro _ _ ⟨rfl, rfl⟩
          refine go_more (k' := 4) (n' := 20) (by decide) (by decide) ?_
          refine go_isI 0 (by decide) ?_
          refine go_iload c0_92 rfl ?_
          refine go_if_ne c0_94 (fun _ => ?_) (fun q => absurd q (by decide))
          refine go_push c0_101 ?_
          refine go_icmp_ne c0_102 (fun q => absurd q (by decide)) (fun _ => ?_)
          refine go_push c0_105 ?_
          refine go_goto c0_106 ?_
          refine go_istore c0_110 rfl rfl ?_
          dsimp only [setl]
          refine go_iload c0_112 rfl ?_
          refine go_push c0_114 ?_
          refine go_icmp_lt c0_115 (fun q => absurd q (by decide)) (fun _ => ?_)
          refine go_aload c0_118 rfl rfl ?_
          refine go_callV1 (y := x) (W := 0) (argsL := []) (st := []) c0_120 (rm_O3 l Z a0 hw h380 n0 _ a359 ha362 1 a365 d1 o1 rfl 1 a365 d1 o1 rfl 0 a370 d2 o2 rfl P379) (P379.exa (i := 0) rfl) (t35 hw) (t36 hw) (fun _ q => notFace_of_selects (args := #[]) (mvT q (t38 hw))) (t38 hw) (t37 hw) (t2 hw) (t39 hw) (by decide) (lenOf pd6 rfl) rfl rfl (by decide) (by decide) (by decide) (by decide) rfl ?_
          rintro r384 h383 ⟨hr_r384, (⟨e385, P382⟩ | ⟨e385, P382⟩)⟩
          · refine go_pop c0_123 (XT.cat1 hr_r384) ?_
            refine go_iload c0_124 rfl ?_
            refine go_push c0_126 ?_
            refine go_icmp_lt c0_127 (fun _ => ?_) (fun q => absurd q (by decide))
            refine go_iload c0_136 rfl ?_
            refine go_push c0_138 ?_
            refine go_icmp_lt c0_139 (fun _ => ?_) (fun q => absurd q (by decide))
            refine go_aload c0_148 rfl rfl ?_
            refine go_callV1 (y := x) (W := 0) (argsL := []) (st := []) c0_150 (rm_E l Z a0 hw h383 n0 _ a359 _ 2 P382) (P382.exa (i := 0) rfl) (t28 hw) (t29 hw) (fun _ q => notFace_of_selects (args := #[]) (mvT q (t31 hw))) (t31 hw) (t30 hw) (t2 hw) (t32 hw) (by decide) (lenOf pd5 rfl) rfl rfl (by decide) (by decide) (by decide) (by decide) rfl ?_
            rintro _ _ ⟨rfl, rfl⟩
            refine go_more (k' := 4) (n' := 20) (by decide) (by decide) ?_
            refine go_isI 0 (by decide) ?_
            refine go_iload c0_153 rfl ?_
            refine go_iload c0_155 rfl ?_
            refine go_icmp_gt c0_157 (fun _ => ?_) (fun q => absurd q (by decide))
            refine go_push c0_164 ?_
            refine go_icmp_ne c0_165 (fun q => absurd q (by decide)) (fun _ => ?_)
            refine go_push c0_168 ?_
            refine go_goto c0_169 ?_
            refine go_istore c0_173 rfl rfl ?_
            dsimp only [setl]
            refine go_iload c0_175 rfl ?_
            refine go_if_eq c0_177 (fun q => absurd q (by decide)) (fun _ => ?_)
            refine go_iload c0_180 rfl ?_
            refine go_if_eq c0_182 (fun q => absurd q (by decide)) (fun _ => ?_)
            refine go_push c0_185 ?_
            refine go_goto c0_186 ?_
            exact go_bret rfl c0_190 (by decide) (by decide) (by decide) ⟨_, rfl, rfl⟩
          · refine go_pop c0_123 (XT.cat1 hr_r384) ?_
            refine go_iload c0_124 rfl ?_
            refine go_push c0_126 ?_
            refine go_icmp_lt c0_127 (fun _ => ?_) (fun q => absurd q (by decide))
            refine go_iload c0_136 rfl ?_
            refine go_push c0_138 ?_
            refine go_icmp_lt c0_139 (fun _ => ?_) (fun q => absurd q (by decide))
            refine go_aload c0_148 rfl rfl ?_
            refine go_callV1 (y := x) (W := 0) (argsL := []) (st := []) c0_150 (rm_E l Z a0 hw h383 n0 _ a359 _ 2 P382) (P382.exa (i := 0) rfl) (t28 hw) (t29 hw) (fun _ q => notFace_of_selects (args := #[]) (mvT q (t31 hw))) (t31 hw) (t30 hw) (t2 hw) (t32 hw) (by decide) (lenOf pd5 rfl) rfl rfl (by decide) (by decide) (by decide) (by decide) rfl ?_
            rintro _ _ ⟨rfl, rfl⟩
            refine go_more (k' := 4) (n' := 20) (by decide) (by decide) ?_
            refine go_isI 0 (by decide) ?_
            refine go_iload c0_153 rfl ?_
            refine go_iload c0_155 rfl ?_
            refine go_icmp_gt c0_157 (fun _ => ?_) (fun q => absurd q (by decide))
            refine go_push c0_164 ?_
            refine go_icmp_ne c0_165 (fun q => absurd q (by decide)) (fun _ => ?_)
            refine go_push c0_168 ?_
            refine go_goto c0_169 ?_
            refine go_istore c0_173 rfl rfl ?_
            dsimp only [setl]
            refine go_iload c0_175 rfl ?_
            refine go_if_eq c0_177 (fun q => absurd q (by decide)) (fun _ => ?_)
            refine go_iload c0_180 rfl ?_
            refine go_if_eq c0_182 (fun q => absurd q (by decide)) (fun _ => ?_)
            refine go_push c0_185 ?_
            refine go_goto c0_186 ?_
            exact go_bret rfl c0_190 (by decide) (by decide) (by decide) ⟨_, rfl, rfl⟩
        · refine go_aload c0_87 rfl rfl ?_
          refine go_callV1 (y := x) (W := 0) (argsL := []) (st := []) c0_89 (rm_E l Z a0 hw h380 n0 _ a359 _ 3 P379) (P379.exa (i := 0) rfl) (t28 hw) (t29 hw) (fun _ q => notFace_of_selects (args := #[]) (mvT q (t31 hw))) (t31 hw) (t30 hw) (t2 hw) (t32 hw) (by decide) (lenOf pd5 rfl) rfl rfl (by decide) (by decide) (by decide) (by decide) rfl ?_
          rintro _ _ ⟨rfl, rfl⟩
          refine go_more (k' := 4) (n' := 20) (by decide) (by decide) ?_
          refine go_isI 0 (by decide) ?_
          refine go_iload c0_92 rfl ?_
          refine go_if_ne c0_94 (fun _ => ?_) (fun q => absurd q (by decide))
          refine go_push c0_101 ?_
          refine go_icmp_ne c0_102 (fun q => absurd q (by decide)) (fun _ => ?_)
          refine go_push c0_105 ?_
          refine go_goto c0_106 ?_
          refine go_istore c0_110 rfl rfl ?_
          dsimp only [setl]
          refine go_iload c0_112 rfl ?_
          refine go_push c0_114 ?_
          refine go_icmp_lt c0_115 (fun q => absurd q (by decide)) (fun _ => ?_)
          refine go_aload c0_118 rfl rfl ?_
          refine go_callV1 (y := x) (W := 0) (argsL := []) (st := []) c0_120 (rm_O3 l Z a0 hw h380 n0 _ a359 ha362 0 a370 d2 o2 rfl 1 a365 d1 o1 rfl 1 a365 d1 o1 rfl P379) (P379.exa (i := 0) rfl) (t35 hw) (t36 hw) (fun _ q => notFace_of_selects (args := #[]) (mvT q (t38 hw))) (t38 hw) (t37 hw) (t2 hw) (t39 hw) (by decide) (lenOf pd6 rfl) rfl rfl (by decide) (by decide) (by decide) (by decide) rfl ?_
          rintro r388 h387 ⟨hr_r388, (⟨e389, P386⟩ | ⟨e389, P386⟩)⟩
          · refine go_pop c0_123 (XT.cat1 hr_r388) ?_
            refine go_iload c0_124 rfl ?_
            refine go_push c0_126 ?_
            refine go_icmp_lt c0_127 (fun _ => ?_) (fun q => absurd q (by decide))
            refine go_iload c0_136 rfl ?_
            refine go_push c0_138 ?_
            refine go_icmp_lt c0_139 (fun _ => ?_) (fun q => absurd q (by decide))
            refine go_aload c0_148 rfl rfl ?_
            refine go_callV1 (y := x) (W := 0) (argsL := []) (st := []) c0_150 (rm_E l Z a0 hw h387 n0 _ a359 _ 2 P386) (P386.exa (i := 0) rfl) (t28 hw) (t29 hw) (fun _ q => notFace_of_selects (args := #[]) (mvT q (t31 hw))) (t31 hw) (t30 hw) (t2 hw) (t32 hw) (by decide) (lenOf pd5 rfl) rfl rfl (by decide) (by decide) (by decide) (by decide) rfl ?_
            rintro _ _ ⟨rfl, rfl⟩
            refine go_more (k' := 4) (n' := 20) (by decide) (by decide) ?_
            refine go_isI 0 (by decide) ?_
            refine go_iload c0_153 rfl ?_
            refine go_iload c0_155 rfl ?_
            refine go_icmp_gt c0_157 (fun _ => ?_) (fun q => absurd q (by decide))
            refine go_push c0_164 ?_
            refine go_icmp_ne c0_165 (fun q => absurd q (by decide)) (fun _ => ?_)
            refine go_push c0_168 ?_
            refine go_goto c0_169 ?_
            refine go_istore c0_173 rfl rfl ?_
            dsimp only [setl]
            refine go_iload c0_175 rfl ?_
            refine go_if_eq c0_177 (fun q => absurd q (by decide)) (fun _ => ?_)
            refine go_iload c0_180 rfl ?_
            refine go_if_eq c0_182 (fun q => absurd q (by decide)) (fun _ => ?_)
            refine go_push c0_185 ?_
            refine go_goto c0_186 ?_
            exact go_bret rfl c0_190 (by decide) (by decide) (by decide) ⟨_, rfl, rfl⟩
          · refine go_pop c0_123 (XT.cat1 hr_r388) ?_
            refine go_iload c0_124 rfl ?_
            refine go_push c0_126 ?_
            refine go_icmp_lt c0_127 (fun _ => ?_) (fun q => absurd q (by decide))
            refine go_iload c0_136 rfl ?_
            refine go_push c0_138 ?_
            refine go_icmp_lt c0_139 (fun _ => ?_) (fun q => absurd q (by decide))
            refine go_aload c0_148 rfl rfl ?_
            refine go_callV1 (y := x) (W := 0) (argsL := []) (st := []) c0_150 (rm_E l Z a0 hw h387 n0 _ a359 _ 2 P386) (P386.exa (i := 0) rfl) (t28 hw) (t29 hw) (fun _ q => notFace_of_selects (args := #[]) (mvT q (t31 hw))) (t31 hw) (t30 hw) (t2 hw) (t32 hw) (by decide) (lenOf pd5 rfl) rfl rfl (by decide) (by decide) (by decide) (by decide) rfl ?_
            rintro _ _ ⟨rfl, rfl⟩
            refine go_more (k' := 4) (n' := 20) (by decide) (by decide) ?_
            refine go_isI 0 (by decide) ?_
            refine go_iload c0_153 rfl ?_
            refine go_iload c0_155 rfl ?_
            refine go_icmp_gt c0_157 (fun _ => ?_) (fun q => absurd q (by decide))
            refine go_push c0_164 ?_
            refine go_icmp_ne c0_165 (fun q => absurd q (by decide)) (fun _ => ?_)
            refine go_push c0_168 ?_
            refine go_goto c0_169 ?_
            refine go_istore c0_173 rfl rfl ?_
            dsimp only [setl]
            refine go_iload c0_175 rfl ?_
            refine go_if_eq c0_177 (fun q => absurd q (by decide)) (fun _ => ?_)
            refine go_iload c0_180 rfl ?_
            refine go_if_eq c0_182 (fun q => absurd q (by decide)) (fun _ => ?_)
            refine go_push c0_185 ?_
            refine go_goto c0_186 ?_
            exact go_bret rfl c0_190 (by decide) (by decide) (by decide) ⟨_, rfl, rfl⟩
      · refine go_iload c0_74 rfl ?_
        refine go_push c0_76 ?_
        refine go_icmp_lt c0_77 (fun q => absurd q (by decide)) (fun _ => ?_)
        refine go_aload c0_80 rfl rfl ?_
        refine go_aload c0_82 rfl rfl ?_
        refine go_callV0 (y := x) (W := 0) (argsL := [(.ref a365)]) (st := []) c0_84 (rm_A2 l Z a0 hw h377 n0 _ a359 ha362 a365 1 d1 o1 rfl 1 a365 d1 o1 rfl a370 P376) (P376.exa (i := 0) rfl) (t40 hw) (t41 hw) (fun _ q => notFace_of_selects (args := #[]) (mvT q (t43 hw))) (t43 hw) (t42 hw) (t2 hw) (t44 hw) (by decide) (lenOf pd7 rfl) rfl rfl (by decide) (by decide) (by decide) (by decide) rfl ?_
        rintro h391 (⟨f392, P390⟩ | ⟨f392, P390⟩)
        · refine go_aload c0_87 rfl rfl ?_
          refine go_callV1 (y := x) (W := 0) (argsL := []) (st := []) c0_89 (rm_E l Z a0 hw h391 n0 _ a359 _ 3 P390) (P390.exa (i := 0) rfl) (t28 hw) (t29 hw) (fun _ q => notFace_of_selects (args := #[]) (mvT q (t31 hw))) (t31 hw) (t30 hw) (t2 hw) (t32 hw) (by decide) (lenOf pd5 rfl) rfl rfl (by decide) (by decide) (by decide) (by decide) rfl ?_
          rintro _ _ ⟨rfl, rfl⟩
          refine go_more (k' := 4) (n' := 20) (by decide) (by decide) ?_
          refine go_isI 0 (by decide) ?_
          refine go_iload c0_92 rfl ?_
          refine go_if_ne c0_94 (fun _ => ?_) (fun q => absurd q (by decide))
          refine go_push c0_101 ?_
          refine go_icmp_ne c0_102 (fun q => absurd q (by decide)) (fun _ => ?_)
          refine go_push c0_105 ?_
          refine go_goto c0_106 ?_
          refine go_istore c0_110 rfl rfl ?_
          dsimp only [setl]
          refine go_iload c0_112 rfl ?_
          refine go_push c0_114 ?_
          refine go_icmp_lt c0_115 (fun q => absurd q (by decide)) (fun _ => ?_)
          refine go_aload c0_118 rfl rfl ?_
          refine go_callV1 (y := x) (W := 0) (argsL := []) (st := []) c0_120 (rm_O3 l Z a0 hw h391 n0 _ a359 ha362 1 a365 d1 o1 rfl 0 a370 d2 o2 rfl 1 a365 d1 o1 rfl P390) (P390.exa (i := 0) rfl) (t35 hw) (t36 hw) (fun _ q => notFace_of_selects (args := #[]) (mvT q (t38 hw))) (t38 hw) (t37 hw) (t2 hw) (t39 hw) (by decide) (lenOf pd6 rfl) rfl rfl (by decide) (by decide) (by decide) (by decide) rfl ?_
          rintro r395 h394 ⟨hr_r395, (⟨e396, P393⟩ | ⟨e396, P393⟩)⟩
          · refine go_pop c0_123 (XT.cat1 hr_r395) ?_
            refine go_iload c0_124 rfl ?_
            refine go_push c0_126 ?_
            refine go_icmp_lt c0_127 (fun _ => ?_) (fun q => absurd q (by decide))
            refine go_iload c0_136 rfl ?_
            refine go_push c0_138 ?_
            refine go_icmp_lt c0_139 (fun _ => ?_) (fun q => absurd q (by decide))
            refine go_aload c0_148 rfl rfl ?_
            refine go_callV1 (y := x) (W := 0) (argsL := []) (st := []) c0_150 (rm_E l Z a0 hw h394 n0 _ a359 _ 2 P393) (P393.exa (i := 0) rfl) (t28 hw) (t29 hw) (fun _ q => notFace_of_selects (args := #[]) (mvT q (t31 hw))) (t31 hw) (t30 hw) (t2 hw) (t32 hw) (by decide) (lenOf pd5 rfl) rfl rfl (by decide) (by decide) (by decide) (by decide) rfl ?_
            rintro _ _ ⟨rfl, rfl⟩
            refine go_more (k' := 4) (n' := 20) (by decide) (by decide) ?_
            refine go_isI 0 (by decide) ?_
            refine go_iload c0_153 rfl ?_
            refine go_iload c0_155 rfl ?_
            refine go_icmp_gt c0_157 (fun _ => ?_) (fun q => absurd q (by decide))
            refine go_push c0_164 ?_
            refine go_icmp_ne c0_165 (fun q => absurd q (by decide)) (fun _ => ?_)
            refine go_push c0_168 ?_
            refine go_goto c0_169 ?_
            refine go_istore c0_173 rfl rfl ?_
            dsimp only [setl]
            refine go_iload c0_175 rfl ?_
            refine go_if_eq c0_177 (fun q => absurd q (by decide)) (fun _ => ?_)
            refine go_iload c0_180 rfl ?_
            refine go_if_eq c0_182 (fun q => absurd q (by decide)) (fun _ => ?_)
            refine go_push c0_185 ?_
            refine go_goto c0_186 ?_
            exact go_bret rfl c0_190 (by decide) (by decide) (by decide) ⟨_, rfl, rfl⟩
          · refine go_pop c0_123 (XT.cat1 hr_r395) ?_
            refine go_iload c0_124 rfl ?_
            refine go_push c0_126 ?_
            refine go_icmp_lt c0_127 (fun _ => ?_) (fun q => absurd q (by decide))
            refine go_iload c0_136 rfl ?_
            refine go_push c0_138 ?_
            refine go_icmp_lt c0_139 (fun _ => ?_) (fun q => absurd q (by decide))
            refine go_aload c0_148 rfl rfl ?_
            refine go_callV1 (y := x) (W := 0) (argsL := []) (st := []) c0_150 (rm_E l Z a0 hw h394 n0 _ a359 _ 2 P393) (P393.exa (i := 0) rfl) (t28 hw) (t29 hw) (fun _ q => notFace_of_selects (args := #[]) (mvT q (t31 hw))) (t31 hw) (t30 hw) (t2 hw) (t32 hw) (by decide) (lenOf pd5 rfl) rfl rfl (by decide) (by decide) (by decide) (by decide) rfl ?_
            rintro _ _ ⟨rfl, rfl⟩
            refine go_more (k' := 4) (n' := 20) (by decide) (by decide) ?_
            refine go_isI 0 (by decide) ?_
            refine go_iload c0_153 rfl ?_
            refine go_iload c0_155 rfl ?_
            refine go_icmp_gt c0_157 (fun _ => ?_) (fun q => absurd q (by decide))
            refine go_push c0_164 ?_
            refine go_icmp_ne c0_165 (fun q => absurd q (by decide)) (fun _ => ?_)
            refine go_push c0_168 ?_
            refine go_goto c0_169 ?_
            refine go_istore c0_173 rfl rfl ?_
            dsimp only [setl]
            refine go_iload c0_175 rfl ?_
            refine go_if_eq c0_177 (fun q => absurd q (by decide)) (fun _ => ?_)
            refine go_iload c0_180 rfl ?_
            refine go_if_eq c0_182 (fun q => absurd q (by decide)) (fun _ => ?_)
            refine go_push c0_185 ?_
            refine go_goto c0_186 ?_
            exact go_bret rfl c0_190 (by decide) (by decide) (by decide) ⟨_, rfl, rfl⟩
        · refine go_aload c0_87 rfl rfl ?_
          refine go_callV1 (y := x) (W := 0) (argsL := []) (st := []) c0_89 (rm_E l Z a0 hw h391 n0 _ a359 _ 3 P390) (P390.exa (i := 0) rfl) (t28 hw) (t29 hw) (fun _ q => notFace_of_selects (args := #[]) (mvT q (t31 hw))) (t31 hw) (t30 hw) (t2 hw) (t32 hw) (by decide) (lenOf pd5 rfl) rfl rfl (by decide) (by decide) (by decide) (by decide) rfl ?_
          rintro _ _ ⟨rfl, rfl⟩
          refine go_more (k' := 4) (n' := 20) (by decide) (by decide) ?_
          refine go_isI 0 (by decide) ?_
          refine go_iload c0_92 rfl ?_
          refine go_if_ne c0_94 (fun _ => ?_) (fun q => absurd q (by decide))
          refine go_push c0_101 ?_
          refine go_icmp_ne c0_102 (fun q => absurd q (by decide)) (fun _ => ?_)
          refine go_push c0_105 ?_
          refine go_goto c0_106 ?_
          refine go_istore c0_110 rfl rfl ?_
          dsimp only [setl]
          refine go_iload c0_112 rfl ?_
          refine go_push c0_114 ?_
          refine go_icmp_lt c0_115 (fun q => absurd q (by decide)) (fun _ => ?_)
          refine go_aload c0_118 rfl rfl ?_
          refine go_callV1 (y := x) (W := 0) (argsL := []) (st := []) c0_120 (rm_O3 l Z a0 hw h391 n0 _ a359 ha362 1 a365 d1 o1 rfl 0 a370 d2 o2 rfl 1 a365 d1 o1 rfl P390) (P390.exa (i := 0) rfl) (t35 hw) (t36 hw) (fun _ q => notFace_of_selects (args := #[]) (mvT q (t38 hw))) (t38 hw) (t37 hw) (t2 hw) (t39 hw) (by decide) (lenOf pd6 rfl) rfl rfl (by decide) (by decide) (by decide) (by decide) rfl ?_
          rintro r399 h398 ⟨hr_r399, (⟨e400, P397⟩ | ⟨e400, P397⟩)⟩
          · refine go_pop c0_123 (XT.cat1 hr_r399) ?_
            refine go_iload c0_124 rfl ?_
            refine go_push c0_126 ?_
            refine go_icmp_lt c0_127 (fun _ => ?_) (fun q => absurd q (by decide))
            refine go_iload c0_136 rfl ?_
            refine go_push c0_138 ?_
            refine go_icmp_lt c0_139 (fun _ => ?_) (fun q => absurd q (by decide))
            refine go_aload c0_148 rfl rfl ?_
            refine go_callV1 (y := x) (W := 0) (argsL := []) (st := []) c0_150 (rm_E l Z a0 hw h398 n0 _ a359 _ 2 P397) (P397.exa (i := 0) rfl) (t28 hw) (t29 hw) (fun _ q => notFace_of_selects (args := #[]) (mvT q (t31 hw))) (t31 hw) (t30 hw) (t2 hw) (t32 hw) (by decide) (lenOf pd5 rfl) rfl rfl (by decide) (by decide) (by decide) (by decide) rfl ?_
            rintro _ _ ⟨rfl, rfl⟩
            refine go_more (k' := 4) (n' := 20) (by decide) (by decide) ?_
            refine go_isI 0 (by decide) ?_
            refine go_iload c0_153 rfl ?_
            refine go_iload c0_155 rfl ?_
            refine go_icmp_gt c0_157 (fun _ => ?_) (fun q => absurd q (by decide))
            refine go_push c0_164 ?_
            refine go_icmp_ne c0_165 (fun q => absurd q (by decide)) (fun _ => ?_)
            refine go_push c0_168 ?_
            refine go_goto c0_169 ?_
            refine go_istore c0_173 rfl rfl ?_
            dsimp only [setl]
            refine go_iload c0_175 rfl ?_
            refine go_if_eq c0_177 (fun q => absurd q (by decide)) (fun _ => ?_)
            refine go_iload c0_180 rfl ?_
            refine go_if_eq c0_182 (fun q => absurd q (by decide)) (fun _ => ?_)
            refine go_push c0_185 ?_
            refine go_goto c0_186 ?_
            exact go_bret rfl c0_190 (by decide) (by decide) (by decide) ⟨_, rfl, rfl⟩
          · refine go_pop c0_123 (XT.cat1 hr_r399) ?_
            refine go_iload c0_124 rfl ?_
            refine go_push c0_126 ?_
            refine go_icmp_lt c0_127 (fun _ => ?_) (fun q => absurd q (by decide))
            refine go_iload c0_136 rfl ?_
            refine go_push c0_138 ?_
            refine go_icmp_lt c0_139 (fun _ => ?_) (fun q => absurd q (by decide))
            refine go_aload c0_148 rfl rfl ?_
            refine go_callV1 (y := x) (W := 0) (argsL := []) (st := []) c0_150 (rm_E l Z a0 hw h398 n0 _ a359 _ 2 P397) (P397.exa (i := 0) rfl) (t28 hw) (t29 hw) (fun _ q => notFace_of_selects (args := #[]) (mvT q (t31 hw))) (t31 hw) (t30 hw) (t2 hw) (t32 hw) (by decide) (lenOf pd5 rfl) rfl rfl (by decide) (by decide) (by decide) (by decide) rfl ?_
            rintro _ _ ⟨rfl, rfl⟩
            refine go_more (k' := 4) (n' := 20) (by decide) (by decide) ?_
            refine go_isI 0 (by decide) ?_
            refine go_iload c0_153 rfl ?_
            refine go_iload c0_155 rfl ?_
            refine go_icmp_gt c0_157 (fun _ => ?_) (fun q => absurd q (by decide))
            refine go_push c0_164 ?_
            refine go_icmp_ne c0_165 (fun q => absurd q (by decide)) (fun _ => ?_)
            refine go_push c0_168 ?_
            refine go_goto c0_169 ?_
            refine go_istore c0_173 rfl rfl ?_
            dsimp only [setl]
            refine go_iload c0_175 rfl ?_
            refine go_if_eq c0_177 (fun q => absurd q (by decide)) (fun _ => ?_)
            refine go_iload c0_180 rfl ?_
            refine go_if_eq c0_182 (fun q => absurd q (by decide)) (fun _ => ?_)
            refine go_push c0_185 ?_
            refine go_goto c0_186 ?_
            exact go_bret rfl c0_190 (by decide) (by decide) (by decide) ⟨_, rfl, rfl⟩
    · refine go_isI 2 hk ?_
      refine go_istore c0_8 rfl rfl ?_
      dsimp only [setl]
      refine go_new (y := x) P0 [(("com/example/umbrella_state/umbrellastate/runtime/DelayedDeliveries", "heap", "[Lcom/example/umbrella_state/umbrellastate/runtime/Delivery;"), .null), (("com/example/umbrella_state/umbrellastate/runtime/DelayedDeliveries", "size", "I"), (.int 0))] c0_10 (t0 hw) (t1 hw) (t2 hw) (⟨⟨Or.inl (t12 hw), (.array (.object "com/example/umbrella_state/umbrellastate/runtime/Delivery")), by decide, rfl⟩, ⟨⟨Or.inl (t34 hw), .int, by decide, rfl⟩, trivial⟩⟩) (by decide) (by decide) (by decide) ?_
      intro h401 a403 P402
      refine go_more (k' := 1) (n' := 2) (by decide) (by decide) ?_
      refine go_dup c0_13 rfl ?_
      refine go_callN0 (y := x) (W := 1) (argsL := []) (st := [(.ref a403)]) c0_14 rfl rfl (rm_Q l Z a0 hw h401 n0 _ a403 P402) (t3 hw) (t4 hw) (t2 hw) (t5 hw) (by decide) (lenOf pd3 rfl) rfl rfl (by decide) (by decide) (by decide) (by decide) rfl ?_
      rintro h405 ⟨ha406, P404⟩
      refine go_more (k' := 2) (n' := 10) (by decide) (by decide) ?_
      refine go_astore c0_17 rfl rfl rfl ?_
      dsimp only [setl]
      refine go_new (y := x) P404 [(("com/example/umbrella_state/umbrellastate/runtime/Delivery", "handler", "Ljava/util/function/Consumer;"), .null), (("com/example/umbrella_state/umbrellastate/runtime/Delivery", "message", "Lcom/example/umbrella_state/umbrellastate/model/Message;"), .null), (("com/example/umbrella_state/umbrellastate/runtime/Delivery", "due", "J"), (.long 0)), (("com/example/umbrella_state/umbrellastate/runtime/Delivery", "order", "J"), (.long 0))] c0_19 (t13 hw) (t14 hw) (t15 hw) (⟨⟨Or.inl (t21 hw), (.object "java/util/function/Consumer"), by decide, rfl⟩, ⟨⟨Or.inl (t23 hw), (.object "com/example/umbrella_state/umbrellastate/model/Message"), by decide, rfl⟩, ⟨⟨Or.inr (t25 hw), .long, by decide, rfl⟩, ⟨⟨Or.inr (t27 hw), .long, by decide, rfl⟩, trivial⟩⟩⟩⟩) (by decide) (by decide) (by decide) ?_
      intro h407 a409 P408
      refine go_more (k' := 3) (n' := 15) (by decide) (by decide) ?_
      refine go_dup c0_22 rfl ?_
      refine go_null c0_23 ?_
      refine go_null c0_24 ?_
      refine go_lload c0_25 rfl ?_
      refine go_lload c0_26 rfl ?_
      refine go_callN0 (y := x) (W := 1) (argsL := [.null, .null, (.long d1), (.long o1)]) (st := [(.ref a409)]) c0_28 rfl rfl (rm_D l Z a0 hw h407 n0 _ a409 d1 o1 P408) (t16 hw) (t17 hw) (t15 hw) (t18 hw) (by decide) (lenOf pd4 rfl) rfl rfl (by decide) (by decide) (by decide) (by decide) rfl ?_
      intro h411 P410
      refine go_more (k' := 3) (n' := 15) (by decide) (by decide) ?_
      refine go_astore c0_31 rfl rfl rfl ?_
      dsimp only [setl]
      refine go_new (y := x) P410 [(("com/example/umbrella_state/umbrellastate/runtime/Delivery", "handler", "Ljava/util/function/Consumer;"), .null), (("com/example/umbrella_state/umbrellastate/runtime/Delivery", "message", "Lcom/example/umbrella_state/umbrellastate/model/Message;"), .null), (("com/example/umbrella_state/umbrellastate/runtime/Delivery", "due", "J"), (.long 0)), (("com/example/umbrella_state/umbrellastate/runtime/Delivery", "order", "J"), (.long 0))] c0_33 (t13 hw) (t14 hw) (t15 hw) (⟨⟨Or.inl (t21 hw), (.object "java/util/function/Consumer"), by decide, rfl⟩, ⟨⟨Or.inl (t23 hw), (.object "com/example/umbrella_state/umbrellastate/model/Message"), by decide, rfl⟩, ⟨⟨Or.inr (t25 hw), .long, by decide, rfl⟩, ⟨⟨Or.inr (t27 hw), .long, by decide, rfl⟩, trivial⟩⟩⟩⟩) (by decide) (by decide) (by decide) ?_
      intro h412 a414 P413
      refine go_more (k' := 4) (n' := 20) (by decide) (by decide) ?_
      refine go_dup c0_36 rfl ?_
      refine go_null c0_37 ?_
      refine go_null c0_38 ?_
      refine go_lload c0_39 rfl ?_
      refine go_lload c0_41 rfl ?_
      refine go_callN0 (y := x) (W := 1) (argsL := [.null, .null, (.long d2), (.long o2)]) (st := [(.ref a414)]) c0_43 rfl rfl (rm_D l Z a0 hw h412 n0 _ a414 d2 o2 P413) (t16 hw) (t17 hw) (t15 hw) (t18 hw) (by decide) (lenOf pd4 rfl) rfl rfl (by decide) (by decide) (by decide) (by decide) rfl ?_
      intro h416 P415
      refine go_more (k' := 4) (n' := 20) (by decide) (by decide) ?_
      have P417 : Hp Z n0 h416 ([(a403, (.inl ("com/example/umbrella_state/umbrellastate/runtime/DelayedDeliveries", [(("com/example/umbrella_state/umbrellastate/runtime/DelayedDeliveries", "heap", "[Lcom/example/umbrella_state/umbrellastate/runtime/Delivery;"), (.ref ha406)), (("com/example/umbrella_state/umbrellastate/runtime/DelayedDeliveries", "size", "I"), (.int 0))]))), (ha406, (.inr ((.object "com/example/umbrella_state/umbrellastate/runtime/Delivery"), "[Lcom/example/umbrella_state/umbrellastate/runtime/Delivery;", [.null, .null, .null, .null, .null, .null, .null, .null]))), (a414, (.inl ("com/example/umbrella_state/umbrellastate/runtime/Delivery", [(("com/example/umbrella_state/umbrellastate/runtime/Delivery", "handler", "Ljava/util/function/Consumer;"), .null), (("com/example/umbrella_state/umbrellastate/runtime/Delivery", "message", "Lcom/example/umbrella_state/umbrellastate/model/Message;"), .null), (("com/example/umbrella_state/umbrellastate/runtime/Delivery", "due", "J"), (.long d2)), (("com/example/umbrella_state/umbrellastate/runtime/Delivery", "order", "J"), (.long o2))]))), (a409, (.inl ("com/example/umbrella_state/umbrellastate/runtime/Delivery", [(("com/example/umbrella_state/umbrellastate/runtime/Delivery", "handler", "Ljava/util/function/Consumer;"), .null), (("com/example/umbrella_state/umbrellastate/runtime/Delivery", "message", "Lcom/example/umbrella_state/umbrellastate/model/Message;"), .null), (("com/example/umbrella_state/umbrellastate/runtime/Delivery", "due", "J"), (.long d1)), (("com/example/umbrella_state/umbrellastate/runtime/Delivery", "order", "J"), (.long o1))])))]) := ((P415.front 3).front 3)
      refine go_astore c0_46 rfl rfl rfl ?_
      dsimp only [setl]
      refine go_iload c0_48 rfl ?_
      refine go_push c0_50 ?_
      refine go_icmp_lt c0_51 (fun q => absurd q (by decide)) (fun _ => ?_)
      refine go_aload c0_54 rfl rfl ?_
      refine go_aload c0_56 rfl rfl ?_
      refine go_callV0 (y := x) (W := 0) (argsL := [(.ref a409)]) (st := []) c0_58 (rm_A0 l Z a0 hw h416 n0 _ a403 ha406 a409 1 d1 o1 rfl P417) (P417.exa (i := 0) rfl) (t40 hw) (t41 hw) (fun _ q => notFace_of_selects (args := #[]) (mvT q (t43 hw))) (t43 hw) (t42 hw) (t2 hw) (t44 hw) (by decide) (lenOf pd7 rfl) rfl rfl (by decide) (by decide) (by decide) (by decide) rfl ?_
      intro h419 P418
      refine go_more (k' := 4) (n' := 20) (by decide) (by decide) ?_
      refine go_iload c0_61 rfl ?_
      refine go_push c0_63 ?_
      refine go_icmp_lt c0_64 (fun q => absurd q (by decide)) (fun _ => ?_)
      refine go_aload c0_67 rfl rfl ?_
      refine go_aload c0_69 rfl rfl ?_
      refine go_callV0 (y := x) (W := 0) (argsL := [(.ref a414)]) (st := []) c0_71 (rm_A1 l Z a0 hw h419 n0 _ a403 ha406 a414 0 d2 o2 rfl 1 a409 d1 o1 rfl P418) (P418.exa (i := 0) rfl) (t40 hw) (t41 hw) (fun _ q => notFace_of_selects (args := #[]) (mvT q (t43 hw))) (t43 hw) (t42 hw) (t2 hw) (t44 hw) (by decide) (lenOf pd7 rfl) rfl rfl (by decide) (by decide) (by decide) (by decide) rfl ?_
      rintro h421 (⟨f422, P420⟩ | ⟨f422, P420⟩)
      · refine go_iload c0_74 rfl ?_
        refine go_push c0_76 ?_
        refine go_icmp_lt c0_77 (fun q => absurd q (by decide)) (fun _ => ?_)
        refine go_aload c0_80 rfl rfl ?_
        refine go_aload c0_82 rfl rfl ?_
        refine go_callV0 (y := x) (W := 0) (argsL := [(.ref a409)]) (st := []) c0_84 (rm_A2 l Z a0 hw h421 n0 _ a403 ha406 a409 1 d1 o1 rfl 0 a414 d2 o2 rfl a409 P420) (P420.exa (i := 0) rfl) (t40 hw) (t41 hw) (fun _ q => notFace_of_selects (args := #[]) (mvT q (t43 hw))) (t43 hw) (t42 hw) (t2 hw) (t44 hw) (by decide) (lenOf pd7 rfl) rfl rfl (by decide) (by decide) (by decide) (by decide) rfl ?_
        rintro h424 (⟨f425, P423⟩ | ⟨f425, P423⟩)
        · refine go_aload c0_87 rfl rfl ?_
          refine go_callV1 (y := x) (W := 0) (argsL := []) (st := []) c0_89 (rm_E l Z a0 hw h424 n0 _ a403 _ 3 P423) (P423.exa (i := 0) rfl) (t28 hw) (t29 hw) (fun _ q => notFace_of_selects (args := #[]) (mvT q (t31 hw))) (t31 hw) (t30 hw) (t2 hw) (t32 hw) (by decide) (lenOf pd5 rfl) rfl rfl (by decide) (by decide) (by decide) (by decide) rfl ?_
          rintro _ _ ⟨rfl, rfl⟩
          refine go_more (k' := 4) (n' := 20) (by decide) (by decide) ?_
          refine go_isI 0 (by decide) ?_
          refine go_iload c0_92 rfl ?_
          refine go_if_ne c0_94 (fun _ => ?_) (fun q => absurd q (by decide))
          refine go_push c0_101 ?_
          refine go_icmp_ne c0_102 (fun q => absurd q (by decide)) (fun _ => ?_)
          refine go_push c0_105 ?_
          refine go_goto c0_106 ?_
          refine go_istore c0_110 rfl rfl ?_
          dsimp only [setl]
          refine go_iload c0_112 rfl ?_
          refine go_push c0_114 ?_
          refine go_icmp_lt c0_115 (fun q => absurd q (by decide)) (fun _ => ?_)
          refine go_aload c0_118 rfl rfl ?_
          refine go_callV1 (y := x) (W := 0) (argsL := []) (st := []) c0_120 (rm_O3 l Z a0 hw h424 n0 _ a403 ha406 1 a409 d1 o1 rfl 1 a409 d1 o1 rfl 0 a414 d2 o2 rfl P423) (P423.exa (i := 0) rfl) (t35 hw) (t36 hw) (fun _ q => notFace_of_selects (args := #[]) (mvT q (t38 hw))) (t38 hw) (t37 hw) (t2 hw) (t39 hw) (by decide) (lenOf pd6 rfl) rfl rfl (by decide) (by decide) (by decide) (by decide) rfl ?_
          rintro r428 h427 ⟨hr_r428, (⟨e429, P426⟩ | ⟨e429, P426⟩)⟩
          · refine go_pop c0_123 (XT.cat1 hr_r428) ?_
            refine go_iload c0_124 rfl ?_
            refine go_push c0_126 ?_
            refine go_icmp_lt c0_127 (fun q => absurd q (by decide)) (fun _ => ?_)
            refine go_aload c0_130 rfl rfl ?_
            refine go_callV1 (y := x) (W := 0) (argsL := []) (st := []) c0_132 (rm_O2 l Z a0 hw h427 n0 _ a403 ha406 1 a409 d1 o1 rfl 0 a414 d2 o2 rfl P426) (P426.exa (i := 0) rfl) (t35 hw) (t36 hw) (fun _ q => notFace_of_selects (args := #[]) (mvT q (t38 hw))) (t38 hw) (t37 hw) (t2 hw) (t39 hw) (by decide) (lenOf pd6 rfl) rfl rfl (by decide) (by decide) (by decide) (by decide) rfl ?_
            rintro r432 h431 ⟨hr_r432, P430⟩
            refine go_more (k' := 4) (n' := 20) (by decide) (by decide) ?_
            refine go_pop c0_135 (XT.cat1 hr_r432) ?_
            refine go_iload c0_136 rfl ?_
            refine go_push c0_138 ?_
            refine go_icmp_lt c0_139 (fun _ => ?_) (fun q => absurd q (by decide))
            refine go_aload c0_148 rfl rfl ?_
            refine go_callV1 (y := x) (W := 0) (argsL := []) (st := []) c0_150 (rm_E l Z a0 hw h431 n0 _ a403 _ 1 P430) (P430.exa (i := 0) rfl) (t28 hw) (t29 hw) (fun _ q => notFace_of_selects (args := #[]) (mvT q (t31 hw))) (t31 hw) (t30 hw) (t2 hw) (t32 hw) (by decide) (lenOf pd5 rfl) rfl rfl (by decide) (by decide) (by decide) (by decide) rfl ?_
            rintro _ _ ⟨rfl, rfl⟩
            refine go_more (k' := 4) (n' := 20) (by decide) (by decide) ?_
            refine go_isI 0 (by decide) ?_
            refine go_iload c0_153 rfl ?_
            refine go_iload c0_155 rfl ?_
            refine go_icmp_gt c0_157 (fun _ => ?_) (fun q => absurd q (by decide))
            refine go_push c0_164 ?_
            refine go_icmp_ne c0_165 (fun q => absurd q (by decide)) (fun _ => ?_)
            refine go_push c0_168 ?_
            refine go_goto c0_169 ?_
            refine go_istore c0_173 rfl rfl ?_
            dsimp only [setl]
            refine go_iload c0_175 rfl ?_
            refine go_if_eq c0_177 (fun q => absurd q (by decide)) (fun _ => ?_)
            refine go_iload c0_180 rfl ?_
            refine go_if_eq c0_182 (fun q => absurd q (by decide)) (fun _ => ?_)
            refine go_push c0_185 ?_
            refine go_goto c0_186 ?_
            exact go_bret rfl c0_190 (by decide) (by decide) (by decide) ⟨_, rfl, rfl⟩
          · refine go_pop c0_123 (XT.cat1 hr_r428) ?_
            refine go_iload c0_124 rfl ?_
            refine go_push c0_126 ?_
            refine go_icmp_lt c0_127 (fun q => absurd q (by decide)) (fun _ => ?_)
            refine go_aload c0_130 rfl rfl ?_
            refine go_callV1 (y := x) (W := 0) (argsL := []) (st := []) c0_132 (rm_O2 l Z a0 hw h427 n0 _ a403 ha406 0 a414 d2 o2 rfl 1 a409 d1 o1 rfl P426) (P426.exa (i := 0) rfl) (t35 hw) (t36 hw) (fun _ q => notFace_of_selects (args := #[]) (mvT q (t38 hw))) (t38 hw) (t37 hw) (t2 hw) (t39 hw) (by decide) (lenOf pd6 rfl) rfl rfl (by decide) (by decide) (by decide) (by decide) rfl ?_
            rintro r436 h435 ⟨hr_r436, P434⟩
            refine go_more (k' := 4) (n' := 20) (by decide) (by decide) ?_
            refine go_pop c0_135 (XT.cat1 hr_r436) ?_
            refine go_iload c0_136 rfl ?_
            refine go_push c0_138 ?_
            refine go_icmp_lt c0_139 (fun _ => ?_) (fun q => absurd q (by decide))
            refine go_aload c0_148 rfl rfl ?_
            refine go_callV1 (y := x) (W := 0) (argsL := []) (st := []) c0_150 (rm_E l Z a0 hw h435 n0 _ a403 _ 1 P434) (P434.exa (i := 0) rfl) (t28 hw) (t29 hw) (fun _ q => notFace_of_selects (args := #[]) (mvT q (t31 hw))) (t31 hw) (t30 hw) (t2 hw) (t32 hw) (by decide) (lenOf pd5 rfl) rfl rfl (by decide) (by decide) (by decide) (by decide) rfl ?_
            rintro _ _ ⟨rfl, rfl⟩
            refine go_more (k' := 4) (n' := 20) (by decide) (by decide) ?_
            refine go_isI 0 (by decide) ?_
            refine go_iload c0_153 rfl ?_
            refine go_iload c0_155 rfl ?_
            refine go_icmp_gt c0_157 (fun _ => ?_) (fun q => absurd q (by decide))
            refine go_push c0_164 ?_
            refine go_icmp_ne c0_165 (fun q => absurd q (by decide)) (fun _ => ?_)
            refine go_push c0_168 ?_
            refine go_goto c0_169 ?_
            refine go_istore c0_173 rfl rfl ?_
            dsimp only [setl]
            refine go_iload c0_175 rfl ?_
            refine go_if_eq c0_177 (fun q => absurd q (by decide)) (fun _ => ?_)
            refine go_iload c0_180 rfl ?_
            refine go_if_eq c0_182 (fun q => absurd q (by decide)) (fun _ => ?_)
            refine go_push c0_185 ?_
            refine go_goto c0_186 ?_
            exact go_bret rfl c0_190 (by decide) (by decide) (by decide) ⟨_, rfl, rfl⟩
        · refine go_aload c0_87 rfl rfl ?_
          refine go_callV1 (y := x) (W := 0) (argsL := []) (st := []) c0_89 (rm_E l Z a0 hw h424 n0 _ a403 _ 3 P423) (P423.exa (i := 0) rfl) (t28 hw) (t29 hw) (fun _ q => notFace_of_selects (args := #[]) (mvT q (t31 hw))) (t31 hw) (t30 hw) (t2 hw) (t32 hw) (by decide) (lenOf pd5 rfl) rfl rfl (by decide) (by decide) (by decide) (by decide) rfl ?_
          rintro _ _ ⟨rfl, rfl⟩
          refine go_more (k' := 4) (n' := 20) (by decide) (by decide) ?_
          refine go_isI 0 (by decide) ?_
          refine go_iload c0_92 rfl ?_
          refine go_if_ne c0_94 (fun _ => ?_) (fun q => absurd q (by decide))
          refine go_push c0_101 ?_
          refine go_icmp_ne c0_102 (fun q => absurd q (by decide)) (fun _ => ?_)
          refine go_push c0_105 ?_
          refine go_goto c0_106 ?_
          refine go_istore c0_110 rfl rfl ?_
          dsimp only [setl]
          refine go_iload c0_112 rfl ?_
          refine go_push c0_114 ?_
          refine go_icmp_lt c0_115 (fun q => absurd q (by decide)) (fun _ => ?_)
          refine go_aload c0_118 rfl rfl ?_
          refine go_callV1 (y := x) (W := 0) (argsL := []) (st := []) c0_120 (rm_O3 l Z a0 hw h424 n0 _ a403 ha406 0 a414 d2 o2 rfl 1 a409 d1 o1 rfl 1 a409 d1 o1 rfl P423) (P423.exa (i := 0) rfl) (t35 hw) (t36 hw) (fun _ q => notFace_of_selects (args := #[]) (mvT q (t38 hw))) (t38 hw) (t37 hw) (t2 hw) (t39 hw) (by decide) (lenOf pd6 rfl) rfl rfl (by decide) (by decide) (by decide) (by decide) rfl ?_
          rintro r440 h439 ⟨hr_r440, (⟨e441, P438⟩ | ⟨e441, P438⟩)⟩
          · refine go_pop c0_123 (XT.cat1 hr_r440) ?_
            refine go_iload c0_124 rfl ?_
            refine go_push c0_126 ?_
            refine go_icmp_lt c0_127 (fun q => absurd q (by decide)) (fun _ => ?_)
            refine go_aload c0_130 rfl rfl ?_
            refine go_callV1 (y := x) (W := 0) (argsL := []) (st := []) c0_132 (rm_O2 l Z a0 hw h439 n0 _ a403 ha406 1 a409 d1 o1 rfl 1 a409 d1 o1 rfl P438) (P438.exa (i := 0) rfl) (t35 hw) (t36 hw) (fun _ q => notFace_of_selects (args := #[]) (mvT q (t38 hw))) (t38 hw) (t37 hw) (t2 hw) (t39 hw) (by decide) (lenOf pd6 rfl) rfl rfl (by decide) (by decide) (by decide) (by decide) rfl ?_
            rintro r444 h443 ⟨hr_r444, P442⟩
            refine go_more (k' := 4) (n' := 20) (by decide) (by decide) ?_
            refine go_pop c0_135 (XT.cat1 hr_r444) ?_
            refine go_iload c0_136 rfl ?_
            refine go_push c0_138 ?_
            refine go_icmp_lt c0_139 (fun _ => ?_) (fun q => absurd q (by decide))
            refine go_aload c0_148 rfl rfl ?_
            refine go_callV1 (y := x) (W := 0) (argsL := []) (st := []) c0_150 (rm_E l Z a0 hw h443 n0 _ a403 _ 1 P442) (P442.exa (i := 0) rfl) (t28 hw) (t29 hw) (fun _ q => notFace_of_selects (args := #[]) (mvT q (t31 hw))) (t31 hw) (t30 hw) (t2 hw) (t32 hw) (by decide) (lenOf pd5 rfl) rfl rfl (by decide) (by decide) (by decide) (by decide) rfl ?_
            rintro _ _ ⟨rfl, rfl⟩
            refine go_more (k' := 4) (n' := 20) (by decide) (by decide) ?_
            refine go_isI 0 (by decide) ?_
            refine go_iload c0_153 rfl ?_
            refine go_iload c0_155 rfl ?_
            refine go_icmp_gt c0_157 (fun _ => ?_) (fun q => absurd q (by decide))
            refine go_push c0_164 ?_
            refine go_icmp_ne c0_165 (fun q => absurd q (by decide)) (fun _ => ?_)
            refine go_push c0_168 ?_
            refine go_goto c0_169 ?_
            refine go_istore c0_173 rfl rfl ?_
            dsimp only [setl]
            refine go_iload c0_175 rfl ?_
            refine go_if_eq c0_177 (fun q => absurd q (by decide)) (fun _ => ?_)
            refine go_iload c0_180 rfl ?_
            refine go_if_eq c0_182 (fun q => absurd q (by decide)) (fun _ => ?_)
            refine go_push c0_185 ?_
            refine go_goto c0_186 ?_
            exact go_bret rfl c0_190 (by decide) (by decide) (by decide) ⟨_, rfl, rfl⟩
          · refine go_pop c0_123 (XT.cat1 hr_r440) ?_
            refine go_iload c0_124 rfl ?_
            refine go_push c0_126 ?_
            refine go_icmp_lt c0_127 (fun q => absurd q (by decide)) (fun _ => ?_)
            refine go_aload c0_130 rfl rfl ?_
            refine go_callV1 (y := x) (W := 0) (argsL := []) (st := []) c0_132 (rm_O2 l Z a0 hw h439 n0 _ a403 ha406 1 a409 d1 o1 rfl 1 a409 d1 o1 rfl P438) (P438.exa (i := 0) rfl) (t35 hw) (t36 hw) (fun _ q => notFace_of_selects (args := #[]) (mvT q (t38 hw))) (t38 hw) (t37 hw) (t2 hw) (t39 hw) (by decide) (lenOf pd6 rfl) rfl rfl (by decide) (by decide) (by decide) (by decide) rfl ?_
            rintro r448 h447 ⟨hr_r448, P446⟩
            refine go_more (k' := 4) (n' := 20) (by decide) (by decide) ?_
            refine go_pop c0_135 (XT.cat1 hr_r448) ?_
            refine go_iload c0_136 rfl ?_
            refine go_push c0_138 ?_
            refine go_icmp_lt c0_139 (fun _ => ?_) (fun q => absurd q (by decide))
            refine go_aload c0_148 rfl rfl ?_
            refine go_callV1 (y := x) (W := 0) (argsL := []) (st := []) c0_150 (rm_E l Z a0 hw h447 n0 _ a403 _ 1 P446) (P446.exa (i := 0) rfl) (t28 hw) (t29 hw) (fun _ q => notFace_of_selects (args := #[]) (mvT q (t31 hw))) (t31 hw) (t30 hw) (t2 hw) (t32 hw) (by decide) (lenOf pd5 rfl) rfl rfl (by decide) (by decide) (by decide) (by decide) rfl ?_
            rintro _ _ ⟨rfl, rfl⟩
            refine go_more (k' := 4) (n' := 20) (by decide) (by decide) ?_
            refine go_isI 0 (by decide) ?_
            refine go_iload c0_153 rfl ?_
            refine go_iload c0_155 rfl ?_
            refine go_icmp_gt c0_157 (fun _ => ?_) (fun q => absurd q (by decide))
            refine go_push c0_164 ?_
            refine go_icmp_ne c0_165 (fun q => absurd q (by decide)) (fun _ => ?_)
            refine go_push c0_168 ?_
            refine go_goto c0_169 ?_
            refine go_istore c0_173 rfl rfl ?_
            dsimp only [setl]
            refine go_iload c0_175 rfl ?_
            refine go_if_eq c0_177 (fun q => absurd q (by decide)) (fun _ => ?_)
            refine go_iload c0_180 rfl ?_
            refine go_if_eq c0_182 (fun q => absurd q (by decide)) (fun _ => ?_)
            refine go_push c0_185 ?_
            refine go_goto c0_186 ?_
            exact go_bret rfl c0_190 (by decide) (by decide) (by decide) ⟨_, rfl, rfl⟩
      · refine go_iload c0_74 rfl ?_
        refine go_push c0_76 ?_
        refine go_icmp_lt c0_77 (fun q => absurd q (by decide)) (fun _ => ?_)
        refine go_aload c0_80 rfl rfl ?_
        refine go_aload c0_82 rfl rfl ?_
        refine go_callV0 (y := x) (W := 0) (argsL := [(.ref a409)]) (st := []) c0_84 (rm_A2 l Z a0 hw h421 n0 _ a403 ha406 a409 1 d1 o1 rfl 1 a409 d1 o1 rfl a414 P420) (P420.exa (i := 0) rfl) (t40 hw) (t41 hw) (fun _ q => notFace_of_selects (args := #[]) (mvT q (t43 hw))) (t43 hw) (t42 hw) (t2 hw) (t44 hw) (by decide) (lenOf pd7 rfl) rfl rfl (by decide) (by decide) (by decide) (by decide) rfl ?_
        rintro h451 (⟨f452, P450⟩ | ⟨f452, P450⟩)
        · refine go_aload c0_87 rfl rfl ?_
          refine go_callV1 (y := x) (W := 0) (argsL := []) (st := []) c0_89 (rm_E l Z a0 hw h451 n0 _ a403 _ 3 P450) (P450.exa (i := 0) rfl) (t28 hw) (t29 hw) (fun _ q => notFace_of_selects (args := #[]) (mvT q (t31 hw))) (t31 hw) (t30 hw) (t2 hw) (t32 hw) (by decide) (lenOf pd5 rfl) rfl rfl (by decide) (by decide) (by decide) (by decide) rfl ?_
          rintro _ _ ⟨rfl, rfl⟩
          refine go_more (k' := 4) (n' := 20) (by decide) (by decide) ?_
          refine go_isI 0 (by decide) ?_
          refine go_iload c0_92 rfl ?_
          refine go_if_ne c0_94 (fun _ => ?_) (fun q => absurd q (by decide))
          refine go_push c0_101 ?_
          refine go_icmp_ne c0_102 (fun q => absurd q (by decide)) (fun _ => ?_)
          refine go_push c0_105 ?_
          refine go_goto c0_106 ?_
          refine go_istore c0_110 rfl rfl ?_
          dsimp only [setl]
          refine go_iload c0_112 rfl ?_
          refine go_push c0_114 ?_
          refine go_icmp_lt c0_115 (fun q => absurd q (by decide)) (fun _ => ?_)
          refine go_aload c0_118 rfl rfl ?_
          refine go_callV1 (y := x) (W := 0) (argsL := []) (st := []) c0_120 (rm_O3 l Z a0 hw h451 n0 _ a403 ha406 1 a409 d1 o1 rfl 0 a414 d2 o2 rfl 1 a409 d1 o1 rfl P450) (P450.exa (i := 0) rfl) (t35 hw) (t36 hw) (fun _ q => notFace_of_selects (args := #[]) (mvT q (t38 hw))) (t38 hw) (t37 hw) (t2 hw) (t39 hw) (by decide) (lenOf pd6 rfl) rfl rfl (by decide) (by decide) (by decide) (by decide) rfl ?_
          rintro r455 h454 ⟨hr_r455, (⟨e456, P453⟩ | ⟨e456, P453⟩)⟩
          · refine go_pop c0_123 (XT.cat1 hr_r455) ?_
            refine go_iload c0_124 rfl ?_
            refine go_push c0_126 ?_
            refine go_icmp_lt c0_127 (fun q => absurd q (by decide)) (fun _ => ?_)
            refine go_aload c0_130 rfl rfl ?_
            refine go_callV1 (y := x) (W := 0) (argsL := []) (st := []) c0_132 (rm_O2 l Z a0 hw h454 n0 _ a403 ha406 0 a414 d2 o2 rfl 1 a409 d1 o1 rfl P453) (P453.exa (i := 0) rfl) (t35 hw) (t36 hw) (fun _ q => notFace_of_selects (args := #[]) (mvT q (t38 hw))) (t38 hw) (t37 hw) (t2 hw) (t39 hw) (by decide) (lenOf pd6 rfl) rfl rfl (by decide) (by decide) (by decide) (by decide) rfl ?_
            rintro r459 h458 ⟨hr_r459, P457⟩
            refine go_more (k' := 4) (n' := 20) (by decide) (by decide) ?_
            refine go_pop c0_135 (XT.cat1 hr_r459) ?_
            refine go_iload c0_136 rfl ?_
            refine go_push c0_138 ?_
            refine go_icmp_lt c0_139 (fun _ => ?_) (fun q => absurd q (by decide))
            refine go_aload c0_148 rfl rfl ?_
            refine go_callV1 (y := x) (W := 0) (argsL := []) (st := []) c0_150 (rm_E l Z a0 hw h458 n0 _ a403 _ 1 P457) (P457.exa (i := 0) rfl) (t28 hw) (t29 hw) (fun _ q => notFace_of_selects (args := #[]) (mvT q (t31 hw))) (t31 hw) (t30 hw) (t2 hw) (t32 hw) (by decide) (lenOf pd5 rfl) rfl rfl (by decide) (by decide) (by decide) (by decide) rfl ?_
            rintro _ _ ⟨rfl, rfl⟩
            refine go_more (k' := 4) (n' := 20) (by decide) (by decide) ?_
            refine go_isI 0 (by decide) ?_
            refine go_iload c0_153 rfl ?_
            refine go_iload c0_155 rfl ?_
            refine go_icmp_gt c0_157 (fun _ => ?_) (fun q => absurd q (by decide))
            refine go_push c0_164 ?_
            refine go_icmp_ne c0_165 (fun q => absurd q (by decide)) (fun _ => ?_)
            refine go_push c0_168 ?_
            refine go_goto c0_169 ?_
            refine go_istore c0_173 rfl rfl ?_
            dsimp only [setl]
            refine go_iload c0_175 rfl ?_
            refine go_if_eq c0_177 (fun q => absurd q (by decide)) (fun _ => ?_)
            refine go_iload c0_180 rfl ?_
            refine go_if_eq c0_182 (fun q => absurd q (by decide)) (fun _ => ?_)
            refine go_push c0_185 ?_
            refine go_goto c0_186 ?_
            exact go_bret rfl c0_190 (by decide) (by decide) (by decide) ⟨_, rfl, rfl⟩
          · refine go_pop c0_123 (XT.cat1 hr_r455) ?_
            refine go_iload c0_124 rfl ?_
            refine go_push c0_126 ?_
            refine go_icmp_lt c0_127 (fun q => absurd q (by decide)) (fun _ => ?_)
            refine go_aload c0_130 rfl rfl ?_
            refine go_callV1 (y := x) (W := 0) (argsL := []) (st := []) c0_132 (rm_O2 l Z a0 hw h454 n0 _ a403 ha406 1 a409 d1 o1 rfl 0 a414 d2 o2 rfl P453) (P453.exa (i := 0) rfl) (t35 hw) (t36 hw) (fun _ q => notFace_of_selects (args := #[]) (mvT q (t38 hw))) (t38 hw) (t37 hw) (t2 hw) (t39 hw) (by decide) (lenOf pd6 rfl) rfl rfl (by decide) (by decide) (by decide) (by decide) rfl ?_
            rintro r463 h462 ⟨hr_r463, P461⟩
            refine go_more (k' := 4) (n' := 20) (by decide) (by decide) ?_
            refine go_pop c0_135 (XT.cat1 hr_r463) ?_
            refine go_iload c0_136 rfl ?_
            refine go_push c0_138 ?_
            refine go_icmp_lt c0_139 (fun _ => ?_) (fun q => absurd q (by decide))
            refine go_aload c0_148 rfl rfl ?_
            refine go_callV1 (y := x) (W := 0) (argsL := []) (st := []) c0_150 (rm_E l Z a0 hw h462 n0 _ a403 _ 1 P461) (P461.exa (i := 0) rfl) (t28 hw) (t29 hw) (fun _ q => notFace_of_selects (args := #[]) (mvT q (t31 hw))) (t31 hw) (t30 hw) (t2 hw) (t32 hw) (by decide) (lenOf pd5 rfl) rfl rfl (by decide) (by decide) (by decide) (by decide) rfl ?_
            rintro _ _ ⟨rfl, rfl⟩
            refine go_more (k' := 4) (n' := 20) (by decide) (by decide) ?_
            refine go_isI 0 (by decide) ?_
            refine go_iload c0_153 rfl ?_
            refine go_iload c0_155 rfl ?_
            refine go_icmp_gt c0_157 (fun _ => ?_) (fun q => absurd q (by decide))
            refine go_push c0_164 ?_
            refine go_icmp_ne c0_165 (fun q => absurd q (by decide)) (fun _ => ?_)
            refine go_push c0_168 ?_
            refine go_goto c0_169 ?_
            refine go_istore c0_173 rfl rfl ?_
            dsimp only [setl]
            refine go_iload c0_175 rfl ?_
            refine go_if_eq c0_177 (fun q => absurd q (by decide)) (fun _ => ?_)
            refine go_iload c0_180 rfl ?_
            refine go_if_eq c0_182 (fun q => absurd q (by decide)) (fun _ => ?_)
            refine go_push c0_185 ?_
            refine go_goto c0_186 ?_
            exact go_bret rfl c0_190 (by decide) (by decide) (by decide) ⟨_, rfl, rfl⟩
        · refine go_aload c0_87 rfl rfl ?_
          refine go_callV1 (y := x) (W := 0) (argsL := []) (st := []) c0_89 (rm_E l Z a0 hw h451 n0 _ a403 _ 3 P450) (P450.exa (i := 0) rfl) (t28 hw) (t29 hw) (fun _ q => notFace_of_selects (args := #[]) (mvT q (t31 hw))) (t31 hw) (t30 hw) (t2 hw) (t32 hw) (by decide) (lenOf pd5 rfl) rfl rfl (by decide) (by decide) (by decide) (by decide) rfl ?_
          rintro _ _ ⟨rfl, rfl⟩
          refine go_more (k' := 4) (n' := 20) (by decide) (by decide) ?_
          refine go_isI 0 (by decide) ?_
          refine go_iload c0_92 rfl ?_
          refine go_if_ne c0_94 (fun _ => ?_) (fun q => absurd q (by decide))
          refine go_push c0_101 ?_
          refine go_icmp_ne c0_102 (fun q => absurd q (by decide)) (fun _ => ?_)
          refine go_push c0_105 ?_
          refine go_goto c0_106 ?_
          refine go_istore c0_110 rfl rfl ?_
          dsimp only [setl]
          refine go_iload c0_112 rfl ?_
          refine go_push c0_114 ?_
          refine go_icmp_lt c0_115 (fun q => absurd q (by decide)) (fun _ => ?_)
          refine go_aload c0_118 rfl rfl ?_
          refine go_callV1 (y := x) (W := 0) (argsL := []) (st := []) c0_120 (rm_O3 l Z a0 hw h451 n0 _ a403 ha406 1 a409 d1 o1 rfl 0 a414 d2 o2 rfl 1 a409 d1 o1 rfl P450) (P450.exa (i := 0) rfl) (t35 hw) (t36 hw) (fun _ q => notFace_of_selects (args := #[]) (mvT q (t38 hw))) (t38 hw) (t37 hw) (t2 hw) (t39 hw) (by decide) (lenOf pd6 rfl) rfl rfl (by decide) (by decide) (by decide) (by decide) rfl ?_
          rintro r467 h466 ⟨hr_r467, (⟨e468, P465⟩ | ⟨e468, P465⟩)⟩
          · refine go_pop c0_123 (XT.cat1 hr_r467) ?_
            refine go_iload c0_124 rfl ?_
            refine go_push c0_126 ?_
            refine go_icmp_lt c0_127 (fun q => absurd q (by decide)) (fun _ => ?_)
            refine go_aload c0_130 rfl rfl ?_
            refine go_callV1 (y := x) (W := 0) (argsL := []) (st := []) c0_132 (rm_O2 l Z a0 hw h466 n0 _ a403 ha406 0 a414 d2 o2 rfl 1 a409 d1 o1 rfl P465) (P465.exa (i := 0) rfl) (t35 hw) (t36 hw) (fun _ q => notFace_of_selects (args := #[]) (mvT q (t38 hw))) (t38 hw) (t37 hw) (t2 hw) (t39 hw) (by decide) (lenOf pd6 rfl) rfl rfl (by decide) (by decide) (by decide) (by decide) rfl ?_
            rintro r471 h470 ⟨hr_r471, P469⟩
            refine go_more (k' := 4) (n' := 20) (by decide) (by decide) ?_
            refine go_pop c0_135 (XT.cat1 hr_r471) ?_
            refine go_iload c0_136 rfl ?_
            refine go_push c0_138 ?_
            refine go_icmp_lt c0_139 (fun _ => ?_) (fun q => absurd q (by decide))
            refine go_aload c0_148 rfl rfl ?_
            refine go_callV1 (y := x) (W := 0) (argsL := []) (st := []) c0_150 (rm_E l Z a0 hw h470 n0 _ a403 _ 1 P469) (P469.exa (i := 0) rfl) (t28 hw) (t29 hw) (fun _ q => notFace_of_selects (args := #[]) (mvT q (t31 hw))) (t31 hw) (t30 hw) (t2 hw) (t32 hw) (by decide) (lenOf pd5 rfl) rfl rfl (by decide) (by decide) (by decide) (by decide) rfl ?_
            rintro _ _ ⟨rfl, rfl⟩
            refine go_more (k' := 4) (n' := 20) (by decide) (by decide) ?_
            refine go_isI 0 (by decide) ?_
            refine go_iload c0_153 rfl ?_
            refine go_iload c0_155 rfl ?_
            refine go_icmp_gt c0_157 (fun _ => ?_) (fun q => absurd q (by decide))
            refine go_push c0_164 ?_
            refine go_icmp_ne c0_165 (fun q => absurd q (by decide)) (fun _ => ?_)
            refine go_push c0_168 ?_
            refine go_goto c0_169 ?_
            refine go_istore c0_173 rfl rfl ?_
            dsimp only [setl]
            refine go_iload c0_175 rfl ?_
            refine go_if_eq c0_177 (fun q => absurd q (by decide)) (fun _ => ?_)
            refine go_iload c0_180 rfl ?_
            refine go_if_eq c0_182 (fun q => absurd q (by decide)) (fun _ => ?_)
            refine go_push c0_185 ?_
            refine go_goto c0_186 ?_
            exact go_bret rfl c0_190 (by decide) (by decide) (by decide) ⟨_, rfl, rfl⟩
          · refine go_pop c0_123 (XT.cat1 hr_r467) ?_
            refine go_iload c0_124 rfl ?_
            refine go_push c0_126 ?_
            refine go_icmp_lt c0_127 (fun q => absurd q (by decide)) (fun _ => ?_)
            refine go_aload c0_130 rfl rfl ?_
            refine go_callV1 (y := x) (W := 0) (argsL := []) (st := []) c0_132 (rm_O2 l Z a0 hw h466 n0 _ a403 ha406 1 a409 d1 o1 rfl 0 a414 d2 o2 rfl P465) (P465.exa (i := 0) rfl) (t35 hw) (t36 hw) (fun _ q => notFace_of_selects (args := #[]) (mvT q (t38 hw))) (t38 hw) (t37 hw) (t2 hw) (t39 hw) (by decide) (lenOf pd6 rfl) rfl rfl (by decide) (by decide) (by decide) (by decide) rfl ?_
            rintro r475 h474 ⟨hr_r475, P473⟩
            refine go_more (k' := 4) (n' := 20) (by decide) (by decide) ?_
            refine go_pop c0_135 (XT.cat1 hr_r475) ?_
            refine go_iload c0_136 rfl ?_
            refine go_push c0_138 ?_
            refine go_icmp_lt c0_139 (fun _ => ?_) (fun q => absurd q (by decide))
            refine go_aload c0_148 rfl rfl ?_
            refine go_callV1 (y := x) (W := 0) (argsL := []) (st := []) c0_150 (rm_E l Z a0 hw h474 n0 _ a403 _ 1 P473) (P473.exa (i := 0) rfl) (t28 hw) (t29 hw) (fun _ q => notFace_of_selects (args := #[]) (mvT q (t31 hw))) (t31 hw) (t30 hw) (t2 hw) (t32 hw) (by decide) (lenOf pd5 rfl) rfl rfl (by decide) (by decide) (by decide) (by decide) rfl ?_
            rintro _ _ ⟨rfl, rfl⟩
            refine go_more (k' := 4) (n' := 20) (by decide) (by decide) ?_
            refine go_isI 0 (by decide) ?_
            refine go_iload c0_153 rfl ?_
            refine go_iload c0_155 rfl ?_
            refine go_icmp_gt c0_157 (fun _ => ?_) (fun q => absurd q (by decide))
            refine go_push c0_164 ?_
            refine go_icmp_ne c0_165 (fun q => absurd q (by decide)) (fun _ => ?_)
            refine go_push c0_168 ?_
            refine go_goto c0_169 ?_
            refine go_istore c0_173 rfl rfl ?_
            dsimp only [setl]
            refine go_iload c0_175 rfl ?_
            refine go_if_eq c0_177 (fun q => absurd q (by decide)) (fun _ => ?_)
            refine go_iload c0_180 rfl ?_
            refine go_if_eq c0_182 (fun q => absurd q (by decide)) (fun _ => ?_)
            refine go_push c0_185 ?_
            refine go_goto c0_186 ?_
            exact go_bret rfl c0_190 (by decide) (by decide) (by decide) ⟨_, rfl, rfl⟩
    · refine go_isI 3 hk ?_
      refine go_istore c0_8 rfl rfl ?_
      dsimp only [setl]
      refine go_new (y := x) P0 [(("com/example/umbrella_state/umbrellastate/runtime/DelayedDeliveries", "heap", "[Lcom/example/umbrella_state/umbrellastate/runtime/Delivery;"), .null), (("com/example/umbrella_state/umbrellastate/runtime/DelayedDeliveries", "size", "I"), (.int 0))] c0_10 (t0 hw) (t1 hw) (t2 hw) (⟨⟨Or.inl (t12 hw), (.array (.object "com/example/umbrella_state/umbrellastate/runtime/Delivery")), by decide, rfl⟩, ⟨⟨Or.inl (t34 hw), .int, by decide, rfl⟩, trivial⟩⟩) (by decide) (by decide) (by decide) ?_
      intro h477 a479 P478
      refine go_more (k' := 1) (n' := 2) (by decide) (by decide) ?_
      refine go_dup c0_13 rfl ?_
      refine go_callN0 (y := x) (W := 1) (argsL := []) (st := [(.ref a479)]) c0_14 rfl rfl (rm_Q l Z a0 hw h477 n0 _ a479 P478) (t3 hw) (t4 hw) (t2 hw) (t5 hw) (by decide) (lenOf pd3 rfl) rfl rfl (by decide) (by decide) (by decide) (by decide) rfl ?_
      rintro h481 ⟨ha482, P480⟩
      refine go_more (k' := 2) (n' := 10) (by decide) (by decide) ?_
      refine go_astore c0_17 rfl rfl rfl ?_
      dsimp only [setl]
      refine go_new (y := x) P480 [(("com/example/umbrella_state/umbrellastate/runtime/Delivery", "handler", "Ljava/util/function/Consumer;"), .null), (("com/example/umbrella_state/umbrellastate/runtime/Delivery", "message", "Lcom/example/umbrella_state/umbrellastate/model/Message;"), .null), (("com/example/umbrella_state/umbrellastate/runtime/Delivery", "due", "J"), (.long 0)), (("com/example/umbrella_state/umbrellastate/runtime/Delivery", "order", "J"), (.long 0))] c0_19 (t13 hw) (t14 hw) (t15 hw) (⟨⟨Or.inl (t21 hw), (.object "java/util/function/Consumer"), by decide, rfl⟩, ⟨⟨Or.inl (t23 hw), (.object "com/example/umbrella_state/umbrellastate/model/Message"), by decide, rfl⟩, ⟨⟨Or.inr (t25 hw), .long, by decide, rfl⟩, ⟨⟨Or.inr (t27 hw), .long, by decide, rfl⟩, trivial⟩⟩⟩⟩) (by decide) (by decide) (by decide) ?_
      intro h483 a485 P484
      refine go_more (k' := 3) (n' := 15) (by decide) (by decide) ?_
      refine go_dup c0_22 rfl ?_
      refine go_null c0_23 ?_
      refine go_null c0_24 ?_
      refine go_lload c0_25 rfl ?_
      refine go_lload c0_26 rfl ?_
      refine go_callN0 (y := x) (W := 1) (argsL := [.null, .null, (.long d1), (.long o1)]) (st := [(.ref a485)]) c0_28 rfl rfl (rm_D l Z a0 hw h483 n0 _ a485 d1 o1 P484) (t16 hw) (t17 hw) (t15 hw) (t18 hw) (by decide) (lenOf pd4 rfl) rfl rfl (by decide) (by decide) (by decide) (by decide) rfl ?_
      intro h487 P486
      refine go_more (k' := 3) (n' := 15) (by decide) (by decide) ?_
      refine go_astore c0_31 rfl rfl rfl ?_
      dsimp only [setl]
      refine go_new (y := x) P486 [(("com/example/umbrella_state/umbrellastate/runtime/Delivery", "handler", "Ljava/util/function/Consumer;"), .null), (("com/example/umbrella_state/umbrellastate/runtime/Delivery", "message", "Lcom/example/umbrella_state/umbrellastate/model/Message;"), .null), (("com/example/umbrella_state/umbrellastate/runtime/Delivery", "due", "J"), (.long 0)), (("com/example/umbrella_state/umbrellastate/runtime/Delivery", "order", "J"), (.long 0))] c0_33 (t13 hw) (t14 hw) (t15 hw) (⟨⟨Or.inl (t21 hw), (.object "java/util/function/Consumer"), by decide, rfl⟩, ⟨⟨Or.inl (t23 hw), (.object "com/example/umbrella_state/umbrellastate/model/Message"), by decide, rfl⟩, ⟨⟨Or.inr (t25 hw), .long, by decide, rfl⟩, ⟨⟨Or.inr (t27 hw), .long, by decide, rfl⟩, trivial⟩⟩⟩⟩) (by decide) (by decide) (by decide) ?_
      intro h488 a490 P489
      refine go_more (k' := 4) (n' := 20) (by decide) (by decide) ?_
      refine go_dup c0_36 rfl ?_
      refine go_null c0_37 ?_
      refine go_null c0_38 ?_
      refine go_lload c0_39 rfl ?_
      refine go_lload c0_41 rfl ?_
      refine go_callN0 (y := x) (W := 1) (argsL := [.null, .null, (.long d2), (.long o2)]) (st := [(.ref a490)]) c0_43 rfl rfl (rm_D l Z a0 hw h488 n0 _ a490 d2 o2 P489) (t16 hw) (t17 hw) (t15 hw) (t18 hw) (by decide) (lenOf pd4 rfl) rfl rfl (by decide) (by decide) (by decide) (by decide) rfl ?_
      intro h492 P491
      refine go_more (k' := 4) (n' := 20) (by decide) (by decide) ?_
      have P493 : Hp Z n0 h492 ([(a479, (.inl ("com/example/umbrella_state/umbrellastate/runtime/DelayedDeliveries", [(("com/example/umbrella_state/umbrellastate/runtime/DelayedDeliveries", "heap", "[Lcom/example/umbrella_state/umbrellastate/runtime/Delivery;"), (.ref ha482)), (("com/example/umbrella_state/umbrellastate/runtime/DelayedDeliveries", "size", "I"), (.int 0))]))), (ha482, (.inr ((.object "com/example/umbrella_state/umbrellastate/runtime/Delivery"), "[Lcom/example/umbrella_state/umbrellastate/runtime/Delivery;", [.null, .null, .null, .null, .null, .null, .null, .null]))), (a490, (.inl ("com/example/umbrella_state/umbrellastate/runtime/Delivery", [(("com/example/umbrella_state/umbrellastate/runtime/Delivery", "handler", "Ljava/util/function/Consumer;"), .null), (("com/example/umbrella_state/umbrellastate/runtime/Delivery", "message", "Lcom/example/umbrella_state/umbrellastate/model/Message;"), .null), (("com/example/umbrella_state/umbrellastate/runtime/Delivery", "due", "J"), (.long d2)), (("com/example/umbrella_state/umbrellastate/runtime/Delivery", "order", "J"), (.long o2))]))), (a485, (.inl ("com/example/umbrella_state/umbrellastate/runtime/Delivery", [(("com/example/umbrella_state/umbrellastate/runtime/Delivery", "handler", "Ljava/util/function/Consumer;"), .null), (("com/example/umbrella_state/umbrellastate/runtime/Delivery", "message", "Lcom/example/umbrella_state/umbrellastate/model/Message;"), .null), (("com/example/umbrella_state/umbrellastate/runtime/Delivery", "due", "J"), (.long d1)), (("com/example/umbrella_state/umbrellastate/runtime/Delivery", "order", "J"), (.long o1))])))]) := ((P491.front 3).front 3)
      refine go_astore c0_46 rfl rfl rfl ?_
      dsimp only [setl]
      refine go_iload c0_48 rfl ?_
      refine go_push c0_50 ?_
      refine go_icmp_lt c0_51 (fun q => absurd q (by decide)) (fun _ => ?_)
      refine go_aload c0_54 rfl rfl ?_
      refine go_aload c0_56 rfl rfl ?_
      refine go_callV0 (y := x) (W := 0) (argsL := [(.ref a485)]) (st := []) c0_58 (rm_A0 l Z a0 hw h492 n0 _ a479 ha482 a485 1 d1 o1 rfl P493) (P493.exa (i := 0) rfl) (t40 hw) (t41 hw) (fun _ q => notFace_of_selects (args := #[]) (mvT q (t43 hw))) (t43 hw) (t42 hw) (t2 hw) (t44 hw) (by decide) (lenOf pd7 rfl) rfl rfl (by decide) (by decide) (by decide) (by decide) rfl ?_
      intro h495 P494
      refine go_more (k' := 4) (n' := 20) (by decide) (by decide) ?_
      refine go_iload c0_61 rfl ?_
      refine go_push c0_63 ?_
      refine go_icmp_lt c0_64 (fun q => absurd q (by decide)) (fun _ => ?_)
      refine go_aload c0_67 rfl rfl ?_
      refine go_aload c0_69 rfl rfl ?_
      refine go_callV0 (y := x) (W := 0) (argsL := [(.ref a490)]) (st := []) c0_71 (rm_A1 l Z a0 hw h495 n0 _ a479 ha482 a490 0 d2 o2 rfl 1 a485 d1 o1 rfl P494) (P494.exa (i := 0) rfl) (t40 hw) (t41 hw) (fun _ q => notFace_of_selects (args := #[]) (mvT q (t43 hw))) (t43 hw) (t42 hw) (t2 hw) (t44 hw) (by decide) (lenOf pd7 rfl) rfl rfl (by decide) (by decide) (by decide) (by decide) rfl ?_
      rintro h497 (⟨f498, P496⟩ | ⟨f498, P496⟩)
      · refine go_iload c0_74 rfl ?_
        refine go_push c0_76 ?_
        refine go_icmp_lt c0_77 (fun q => absurd q (by decide)) (fun _ => ?_)
        refine go_aload c0_80 rfl rfl ?_
        refine go_aload c0_82 rfl rfl ?_
        refine go_callV0 (y := x) (W := 0) (argsL := [(.ref a485)]) (st := []) c0_84 (rm_A2 l Z a0 hw h497 n0 _ a479 ha482 a485 1 d1 o1 rfl 0 a490 d2 o2 rfl a485 P496) (P496.exa (i := 0) rfl) (t40 hw) (t41 hw) (fun _ q => notFace_of_selects (args := #[]) (mvT q (t43 hw))) (t43 hw) (t42 hw) (t2 hw) (t44 hw) (by decide) (lenOf pd7 rfl) rfl rfl (by decide) (by decide) (by decide) (by decide) rfl ?_
        rintro h500 (⟨f501, P499⟩ | ⟨f501, P499⟩)
        · refine go_aload c0_87 rfl rfl ?_
          refine go_callV1 (y := x) (W := 0) (argsL := []) (st := []) c0_89 (rm_E l Z a0 hw h500 n0 _ a479 _ 3 P499) (P499.exa (i := 0) rfl) (t28 hw) (t29 hw) (fun _ q => notFace_of_selects (args := #[]) (mvT q (t31 hw))) (t31 hw) (t30 hw) (t2 hw) (t32 hw) (by decide) (lenOf pd5 rfl) rfl rfl (by decide) (by decide) (by decide) (by decide) rfl ?_
          rintro _ _ ⟨rfl, rfl⟩
          refine go_more (k' := 4) (n' := 20) (by decide) (by decide) ?_
          refine go_isI 0 (by decide) ?_
          refine go_iload c0_92 rfl ?_
          refine go_if_ne c0_94 (fun _ => ?_) (fun q => absurd q (by decide))
          refine go_push c0_101 ?_
          refine go_icmp_ne c0_102 (fun q => absurd q (by decide)) (fun _ => ?_)
          refine go_push c0_105 ?_
          refine go_goto c0_106 ?_
          refine go_istore c0_110 rfl rfl ?_
          dsimp only [setl]
          refine go_iload c0_112 rfl ?_
          refine go_push c0_114 ?_
          refine go_icmp_lt c0_115 (fun q => absurd q (by decide)) (fun _ => ?_)
          refine go_aload c0_118 rfl rfl ?_
          refine go_callV1 (y := x) (W := 0) (argsL := []) (st := []) c0_120 (rm_O3 l Z a0 hw h500 n0 _ a479 ha482 1 a485 d1 o1 rfl 1 a485 d1 o1 rfl 0 a490 d2 o2 rfl P499) (P499.exa (i := 0) rfl) (t35 hw) (t36 hw) (fun _ q => notFace_of_selects (args := #[]) (mvT q (t38 hw))) (t38 hw) (t37 hw) (t2 hw) (t39 hw) (by decide) (lenOf pd6 rfl) rfl rfl (by decide) (by decide) (by decide) (by decide) rfl ?_
          rintro r504 h503 ⟨hr_r504, (⟨e505, P502⟩ | ⟨e505, P502⟩)⟩
          · refine go_pop c0_123 (XT.cat1 hr_r504) ?_
            refine go_iload c0_124 rfl ?_
            refine go_push c0_126 ?_
            refine go_icmp_lt c0_127 (fun q => absurd q (by decide)) (fun _ => ?_)
            refine go_aload c0_130 rfl rfl ?_
            refine go_callV1 (y := x) (W := 0) (argsL := []) (st := []) c0_132 (rm_O2 l Z a0 hw h503 n0 _ a479 ha482 1 a485 d1 o1 rfl 0 a490 d2 o2 rfl P502) (P502.exa (i := 0) rfl) (t35 hw) (t36 hw) (fun _ q => notFace_of_selects (args := #[]) (mvT q (t38 hw))) (t38 hw) (t37 hw) (t2 hw) (t39 hw) (by decide) (lenOf pd6 rfl) rfl rfl (by decide) (by decide) (by decide) (by decide) rfl ?_
            rintro r508 h507 ⟨hr_r508, P506⟩
            refine go_more (k' := 4) (n' := 20) (by decide) (by decide) ?_
            refine go_pop c0_135 (XT.cat1 hr_r508) ?_
            refine go_iload c0_136 rfl ?_
            refine go_push c0_138 ?_
            refine go_icmp_lt c0_139 (fun q => absurd q (by decide)) (fun _ => ?_)
            refine go_aload c0_142 rfl rfl ?_
            refine go_callV1 (y := x) (W := 0) (argsL := []) (st := []) c0_144 (rm_O1 l Z a0 hw h507 n0 _ a479 ha482 0 a490 d2 o2 rfl P506) (P506.exa (i := 0) rfl) (t35 hw) (t36 hw) (fun _ q => notFace_of_selects (args := #[]) (mvT q (t38 hw))) (t38 hw) (t37 hw) (t2 hw) (t39 hw) (by decide) (lenOf pd6 rfl) rfl rfl (by decide) (by decide) (by decide) (by decide) rfl ?_
            rintro r512 h511 ⟨hr_r512, P510⟩
            refine go_more (k' := 4) (n' := 20) (by decide) (by decide) ?_
            refine go_pop c0_147 (XT.cat1 hr_r512) ?_
            refine go_aload c0_148 rfl rfl ?_
            refine go_callV1 (y := x) (W := 0) (argsL := []) (st := []) c0_150 (rm_E l Z a0 hw h511 n0 _ a479 _ 0 P510) (P510.exa (i := 0) rfl) (t28 hw) (t29 hw) (fun _ q => notFace_of_selects (args := #[]) (mvT q (t31 hw))) (t31 hw) (t30 hw) (t2 hw) (t32 hw) (by decide) (lenOf pd5 rfl) rfl rfl (by decide) (by decide) (by decide) (by decide) rfl ?_
            rintro _ _ ⟨rfl, rfl⟩
            refine go_more (k' := 4) (n' := 20) (by decide) (by decide) ?_
            refine go_isI 1 (by decide) ?_
            refine go_iload c0_153 rfl ?_
            refine go_iload c0_155 rfl ?_
            refine go_icmp_gt c0_157 (fun q => absurd q (by decide)) (fun _ => ?_)
            refine go_push c0_160 ?_
            refine go_goto c0_161 ?_
            refine go_icmp_ne c0_165 (fun q => absurd q (by decide)) (fun _ => ?_)
            refine go_push c0_168 ?_
            refine go_goto c0_169 ?_
            refine go_istore c0_173 rfl rfl ?_
            dsimp only [setl]
            refine go_iload c0_175 rfl ?_
            refine go_if_eq c0_177 (fun q => absurd q (by decide)) (fun _ => ?_)
            refine go_iload c0_180 rfl ?_
            refine go_if_eq c0_182 (fun q => absurd q (by decide)) (fun _ => ?_)
            refine go_push c0_185 ?_
            refine go_goto c0_186 ?_
            exact go_bret rfl c0_190 (by decide) (by decide) (by decide) ⟨_, rfl, rfl⟩
          · refine go_pop c0_123 (XT.cat1 hr_r504) ?_
            refine go_iload c0_124 rfl ?_
            refine go_push c0_126 ?_
            refine go_icmp_lt c0_127 (fun q => absurd q (by decide)) (fun _ => ?_)
            refine go_aload c0_130 rfl rfl ?_
            refine go_callV1 (y := x) (W := 0) (argsL := []) (st := []) c0_132 (rm_O2 l Z a0 hw h503 n0 _ a479 ha482 0 a490 d2 o2 rfl 1 a485 d1 o1 rfl P502) (P502.exa (i := 0) rfl) (t35 hw) (t36 hw) (fun _ q => notFace_of_selects (args := #[]) (mvT q (t38 hw))) (t38 hw) (t37 hw) (t2 hw) (t39 hw) (by decide) (lenOf pd6 rfl) rfl rfl (by decide) (by decide) (by decide) (by decide) rfl ?_
            rintro r516 h515 ⟨hr_r516, P514⟩
            refine go_more (k' := 4) (n' := 20) (by decide) (by decide) ?_
            refine go_pop c0_135 (XT.cat1 hr_r516) ?_
            refine go_iload c0_136 rfl ?_
            refine go_push c0_138 ?_
            refine go_icmp_lt c0_139 (fun q => absurd q (by decide)) (fun _ => ?_)
            refine go_aload c0_142 rfl rfl ?_
            refine go_callV1 (y := x) (W := 0) (argsL := []) (st := []) c0_144 (rm_O1 l Z a0 hw h515 n0 _ a479 ha482 1 a485 d1 o1 rfl P514) (P514.exa (i := 0) rfl) (t35 hw) (t36 hw) (fun _ q => notFace_of_selects (args := #[]) (mvT q (t38 hw))) (t38 hw) (t37 hw) (t2 hw) (t39 hw) (by decide) (lenOf pd6 rfl) rfl rfl (by decide) (by decide) (by decide) (by decide) rfl ?_
            rintro r520 h519 ⟨hr_r520, P518⟩
            refine go_more (k' := 4) (n' := 20) (by decide) (by decide) ?_
            refine go_pop c0_147 (XT.cat1 hr_r520) ?_
            refine go_aload c0_148 rfl rfl ?_
            refine go_callV1 (y := x) (W := 0) (argsL := []) (st := []) c0_150 (rm_E l Z a0 hw h519 n0 _ a479 _ 0 P518) (P518.exa (i := 0) rfl) (t28 hw) (t29 hw) (fun _ q => notFace_of_selects (args := #[]) (mvT q (t31 hw))) (t31 hw) (t30 hw) (t2 hw) (t32 hw) (by decide) (lenOf pd5 rfl) rfl rfl (by decide) (by decide) (by decide) (by decide) rfl ?_
            rintro _ _ ⟨rfl, rfl⟩
            refine go_more (k' := 4) (n' := 20) (by decide) (by decide) ?_
            refine go_isI 1 (by decide) ?_
            refine go_iload c0_153 rfl ?_
            refine go_iload c0_155 rfl ?_
            refine go_icmp_gt c0_157 (fun q => absurd q (by decide)) (fun _ => ?_)
            refine go_push c0_160 ?_
            refine go_goto c0_161 ?_
            refine go_icmp_ne c0_165 (fun q => absurd q (by decide)) (fun _ => ?_)
            refine go_push c0_168 ?_
            refine go_goto c0_169 ?_
            refine go_istore c0_173 rfl rfl ?_
            dsimp only [setl]
            refine go_iload c0_175 rfl ?_
            refine go_if_eq c0_177 (fun q => absurd q (by decide)) (fun _ => ?_)
            refine go_iload c0_180 rfl ?_
            refine go_if_eq c0_182 (fun q => absurd q (by decide)) (fun _ => ?_)
            refine go_push c0_185 ?_
            refine go_goto c0_186 ?_
            exact go_bret rfl c0_190 (by decide) (by decide) (by decide) ⟨_, rfl, rfl⟩
        · refine go_aload c0_87 rfl rfl ?_
          refine go_callV1 (y := x) (W := 0) (argsL := []) (st := []) c0_89 (rm_E l Z a0 hw h500 n0 _ a479 _ 3 P499) (P499.exa (i := 0) rfl) (t28 hw) (t29 hw) (fun _ q => notFace_of_selects (args := #[]) (mvT q (t31 hw))) (t31 hw) (t30 hw) (t2 hw) (t32 hw) (by decide) (lenOf pd5 rfl) rfl rfl (by decide) (by decide) (by decide) (by decide) rfl ?_
          rintro _ _ ⟨rfl, rfl⟩
          refine go_more (k' := 4) (n' := 20) (by decide) (by decide) ?_
          refine go_isI 0 (by decide) ?_
          refine go_iload c0_92 rfl ?_
          refine go_if_ne c0_94 (fun _ => ?_) (fun q => absurd q (by decide))
          refine go_push c0_101 ?_
          refine go_icmp_ne c0_102 (fun q => absurd q (by decide)) (fun _ => ?_)
          refine go_push c0_105 ?_
          refine go_goto c0_106 ?_
          refine go_istore c0_110 rfl rfl ?_
          dsimp only [setl]
          refine go_iload c0_112 rfl ?_
          refine go_push c0_114 ?_
          refine go_icmp_lt c0_115 (fun q => absurd q (by decide)) (fun _ => ?_)
          refine go_aload c0_118 rfl rfl ?_
          refine go_callV1 (y := x) (W := 0) (argsL := []) (st := []) c0_120 (rm_O3 l Z a0 hw h500 n0 _ a479 ha482 0 a490 d2 o2 rfl 1 a485 d1 o1 rfl 1 a485 d1 o1 rfl P499) (P499.exa (i := 0) rfl) (t35 hw) (t36 hw) (fun _ q => notFace_of_selects (args := #[]) (mvT q (t38 hw))) (t38 hw) (t37 hw) (t2 hw) (t39 hw) (by decide) (lenOf pd6 rfl) rfl rfl (by decide) (by decide) (by decide) (by decide) rfl ?_
          rintro r524 h523 ⟨hr_r524, (⟨e525, P522⟩ | ⟨e525, P522⟩)⟩
          · refine go_pop c0_123 (XT.cat1 hr_r524) ?_
            refine go_iload c0_124 rfl ?_
            refine go_push c0_126 ?_
            refine go_icmp_lt c0_127 (fun q => absurd q (by decide)) (fun _ => ?_)
            refine go_aload c0_130 rfl rfl ?_
            refine go_callV1 (y := x) (W := 0) (argsL := []) (st := []) c0_132 (rm_O2 l Z a0 hw h523 n0 _ a479 ha482 1 a485 d1 o1 rfl 1 a485 d1 o1 rfl P522) (P522.exa (i := 0) rfl) (t35 hw) (t36 hw) (fun _ q => notFace_of_selects (args := #[]) (mvT q (t38 hw))) (t38 hw) (t37 hw) (t2 hw) (t39 hw) (by decide) (lenOf pd6 rfl) rfl rfl (by decide) (by decide) (by decide) (by decide) rfl ?_
            rintro r528 h527 ⟨hr_r528, P526⟩
            refine go_more (k' := 4) (n' := 20) (by decide) (by decide) ?_
            refine go_pop c0_135 (XT.cat1 hr_r528) ?_
            refine go_iload c0_136 rfl ?_
            refine go_push c0_138 ?_
            refine go_icmp_lt c0_139 (fun q => absurd q (by decide)) (fun _ => ?_)
            refine go_aload c0_142 rfl rfl ?_
            refine go_callV1 (y := x) (W := 0) (argsL := []) (st := []) c0_144 (rm_O1 l Z a0 hw h527 n0 _ a479 ha482 1 a485 d1 o1 rfl P526) (P526.exa (i := 0) rfl) (t35 hw) (t36 hw) (fun _ q => notFace_of_selects (args := #[]) (mvT q (t38 hw))) (t38 hw) (t37 hw) (t2 hw) (t39 hw) (by decide) (lenOf pd6 rfl) rfl rfl (by decide) (by decide) (by decide) (by decide) rfl ?_
            rintro r532 h531 ⟨hr_r532, P530⟩
            refine go_more (k' := 4) (n' := 20) (by decide) (by decide) ?_
            refine go_pop c0_147 (XT.cat1 hr_r532) ?_
            refine go_aload c0_148 rfl rfl ?_
            refine go_callV1 (y := x) (W := 0) (argsL := []) (st := []) c0_150 (rm_E l Z a0 hw h531 n0 _ a479 _ 0 P530) (P530.exa (i := 0) rfl) (t28 hw) (t29 hw) (fun _ q => notFace_of_selects (args := #[]) (mvT q (t31 hw))) (t31 hw) (t30 hw) (t2 hw) (t32 hw) (by decide) (lenOf pd5 rfl) rfl rfl (by decide) (by decide) (by decide) (by decide) rfl ?_
            rintro _ _ ⟨rfl, rfl⟩
            refine go_more (k' := 4) (n' := 20) (by decide) (by decide) ?_
            refine go_isI 1 (by decide) ?_
            refine go_iload c0_153 rfl ?_
            refine go_iload c0_155 rfl ?_
            refine go_icmp_gt c0_157 (fun q => absurd q (by decide)) (fun _ => ?_)
            refine go_push c0_160 ?_
            refine go_goto c0_161 ?_
            refine go_icmp_ne c0_165 (fun q => absurd q (by decide)) (fun _ => ?_)
            refine go_push c0_168 ?_
            refine go_goto c0_169 ?_
            refine go_istore c0_173 rfl rfl ?_
            dsimp only [setl]
            refine go_iload c0_175 rfl ?_
            refine go_if_eq c0_177 (fun q => absurd q (by decide)) (fun _ => ?_)
            refine go_iload c0_180 rfl ?_
            refine go_if_eq c0_182 (fun q => absurd q (by decide)) (fun _ => ?_)
            refine go_push c0_185 ?_
            refine go_goto c0_186 ?_
            exact go_bret rfl c0_190 (by decide) (by decide) (by decide) ⟨_, rfl, rfl⟩
          · refine go_pop c0_123 (XT.cat1 hr_r524) ?_
            refine go_iload c0_124 rfl ?_
            refine go_push c0_126 ?_
            refine go_icmp_lt c0_127 (fun q => absurd q (by decide)) (fun _ => ?_)
            refine go_aload c0_130 rfl rfl ?_
            refine go_callV1 (y := x) (W := 0) (argsL := []) (st := []) c0_132 (rm_O2 l Z a0 hw h523 n0 _ a479 ha482 1 a485 d1 o1 rfl 1 a485 d1 o1 rfl P522) (P522.exa (i := 0) rfl) (t35 hw) (t36 hw) (fun _ q => notFace_of_selects (args := #[]) (mvT q (t38 hw))) (t38 hw) (t37 hw) (t2 hw) (t39 hw) (by decide) (lenOf pd6 rfl) rfl rfl (by decide) (by decide) (by decide) (by decide) rfl ?_
            rintro r536 h535 ⟨hr_r536, P534⟩
            refine go_more (k' := 4) (n' := 20) (by decide) (by decide) ?_
            refine go_pop c0_135 (XT.cat1 hr_r536) ?_
            refine go_iload c0_136 rfl ?_
            refine go_push c0_138 ?_
            refine go_icmp_lt c0_139 (fun q => absurd q (by decide)) (fun _ => ?_)
            refine go_aload c0_142 rfl rfl ?_
            refine go_callV1 (y := x) (W := 0) (argsL := []) (st := []) c0_144 (rm_O1 l Z a0 hw h535 n0 _ a479 ha482 1 a485 d1 o1 rfl P534) (P534.exa (i := 0) rfl) (t35 hw) (t36 hw) (fun _ q => notFace_of_selects (args := #[]) (mvT q (t38 hw))) (t38 hw) (t37 hw) (t2 hw) (t39 hw) (by decide) (lenOf pd6 rfl) rfl rfl (by decide) (by decide) (by decide) (by decide) rfl ?_
            rintro r540 h539 ⟨hr_r540, P538⟩
            refine go_more (k' := 4) (n' := 20) (by decide) (by decide) ?_
            refine go_pop c0_147 (XT.cat1 hr_r540) ?_
            refine go_aload c0_148 rfl rfl ?_
            refine go_callV1 (y := x) (W := 0) (argsL := []) (st := []) c0_150 (rm_E l Z a0 hw h539 n0 _ a479 _ 0 P538) (P538.exa (i := 0) rfl) (t28 hw) (t29 hw) (fun _ q => notFace_of_selects (args := #[]) (mvT q (t31 hw))) (t31 hw) (t30 hw) (t2 hw) (t32 hw) (by decide) (lenOf pd5 rfl) rfl rfl (by decide) (by decide) (by decide) (by decide) rfl ?_
            rintro _ _ ⟨rfl, rfl⟩
            refine go_more (k' := 4) (n' := 20) (by decide) (by decide) ?_
            refine go_isI 1 (by decide) ?_
            refine go_iload c0_153 rfl ?_
            refine go_iload c0_155 rfl ?_
            refine go_icmp_gt c0_157 (fun q => absurd q (by decide)) (fun _ => ?_)
            refine go_push c0_160 ?_
            refine go_goto c0_161 ?_
            refine go_icmp_ne c0_165 (fun q => absurd q (by decide)) (fun _ => ?_)
            refine go_push c0_168 ?_
            refine go_goto c0_169 ?_
            refine go_istore c0_173 rfl rfl ?_
            dsimp only [setl]
            refine go_iload c0_175 rfl ?_
            refine go_if_eq c0_177 (fun q => absurd q (by decide)) (fun _ => ?_)
            refine go_iload c0_180 rfl ?_
            refine go_if_eq c0_182 (fun q => absurd q (by decide)) (fun _ => ?_)
            refine go_push c0_185 ?_
            refine go_goto c0_186 ?_
            exact go_bret rfl c0_190 (by decide) (by decide) (by decide) ⟨_, rfl, rfl⟩
      · refine go_iload c0_74 rfl ?_
        refine go_push c0_76 ?_
        refine go_icmp_lt c0_77 (fun q => absurd q (by decide)) (fun _ => ?_)
        refine go_aload c0_80 rfl rfl ?_
        refine go_aload c0_82 rfl rfl ?_
        refine go_callV0 (y := x) (W := 0) (argsL := [(.ref a485)]) (st := []) c0_84 (rm_A2 l Z a0 hw h497 n0 _ a479 ha482 a485 1 d1 o1 rfl 1 a485 d1 o1 rfl a490 P496) (P496.exa (i := 0) rfl) (t40 hw) (t41 hw) (fun _ q => notFace_of_selects (args := #[]) (mvT q (t43 hw))) (t43 hw) (t42 hw) (t2 hw) (t44 hw) (by decide) (lenOf pd7 rfl) rfl rfl (by decide) (by decide) (by decide) (by decide) rfl ?_
        rintro h543 (⟨f544, P542⟩ | ⟨f544, P542⟩)
        · refine go_aload c0_87 rfl rfl ?_
          refine go_callV1 (y := x) (W := 0) (argsL := []) (st := []) c0_89 (rm_E l Z a0 hw h543 n0 _ a479 _ 3 P542) (P542.exa (i := 0) rfl) (t28 hw) (t29 hw) (fun _ q => notFace_of_selects (args := #[]) (mvT q (t31 hw))) (t31 hw) (t30 hw) (t2 hw) (t32 hw) (by decide) (lenOf pd5 rfl) rfl rfl (by decide) (by decide) (by decide) (by decide) rfl ?_
          rintro _ _ ⟨rfl, rfl⟩
          refine go_more (k' := 4) (n' := 20) (by decide) (by decide) ?_
          refine go_isI 0 (by decide) ?_
          refine go_iload c0_92 rfl ?_
          refine go_if_ne c0_94 (fun _ => ?_) (fun q => absurd q (by decide))
          refine go_push c0_101 ?_
          refine go_icmp_ne c0_102 (fun q => absurd q (by decide)) (fun _ => ?_)
          refine go_push c0_105 ?_
          refine go_goto c0_106 ?_
          refine go_istore c0_110 rfl rfl ?_
          dsimp only [setl]
          refine go_iload c0_112 rfl ?_
          refine go_push c0_114 ?_
          refine go_icmp_lt c0_115 (fun q => absurd q (by decide)) (fun _ => ?_)
          refine go_aload c0_118 rfl rfl ?_
          refine go_callV1 (y := x) (W := 0) (argsL := []) (st := []) c0_120 (rm_O3 l Z a0 hw h543 n0 _ a479 ha482 1 a485 d1 o1 rfl 0 a490 d2 o2 rfl 1 a485 d1 o1 rfl P542) (P542.exa (i := 0) rfl) (t35 hw) (t36 hw) (fun _ q => notFace_of_selects (args := #[]) (mvT q (t38 hw))) (t38 hw) (t37 hw) (t2 hw) (t39 hw) (by decide) (lenOf pd6 rfl) rfl rfl (by decide) (by decide) (by decide) (by decide) rfl ?_
          rintro r547 h546 ⟨hr_r547, (⟨e548, P545⟩ | ⟨e548, P545⟩)⟩
          · refine go_pop c0_123 (XT.cat1 hr_r547) ?_
            refine go_iload c0_124 rfl ?_
            refine go_push c0_126 ?_
            refine go_icmp_lt c0_127 (fun q => absurd q (by decide)) (fun _ => ?_)
            refine go_aload c0_130 rfl rfl ?_
            refine go_callV1 (y := x) (W := 0) (argsL := []) (st := []) c0_132 (rm_O2 l Z a0 hw h546 n0 _ a479 ha482 0 a490 d2 o2 rfl 1 a485 d1 o1 rfl P545) (P545.exa (i := 0) rfl) (t35 hw) (t36 hw) (fun _ q => notFace_of_selects (args := #[]) (mvT q (t38 hw))) (t38 hw) (t37 hw) (t2 hw) (t39 hw) (by decide) (lenOf pd6 rfl) rfl rfl (by decide) (by decide) (by decide) (by decide) rfl ?_
            rintro r551 h550 ⟨hr_r551, P549⟩
            refine go_more (k' := 4) (n' := 20) (by decide) (by decide) ?_
            refine go_pop c0_135 (XT.cat1 hr_r551) ?_
            refine go_iload c0_136 rfl ?_
            refine go_push c0_138 ?_
            refine go_icmp_lt c0_139 (fun q => absurd q (by decide)) (fun _ => ?_)
            refine go_aload c0_142 rfl rfl ?_
            refine go_callV1 (y := x) (W := 0) (argsL := []) (st := []) c0_144 (rm_O1 l Z a0 hw h550 n0 _ a479 ha482 1 a485 d1 o1 rfl P549) (P549.exa (i := 0) rfl) (t35 hw) (t36 hw) (fun _ q => notFace_of_selects (args := #[]) (mvT q (t38 hw))) (t38 hw) (t37 hw) (t2 hw) (t39 hw) (by decide) (lenOf pd6 rfl) rfl rfl (by decide) (by decide) (by decide) (by decide) rfl ?_
            rintro r555 h554 ⟨hr_r555, P553⟩
            refine go_more (k' := 4) (n' := 20) (by decide) (by decide) ?_
            refine go_pop c0_147 (XT.cat1 hr_r555) ?_
            refine go_aload c0_148 rfl rfl ?_
            refine go_callV1 (y := x) (W := 0) (argsL := []) (st := []) c0_150 (rm_E l Z a0 hw h554 n0 _ a479 _ 0 P553) (P553.exa (i := 0) rfl) (t28 hw) (t29 hw) (fun _ q => notFace_of_selects (args := #[]) (mvT q (t31 hw))) (t31 hw) (t30 hw) (t2 hw) (t32 hw) (by decide) (lenOf pd5 rfl) rfl rfl (by decide) (by decide) (by decide) (by decide) rfl ?_
            rintro _ _ ⟨rfl, rfl⟩
            refine go_more (k' := 4) (n' := 20) (by decide) (by decide) ?_
            refine go_isI 1 (by decide) ?_
            refine go_iload c0_153 rfl ?_
            refine go_iload c0_155 rfl ?_
            refine go_icmp_gt c0_157 (fun q => absurd q (by decide)) (fun _ => ?_)
            refine go_push c0_160 ?_
            refine go_goto c0_161 ?_
            refine go_icmp_ne c0_165 (fun q => absurd q (by decide)) (fun _ => ?_)
            refine go_push c0_168 ?_
            refine go_goto c0_169 ?_
            refine go_istore c0_173 rfl rfl ?_
            dsimp only [setl]
            refine go_iload c0_175 rfl ?_
            refine go_if_eq c0_177 (fun q => absurd q (by decide)) (fun _ => ?_)
            refine go_iload c0_180 rfl ?_
            refine go_if_eq c0_182 (fun q => absurd q (by decide)) (fun _ => ?_)
            refine go_push c0_185 ?_
            refine go_goto c0_186 ?_
            exact go_bret rfl c0_190 (by decide) (by decide) (by decide) ⟨_, rfl, rfl⟩
          · refine go_pop c0_123 (XT.cat1 hr_r547) ?_
            refine go_iload c0_124 rfl ?_
            refine go_push c0_126 ?_
            refine go_icmp_lt c0_127 (fun q => absurd q (by decide)) (fun _ => ?_)
            refine go_aload c0_130 rfl rfl ?_
            refine go_callV1 (y := x) (W := 0) (argsL := []) (st := []) c0_132 (rm_O2 l Z a0 hw h546 n0 _ a479 ha482 1 a485 d1 o1 rfl 0 a490 d2 o2 rfl P545) (P545.exa (i := 0) rfl) (t35 hw) (t36 hw) (fun _ q => notFace_of_selects (args := #[]) (mvT q (t38 hw))) (t38 hw) (t37 hw) (t2 hw) (t39 hw) (by decide) (lenOf pd6 rfl) rfl rfl (by decide) (by decide) (by decide) (by decide) rfl ?_
            rintro r559 h558 ⟨hr_r559, P557⟩
            refine go_more (k' := 4) (n' := 20) (by decide) (by decide) ?_
            refine go_pop c0_135 (XT.cat1 hr_r559) ?_
            refine go_iload c0_136 rfl ?_
            refine go_push c0_138 ?_
            refine go_icmp_lt c0_139 (fun q => absurd q (by decide)) (fun _ => ?_)
            refine go_aload c0_142 rfl rfl ?_
            refine go_callV1 (y := x) (W := 0) (argsL := []) (st := []) c0_144 (rm_O1 l Z a0 hw h558 n0 _ a479 ha482 0 a490 d2 o2 rfl P557) (P557.exa (i := 0) rfl) (t35 hw) (t36 hw) (fun _ q => notFace_of_selects (args := #[]) (mvT q (t38 hw))) (t38 hw) (t37 hw) (t2 hw) (t39 hw) (by decide) (lenOf pd6 rfl) rfl rfl (by decide) (by decide) (by decide) (by decide) rfl ?_
            rintro r563 h562 ⟨hr_r563, P561⟩
            refine go_more (k' := 4) (n' := 20) (by decide) (by decide) ?_
            refine go_pop c0_147 (XT.cat1 hr_r563) ?_
            refine go_aload c0_148 rfl rfl ?_
            refine go_callV1 (y := x) (W := 0) (argsL := []) (st := []) c0_150 (rm_E l Z a0 hw h562 n0 _ a479 _ 0 P561) (P561.exa (i := 0) rfl) (t28 hw) (t29 hw) (fun _ q => notFace_of_selects (args := #[]) (mvT q (t31 hw))) (t31 hw) (t30 hw) (t2 hw) (t32 hw) (by decide) (lenOf pd5 rfl) rfl rfl (by decide) (by decide) (by decide) (by decide) rfl ?_
            rintro _ _ ⟨rfl, rfl⟩
            refine go_more (k' := 4) (n' := 20) (by decide) (by decide) ?_
            refine go_isI 1 (by decide) ?_
            refine go_iload c0_153 rfl ?_
            refine go_iload c0_155 rfl ?_
            refine go_icmp_gt c0_157 (fun q => absurd q (by decide)) (fun _ => ?_)
            refine go_push c0_160 ?_
            refine go_goto c0_161 ?_
            refine go_icmp_ne c0_165 (fun q => absurd q (by decide)) (fun _ => ?_)
            refine go_push c0_168 ?_
            refine go_goto c0_169 ?_
            refine go_istore c0_173 rfl rfl ?_
            dsimp only [setl]
            refine go_iload c0_175 rfl ?_
            refine go_if_eq c0_177 (fun q => absurd q (by decide)) (fun _ => ?_)
            refine go_iload c0_180 rfl ?_
            refine go_if_eq c0_182 (fun q => absurd q (by decide)) (fun _ => ?_)
            refine go_push c0_185 ?_
            refine go_goto c0_186 ?_
            exact go_bret rfl c0_190 (by decide) (by decide) (by decide) ⟨_, rfl, rfl⟩
        · refine go_aload c0_87 rfl rfl ?_
          refine go_callV1 (y := x) (W := 0) (argsL := []) (st := []) c0_89 (rm_E l Z a0 hw h543 n0 _ a479 _ 3 P542) (P542.exa (i := 0) rfl) (t28 hw) (t29 hw) (fun _ q => notFace_of_selects (args := #[]) (mvT q (t31 hw))) (t31 hw) (t30 hw) (t2 hw) (t32 hw) (by decide) (lenOf pd5 rfl) rfl rfl (by decide) (by decide) (by decide) (by decide) rfl ?_
          rintro _ _ ⟨rfl, rfl⟩
          refine go_more (k' := 4) (n' := 20) (by decide) (by decide) ?_
          refine go_isI 0 (by decide) ?_
          refine go_iload c0_92 rfl ?_
          refine go_if_ne c0_94 (fun _ => ?_) (fun q => absurd q (by decide))
          refine go_push c0_101 ?_
          refine go_icmp_ne c0_102 (fun q => absurd q (by decide)) (fun _ => ?_)
          refine go_push c0_105 ?_
          refine go_goto c0_106 ?_
          refine go_istore c0_110 rfl rfl ?_
          dsimp only [setl]
          refine go_iload c0_112 rfl ?_
          refine go_push c0_114 ?_
          refine go_icmp_lt c0_115 (fun q => absurd q (by decide)) (fun _ => ?_)
          refine go_aload c0_118 rfl rfl ?_
          refine go_callV1 (y := x) (W := 0) (argsL := []) (st := []) c0_120 (rm_O3 l Z a0 hw h543 n0 _ a479 ha482 1 a485 d1 o1 rfl 0 a490 d2 o2 rfl 1 a485 d1 o1 rfl P542) (P542.exa (i := 0) rfl) (t35 hw) (t36 hw) (fun _ q => notFace_of_selects (args := #[]) (mvT q (t38 hw))) (t38 hw) (t37 hw) (t2 hw) (t39 hw) (by decide) (lenOf pd6 rfl) rfl rfl (by decide) (by decide) (by decide) (by decide) rfl ?_
          rintro r567 h566 ⟨hr_r567, (⟨e568, P565⟩ | ⟨e568, P565⟩)⟩
          · refine go_pop c0_123 (XT.cat1 hr_r567) ?_
            refine go_iload c0_124 rfl ?_
            refine go_push c0_126 ?_
            refine go_icmp_lt c0_127 (fun q => absurd q (by decide)) (fun _ => ?_)
            refine go_aload c0_130 rfl rfl ?_
            refine go_callV1 (y := x) (W := 0) (argsL := []) (st := []) c0_132 (rm_O2 l Z a0 hw h566 n0 _ a479 ha482 0 a490 d2 o2 rfl 1 a485 d1 o1 rfl P565) (P565.exa (i := 0) rfl) (t35 hw) (t36 hw) (fun _ q => notFace_of_selects (args := #[]) (mvT q (t38 hw))) (t38 hw) (t37 hw) (t2 hw) (t39 hw) (by decide) (lenOf pd6 rfl) rfl rfl (by decide) (by decide) (by decide) (by decide) rfl ?_
            rintro r571 h570 ⟨hr_r571, P569⟩
            refine go_more (k' := 4) (n' := 20) (by decide) (by decide) ?_
            refine go_pop c0_135 (XT.cat1 hr_r571) ?_
            refine go_iload c0_136 rfl ?_
            refine go_push c0_138 ?_
            refine go_icmp_lt c0_139 (fun q => absurd q (by decide)) (fun _ => ?_)
            refine go_aload c0_142 rfl rfl ?_
            refine go_callV1 (y := x) (W := 0) (argsL := []) (st := []) c0_144 (rm_O1 l Z a0 hw h570 n0 _ a479 ha482 1 a485 d1 o1 rfl P569) (P569.exa (i := 0) rfl) (t35 hw) (t36 hw) (fun _ q => notFace_of_selects (args := #[]) (mvT q (t38 hw))) (t38 hw) (t37 hw) (t2 hw) (t39 hw) (by decide) (lenOf pd6 rfl) rfl rfl (by decide) (by decide) (by decide) (by decide) rfl ?_
            rintro r575 h574 ⟨hr_r575, P573⟩
            refine go_more (k' := 4) (n' := 20) (by decide) (by decide) ?_
            refine go_pop c0_147 (XT.cat1 hr_r575) ?_
            refine go_aload c0_148 rfl rfl ?_
            refine go_callV1 (y := x) (W := 0) (argsL := []) (st := []) c0_150 (rm_E l Z a0 hw h574 n0 _ a479 _ 0 P573) (P573.exa (i := 0) rfl) (t28 hw) (t29 hw) (fun _ q => notFace_of_selects (args := #[]) (mvT q (t31 hw))) (t31 hw) (t30 hw) (t2 hw) (t32 hw) (by decide) (lenOf pd5 rfl) rfl rfl (by decide) (by decide) (by decide) (by decide) rfl ?_
            rintro _ _ ⟨rfl, rfl⟩
            refine go_more (k' := 4) (n' := 20) (by decide) (by decide) ?_
            refine go_isI 1 (by decide) ?_
            refine go_iload c0_153 rfl ?_
            refine go_iload c0_155 rfl ?_
            refine go_icmp_gt c0_157 (fun q => absurd q (by decide)) (fun _ => ?_)
            refine go_push c0_160 ?_
            refine go_goto c0_161 ?_
            refine go_icmp_ne c0_165 (fun q => absurd q (by decide)) (fun _ => ?_)
            refine go_push c0_168 ?_
            refine go_goto c0_169 ?_
            refine go_istore c0_173 rfl rfl ?_
            dsimp only [setl]
            refine go_iload c0_175 rfl ?_
            refine go_if_eq c0_177 (fun q => absurd q (by decide)) (fun _ => ?_)
            refine go_iload c0_180 rfl ?_
            refine go_if_eq c0_182 (fun q => absurd q (by decide)) (fun _ => ?_)
            refine go_push c0_185 ?_
            refine go_goto c0_186 ?_
            exact go_bret rfl c0_190 (by decide) (by decide) (by decide) ⟨_, rfl, rfl⟩
          · refine go_pop c0_123 (XT.cat1 hr_r567) ?_
            refine go_iload c0_124 rfl ?_
            refine go_push c0_126 ?_
            refine go_icmp_lt c0_127 (fun q => absurd q (by decide)) (fun _ => ?_)
            refine go_aload c0_130 rfl rfl ?_
            refine go_callV1 (y := x) (W := 0) (argsL := []) (st := []) c0_132 (rm_O2 l Z a0 hw h566 n0 _ a479 ha482 1 a485 d1 o1 rfl 0 a490 d2 o2 rfl P565) (P565.exa (i := 0) rfl) (t35 hw) (t36 hw) (fun _ q => notFace_of_selects (args := #[]) (mvT q (t38 hw))) (t38 hw) (t37 hw) (t2 hw) (t39 hw) (by decide) (lenOf pd6 rfl) rfl rfl (by decide) (by decide) (by decide) (by decide) rfl ?_
            rintro r579 h578 ⟨hr_r579, P577⟩
            refine go_more (k' := 4) (n' := 20) (by decide) (by decide) ?_
            refine go_pop c0_135 (XT.cat1 hr_r579) ?_
            refine go_iload c0_136 rfl ?_
            refine go_push c0_138 ?_
            refine go_icmp_lt c0_139 (fun q => absurd q (by decide)) (fun _ => ?_)
            refine go_aload c0_142 rfl rfl ?_
            refine go_callV1 (y := x) (W := 0) (argsL := []) (st := []) c0_144 (rm_O1 l Z a0 hw h578 n0 _ a479 ha482 0 a490 d2 o2 rfl P577) (P577.exa (i := 0) rfl) (t35 hw) (t36 hw) (fun _ q => notFace_of_selects (args := #[]) (mvT q (t38 hw))) (t38 hw) (t37 hw) (t2 hw) (t39 hw) (by decide) (lenOf pd6 rfl) rfl rfl (by decide) (by decide) (by decide) (by decide) rfl ?_
            rintro r583 h582 ⟨hr_r583, P581⟩
            refine go_more (k' := 4) (n' := 20) (by decide) (by decide) ?_
            refine go_pop c0_147 (XT.cat1 hr_r583) ?_
            refine go_aload c0_148 rfl rfl ?_
            refine go_callV1 (y := x) (W := 0) (argsL := []) (st := []) c0_150 (rm_E l Z a0 hw h582 n0 _ a479 _ 0 P581) (P581.exa (i := 0) rfl) (t28 hw) (t29 hw) (fun _ q => notFace_of_selects (args := #[]) (mvT q (t31 hw))) (t31 hw) (t30 hw) (t2 hw) (t32 hw) (by decide) (lenOf pd5 rfl) rfl rfl (by decide) (by decide) (by decide) (by decide) rfl ?_
            rintro _ _ ⟨rfl, rfl⟩
            refine go_more (k' := 4) (n' := 20) (by decide) (by decide) ?_
            refine go_isI 1 (by decide) ?_
            refine go_iload c0_153 rfl ?_
            refine go_iload c0_155 rfl ?_
            refine go_icmp_gt c0_157 (fun q => absurd q (by decide)) (fun _ => ?_)
            refine go_push c0_160 ?_
            refine go_goto c0_161 ?_
            refine go_icmp_ne c0_165 (fun q => absurd q (by decide)) (fun _ => ?_)
            refine go_push c0_168 ?_
            refine go_goto c0_169 ?_
            refine go_istore c0_173 rfl rfl ?_
            dsimp only [setl]
            refine go_iload c0_175 rfl ?_
            refine go_if_eq c0_177 (fun q => absurd q (by decide)) (fun _ => ?_)
            refine go_iload c0_180 rfl ?_
            refine go_if_eq c0_182 (fun q => absurd q (by decide)) (fun _ => ?_)
            refine go_push c0_185 ?_
            refine go_goto c0_186 ?_
            exact go_bret rfl c0_190 (by decide) (by decide) (by decide) ⟨_, rfl, rfl⟩
set_option maxRecDepth 65536 in
set_option maxHeartbeats 4000000 in
theorem comes_1 {Post : Tables → Env → Array Value → State → Outcome → State → Prop} (hpost : ∀ tb e args s v u, (limb_1_1.after args s (.returned v) u = true ∧ limb_1_2.after args s (.returned v) u = true ∧ True) → FrameEnd s (.returned v) u (Jvm.fieldLocs frame_1_writes args s ++ Jvm.arrayLocs frame_1_arrays args s ++ Jvm.staticLocs frame_1_statics s) 16 128 → Post tb e args s (.returned v) u) :
    ArmFor flags0 classFile x code maxLocals ret World_1 tables_1 room_1 Calls_1 rest_1 Pre_1 Post := by
  intro l hfl _ _ p e ha hc hk s m args below hf hA hF happ hP
  obtain ⟨hcalls, hrest, hpre⟩ := hP
  obtain ⟨-, -, -, hnamed, -, -, -, hat⟩ := (Spec.applies_iff hf).mp happ
  obtain ⟨hg, hn⟩ := and_e (Cond.before_iff.mp (show (Jvm.Cond.and given_1 narrow_1).before args s = true from hpre))
  obtain ⟨hct, hg0⟩ := and_e hg
  obtain ⟨ga0, hg1⟩ := and_e hg0
  obtain ⟨ga1, hg2⟩ := and_e hg1
  obtain ⟨ga2, hg3⟩ := and_e hg2
  obtain ⟨ga3, hg4⟩ := and_e hg3
  obtain ⟨ga4, hg5⟩ := and_e hg4
  have ga5 := hg5
  obtain ⟨w0, w1, w2, w3, w4, w5, rfl⟩ : ∃ w0 w1 w2 w3 w4 w5 : Value, args = #[w0, w1, w2, w3, w4, w5] := by
    have hs : args.size = 6 := by simpa [Cond.value, given_1] using hct
    obtain ⟨L⟩ := args
    match L, hs with
    | [w0, w1, w2, w3, w4, w5], _ => exact ⟨w0, w1, w2, w3, w4, w5, rfl⟩
  have hw := fun d (hd : d ∈ tables_1) => atoms_spec (ws := Jvm.Cond.code x code maxLocals ret :: tables_1) hat d (List.mem_cons_of_mem _ hd)
  have hfit : Fit s := fun {y c} hc i hi => by
    obtain ⟨ha, rfl⟩ := Array.getElem?_eq_some_iff.mp hc
    have q := List.all_eq_true.mp ((Array.all_eq_true_iff_forall_mem.mp hF) _ (Array.getElem_mem ha)) i (List.mem_range.mpr hi)
    simpa [Array.getElem?_eq_getElem hi] using q
  obtain ⟨i0, ei0⟩ := is_v ga0
  obtain rfl : w0 = (.int i0) := Option.some.inj ei0
  obtain ⟨i1, ei1⟩ := is_v ga1
  obtain rfl : w1 = (.int i1) := Option.some.inj ei1
  obtain ⟨i2, ei2⟩ := isL_v ga2
  obtain rfl : w2 = (.long i2) := Option.some.inj ei2
  obtain ⟨i3, ei3⟩ := isL_v ga3
  obtain rfl : w3 = (.long i3) := Option.some.inj ei3
  obtain ⟨i4, ei4⟩ := isL_v ga4
  obtain rfl : w4 = (.long i4) := Option.some.inj ei4
  obtain ⟨i5, ei5⟩ := isL_v ga5
  obtain rfl : w5 = (.long i5) := Option.some.inj ei5
  have K := rm0 l s _ hw s.heap s.heap.size (Hp.start s) i0 i1 i2 i3 i4 i5
  obtain ⟨n, o, h1, h2, h3, v, L, rfl, ⟨⟨⟨w, rfl, rfl⟩, -⟩, N⟩, hq⟩ := K tables_1 p e ha hc hk s m _ below hf ((Spec.applies_iff_loose hf).mp happ).1 ⟨rfl, State.Warmed39.refl s, rfl⟩ trivial
  refine ⟨n, _, h1, h2, h3, hpost _ _ _ _ _ _ ⟨Cond.after_iff.mpr rfl, Cond.after_iff.mpr (eq_i res_at (Term.int_eval (1)) rfl), trivial⟩ ⟨hq.1, hq.2.1, (hq.2.2.sift fun y hy => Or.inr (N y hy)).mono (by decide) (by decide)⟩⟩
theorem main_1_1 : Claimed_1_1 := comes_1 fun _ _ _ _ _ _ h hF => ⟨h.1, hF⟩
theorem main_1_2 : Claimed_1_2 := comes_1 fun _ _ _ _ _ _ h hF => ⟨h.2.1, hF⟩
end Jvm.Pilot.@@N@@
namespace Jvm.Pilot.@@N@@
open Jvm Jvm.ClassFile Sem Op Lib Jvm.Free Jvm.Stand Jvm.Pilot.@@N@@.Jvm.D
/-! MADE BY PROGRAM (witnessworld.py) out of the Statement's table words and the real class files: 11 classes; the members and pool entries that the words name. The judged class is class 1, her method 1. -/
namespace start1
open Jvm.ClassFile
def u (s : String) : CpInfo := .utf8 (stringToUtf16 s)
/-- a pool by its gaps: so many unusable entries, then the entry; so many at the end -/
def gap : Nat → List CpInfo → List CpInfo
  | 0, r => r
  | n + 1, r => .unusable :: gap n r
def poolList (es : List (Nat × CpInfo)) (last : Nat) : List CpInfo := es.foldr (fun e r => gap e.1 (e.2 :: r)) (gap last [])
def pool (es : List (Nat × CpInfo)) (last : Nat) : Array CpInfo := ⟨poolList es last⟩
def fileOf (pool : Array CpInfo) (this : Nat) (attrs : Array Attribute := #[]) (ms : Array MethodInfo := #[]) (fl : Nat := 33) (sup : Nat := 0) (ifs : Array Nat := #[]) (fds : Array FieldInfo := #[]) : ClassFile where
  minorVersion := 0
  majorVersion := 65
  constantPool := pool
  accessFlags := fl
  thisClass := this
  superClass := sup
  interfaces := ifs
  fields := fds
  methods := ms
  attributes := attrs
def plain (name : String) (sup : Option ClassId) : Class where
  name := name
  kind := .ordinary
  loader := none
  accessFlags := 33
  super := sup
  interfaces := #[]
  cf := none
  fields := #[]
  methods := #[]
  instanceTypes := #[]
  staticTypes := #[]
  resolved := #[]
  callSites := []
  init := .initialized
  statics := none
  mirror := none

def pool0 : Array CpInfo := pool [(5, u "<init>"), (0, u "()V"), (1, .class_ 10), (1, u "java/lang/Object")] 113

def k0c0 : Code := { maxStack := 0, maxLocals := 1, code := object_method_1_code, exceptionTable := #[], attributes := #[] }
def k0m0 : Method := { name := "<init>", desc := "()V", sig := { parameters := [], returnType := none }, accessFlags := 1, code := some k0c0 }
/-- java/lang/Object -/
def k0 : Class := { plain "java/lang/Object" none with
  accessFlags := 33
  interfaces := #[]
  cf := some (fileOf pool0 8 #[] #[{ accessFlags := 1, nameIndex := 5, descriptorIndex := 6, attributes := #[] }] 33 0 #[] #[])
  fields := #[]
  methods := #[k0m0]
  instanceTypes := #[]
  staticTypes := #[]
  resolved := Array.replicate 124 none
  statics := none }

def pool1 : Array CpInfo := pool [(2, .class_ 4), (0, .nameAndType 5 6), (0, u "java/lang/Object"), (0, u "<init>"), (0, u "()V"), (0, .class_ 8), (0, u "com/example/umbrella_state/umbrellastate/runtime/DelayedDeliveries"), (0, .methodref 7 3), (0, .class_ 11), (0, u "com/example/umbrella_state/umbrellastate/runtime/Delivery"), (0, .methodref 10 13), (0, .nameAndType 5 14), (0, u "(Ljava/util/function/Consumer;Lcom/example/umbrella_state/umbrellastate/model/Message;JJ)V"), (0, .methodref 7 16), (0, .nameAndType 17 18), (0, u "add"), (0, u "(Lcom/example/umbrella_state/umbrellastate/runtime/Delivery;)V"), (0, .methodref 7 20), (0, .nameAndType 21 22), (0, u "isEmpty"), (0, u "()Z"), (0, .methodref 7 24), (0, .nameAndType 25 26), (0, u "poll"), (0, u "()Lcom/example/umbrella_state/umbrellastate/runtime/Delivery;"), (0, .class_ 28), (0, u "com/example/umbrella_state/umbrellastate/runtime/DelayedDeliveriesIsEmptyPinLaw"), (2, u "law"), (0, u "(IIJJJJ)Z")] 3

def k1m0 : Method := { name := "<init>", desc := "()V", sig := { parameters := [], returnType := none }, accessFlags := 1, code := none }
def k1c1 : Code := { maxStack := 8, maxLocals := 17, code := code, exceptionTable := #[], attributes := #[] }
def k1m1 : Method := { name := "law", desc := "(IIJJJJ)Z", sig := { parameters := [.int, .int, .long, .long, .long, .long], returnType := some .boolean }, accessFlags := 9, code := some k1c1 }
/-- com/example/umbrella_state/umbrellastate/runtime/DelayedDeliveriesIsEmptyPinLaw -/
def k1 : Class := { plain "com/example/umbrella_state/umbrellastate/runtime/DelayedDeliveriesIsEmptyPinLaw" (some 0) with
  accessFlags := 49
  interfaces := #[]
  cf := some (fileOf pool1 27 #[] #[{ accessFlags := 1, nameIndex := 5, descriptorIndex := 6, attributes := #[] }, { accessFlags := 9, nameIndex := 31, descriptorIndex := 32, attributes := #[] }] 49 2 #[] #[])
  fields := #[]
  methods := #[k1m0, k1m1]
  instanceTypes := #[]
  staticTypes := #[]
  resolved := Array.replicate 36 none
  statics := none }

def pool2 : Array CpInfo := pool [(1, .methodref 2 3), (0, .class_ 4), (0, .nameAndType 5 6), (0, u "java/lang/Object"), (0, u "<init>"), (0, u "()V"), (0, .class_ 8), (0, u "com/example/umbrella_state/umbrellastate/runtime/Delivery"), (0, .fieldref 10 11), (0, .class_ 12), (0, .nameAndType 13 14), (0, u "com/example/umbrella_state/umbrellastate/runtime/DelayedDeliveries"), (0, u "heap"), (0, u "[Lcom/example/umbrella_state/umbrellastate/runtime/Delivery;"), (0, .fieldref 10 16), (0, .nameAndType 17 18), (0, u "size"), (0, u "I"), (7, .methodref 10 27), (0, .nameAndType 28 29), (0, u "parentOf"), (0, u "(I)I"), (0, .methodref 10 31), (0, .nameAndType 32 33), (0, u "goesBefore"), (0, u "(Lcom/example/umbrella_state/umbrellastate/runtime/Delivery;Lcom/example/umbrella_state/umbrellastate/runtime/Delivery;)Z"), (0, .methodref 10 35), (0, .nameAndType 36 37), (0, u "lesserChild"), (0, u "([Lcom/example/umbrella_state/umbrellastate/runtime/Delivery;II)I"), (16, .fieldref 7 55), (0, .nameAndType 56 57), (0, u "due"), (0, u "J"), (0, .fieldref 7 59), (0, .nameAndType 60 57), (0, u "order"), (2, u "isEmpty"), (0, u "()Z"), (2, u "()Lcom/example/umbrella_state/umbrellastate/runtime/Delivery;"), (0, u "add"), (0, u "(Lcom/example/umbrella_state/umbrellastate/runtime/Delivery;)V"), (0, u "poll")] 7

def k2c0 : Code := { maxStack := 2, maxLocals := 1, code := prog_52_method_1_code, exceptionTable := #[], attributes := #[] }
def k2m0 : Method := { name := "<init>", desc := "()V", sig := { parameters := [], returnType := none }, accessFlags := 0, code := some k2c0 }
def k2c1 : Code := { maxStack := 1, maxLocals := 1, code := prog_52_method_2_code, exceptionTable := #[], attributes := #[] }
def k2m1 : Method := { name := "isEmpty", desc := "()Z", sig := { parameters := [], returnType := some .boolean }, accessFlags := 0, code := some k2c1 }
def k2c2 : Code := { maxStack := 4, maxLocals := 5, code := prog_52_method_4_code, exceptionTable := #[], attributes := #[] }
def k2m2 : Method := { name := "add", desc := "(Lcom/example/umbrella_state/umbrellastate/runtime/Delivery;)V", sig := { parameters := [(.object "com/example/umbrella_state/umbrellastate/runtime/Delivery")], returnType := none }, accessFlags := 0, code := some k2c2 }
def k2c3 : Code := { maxStack := 5, maxLocals := 11, code := prog_52_method_5_code, exceptionTable := #[], attributes := #[] }
def k2m3 : Method := { name := "poll", desc := "()Lcom/example/umbrella_state/umbrellastate/runtime/Delivery;", sig := { parameters := [], returnType := some (.object "com/example/umbrella_state/umbrellastate/runtime/Delivery") }, accessFlags := 0, code := some k2c3 }
def k2c4 : Code := { maxStack := 3, maxLocals := 5, code := prog_52_method_9_code, exceptionTable := #[], attributes := #[] }
def k2m4 : Method := { name := "lesserChild", desc := "([Lcom/example/umbrella_state/umbrellastate/runtime/Delivery;II)I", sig := { parameters := [(.array (.object "com/example/umbrella_state/umbrellastate/runtime/Delivery")), .int, .int], returnType := some .int }, accessFlags := 10, code := some k2c4 }
def k2c5 : Code := { maxStack := 4, maxLocals := 2, code := prog_52_method_10_code, exceptionTable := #[], attributes := #[] }
def k2m5 : Method := { name := "goesBefore", desc := "(Lcom/example/umbrella_state/umbrellastate/runtime/Delivery;Lcom/example/umbrella_state/umbrellastate/runtime/Delivery;)Z", sig := { parameters := [(.object "com/example/umbrella_state/umbrellastate/runtime/Delivery"), (.object "com/example/umbrella_state/umbrellastate/runtime/Delivery")], returnType := some .boolean }, accessFlags := 10, code := some k2c5 }
def k2c6 : Code := { maxStack := 2, maxLocals := 1, code := prog_52_method_11_code, exceptionTable := #[], attributes := #[] }
def k2m6 : Method := { name := "parentOf", desc := "(I)I", sig := { parameters := [.int], returnType := some .int }, accessFlags := 10, code := some k2c6 }
/-- com/example/umbrella_state/umbrellastate/runtime/DelayedDeliveries -/
def k2 : Class := { plain "com/example/umbrella_state/umbrellastate/runtime/DelayedDeliveries" (some 0) with
  accessFlags := 32
  interfaces := #[]
  cf := some (fileOf pool2 10 #[] #[{ accessFlags := 0, nameIndex := 5, descriptorIndex := 6, attributes := #[] }, { accessFlags := 0, nameIndex := 63, descriptorIndex := 64, attributes := #[] }, { accessFlags := 0, nameIndex := 68, descriptorIndex := 69, attributes := #[] }, { accessFlags := 0, nameIndex := 70, descriptorIndex := 67, attributes := #[] }, { accessFlags := 10, nameIndex := 36, descriptorIndex := 37, attributes := #[] }, { accessFlags := 10, nameIndex := 32, descriptorIndex := 33, attributes := #[] }, { accessFlags := 10, nameIndex := 28, descriptorIndex := 29, attributes := #[] }] 32 2 #[] #[{ accessFlags := 2, nameIndex := 13, descriptorIndex := 14, attributes := #[] }, { accessFlags := 2, nameIndex := 17, descriptorIndex := 18, attributes := #[] }])
  fields := #[{ name := "heap", type := (.array (.object "com/example/umbrella_state/umbrellastate/runtime/Delivery")), accessFlags := 2, slot := 0, constantValue := 0 }, { name := "size", type := .int, accessFlags := 2, slot := 1, constantValue := 0 }]
  methods := #[k2m0, k2m1, k2m2, k2m3, k2m4, k2m5, k2m6]
  instanceTypes := #[(.array (.object "com/example/umbrella_state/umbrellastate/runtime/Delivery")), .int]
  staticTypes := #[]
  resolved := Array.replicate 78 none
  statics := none }

def pool3 : Array CpInfo := pool [(3, .methodref 4 5), (0, .class_ 6), (0, .nameAndType 7 8), (0, u "java/lang/Object"), (0, u "<init>"), (0, u "()V"), (0, .fieldref 10 11), (0, .class_ 12), (0, .nameAndType 13 14), (0, u "com/example/umbrella_state/umbrellastate/runtime/Delivery"), (0, u "handler"), (0, u "Ljava/util/function/Consumer;"), (0, .fieldref 10 16), (0, .nameAndType 17 18), (0, u "message"), (0, u "Lcom/example/umbrella_state/umbrellastate/model/Message;"), (0, .fieldref 10 20), (0, .nameAndType 21 22), (0, u "due"), (0, u "J"), (0, .fieldref 10 24), (0, .nameAndType 25 22), (0, u "order"), (2, u "(Ljava/util/function/Consumer;Lcom/example/umbrella_state/umbrellastate/model/Message;JJ)V"), (17, u "withdrawn"), (0, u "Z"), (0, u "EARLIEST")] 22

def k3c0 : Code := { maxStack := 3, maxLocals := 7, code := prog_54_method_1_code, exceptionTable := #[], attributes := #[] }
def k3m0 : Method := { name := "<init>", desc := "(Ljava/util/function/Consumer;Lcom/example/umbrella_state/umbrellastate/model/Message;JJ)V", sig := { parameters := [(.object "java/util/function/Consumer"), (.object "com/example/umbrella_state/umbrellastate/model/Message"), .long, .long], returnType := none }, accessFlags := 0, code := some k3c0 }
/-- com/example/umbrella_state/umbrellastate/runtime/Delivery -/
def k3 : Class := { plain "com/example/umbrella_state/umbrellastate/runtime/Delivery" (some 0) with
  accessFlags := 32
  interfaces := #[]
  cf := some (fileOf pool3 10 #[] #[{ accessFlags := 0, nameIndex := 7, descriptorIndex := 28, attributes := #[] }] 32 4 #[] #[{ accessFlags := 24, nameIndex := 48, descriptorIndex := 22, attributes := #[] }, { accessFlags := 2, nameIndex := 13, descriptorIndex := 14, attributes := #[] }, { accessFlags := 2, nameIndex := 17, descriptorIndex := 18, attributes := #[] }, { accessFlags := 16, nameIndex := 21, descriptorIndex := 22, attributes := #[] }, { accessFlags := 16, nameIndex := 25, descriptorIndex := 22, attributes := #[] }, { accessFlags := 66, nameIndex := 46, descriptorIndex := 47, attributes := #[] }])
  fields := #[{ name := "EARLIEST", type := .long, accessFlags := 24, slot := 0, constantValue := 0 }, { name := "handler", type := (.object "java/util/function/Consumer"), accessFlags := 2, slot := 0, constantValue := 0 }, { name := "message", type := (.object "com/example/umbrella_state/umbrellastate/model/Message"), accessFlags := 2, slot := 1, constantValue := 0 }, { name := "due", type := .long, accessFlags := 16, slot := 2, constantValue := 0 }, { name := "order", type := .long, accessFlags := 16, slot := 3, constantValue := 0 }, { name := "withdrawn", type := .boolean, accessFlags := 66, slot := 4, constantValue := 0 }]
  methods := #[k3m0]
  instanceTypes := #[(.object "java/util/function/Consumer"), (.object "com/example/umbrella_state/umbrellastate/model/Message"), .long, .long, .boolean]
  staticTypes := #[.long]
  resolved := Array.replicate 71 none
  statics := none }

def pool4 : Array CpInfo := pool [(1, u "java/lang/Cloneable"), (0, .class_ 1), (0, u "java/lang/Object"), (0, .class_ 3)] 3

/-- java/lang/Cloneable -/
def k4 : Class := { plain "java/lang/Cloneable" (some 0) with
  accessFlags := 1537
  interfaces := #[]
  cf := some (fileOf pool4 2 #[] #[] 1537 4 #[] #[])
  fields := #[]
  methods := #[]
  instanceTypes := #[]
  staticTypes := #[]
  resolved := Array.replicate 8 none
  statics := none }

def pool5 : Array CpInfo := pool [(1, u "java/io/Serializable"), (0, .class_ 1), (0, u "java/lang/Object"), (0, .class_ 3)] 3

/-- java/io/Serializable -/
def k5 : Class := { plain "java/io/Serializable" (some 0) with
  accessFlags := 1537
  interfaces := #[]
  cf := some (fileOf pool5 2 #[] #[] 1537 4 #[] #[])
  fields := #[]
  methods := #[]
  instanceTypes := #[]
  staticTypes := #[]
  resolved := Array.replicate 8 none
  statics := none }

/-- the primitive byte -/
def k6 : Class := { plain "byte" none with kind := .primitive 'B', accessFlags := 0x411 }
/-- [B -/
def k7 : Class := { plain "[B" (some 0) with kind := .array 6 .byte, interfaces := #[4, 5], accessFlags := 1041 }

/-- the primitive int -/
def k8 : Class := { plain "int" none with kind := .primitive 'I', accessFlags := 0x411 }
/-- [I -/
def k9 : Class := { plain "[I" (some 0) with kind := .array 8 .int, interfaces := #[4, 5], accessFlags := 1041 }

/-- [Lcom/example/umbrella_state/umbrellastate/runtime/Delivery; -/
def k10 : Class := { plain "[Lcom/example/umbrella_state/umbrellastate/runtime/Delivery;" (some 0) with kind := .array 3 (.object "com/example/umbrella_state/umbrellastate/runtime/Delivery"), interfaces := #[4, 5], accessFlags := 1041 }

def heap : Heap := #[]
def classes : Array Class := #[k0, k1, k2, k3, k4, k5, k6, k7, k8, k9, k10]
def interned : List (Array UInt16 × Addr) := []
def slotsUsed : Nat := 0
def theMethod : MethodId := ⟨1, 1⟩
def args0 : Array Value := #[.int 5, .int 5, .long 5, .long 5, .long 5, .long 5]
def aboutOver (below : List Frame) : State where
  vm := { classes := classes, interned := interned.toArray }
  heap := heap
  slotsUsed := slotsUsed
  threads := #[{ frames := .invoking theMethod args0 :: below }]
def below0 : List Frame := [.native { method := ⟨0, 0⟩, args := #[] }]
def about1 : State := aboutOver below0
def p0 : Program := .bare "" "" ""
def e0 : Env := launch0.env 0 0 0
theorem w_frames : about1.frames = Frame.invoking theMethod args0 :: below0 := rfl
set_option maxRecDepth 65536 in
theorem w_args : argsFit about1.vm theMethod args0 = true := by decide +kernel
set_option maxRecDepth 65536 in
theorem w_heap : heapFits about1 = true := by decide +kernel
set_option maxRecDepth 65536 in
theorem w_runnable : about1.curStatus? = some .runnable := by decide +kernel
set_option maxRecDepth 65536 in
theorem w_alone : about1.alone = true := by decide +kernel
set_option maxRecDepth 65536 in
theorem w_named : about1.methodNamed? x = some theMethod := by decide +kernel
set_option maxRecDepth 65536 in
theorem w_hears : about1.hears theMethod below0 = true := by decide +kernel
set_option maxRecDepth 65536 in
theorem w_ripe : about1.ripe theMethod args0 below0 = true := by decide +kernel
theorem w_running : about1.status = .running := rfl
set_option maxRecDepth 65536 in
theorem w_room : about1.hasRoom e0.platform room_1 = true :=
  launch0.hasRoom_least _ room_1 (by decide +kernel) (by decide +kernel) (by decide +kernel) (by decide +kernel) (by decide +kernel) (by decide +kernel)
theorem allAtoms_all (ts : List Jvm.Cond) (a : Array Jvm.Value) (st : Jvm.State) : (allAtoms ts).before a st = ts.all (fun c => c.before a st) := by
  induction ts with
  | nil => rfl
  | cons c t ih =>
    show (Jvm.Cond.and c (allAtoms t)).before a st = _
    rw [Jvm.Cond.before_and, ih, List.all_cons]
def words1 : List Jvm.Cond := Jvm.Cond.code x code maxLocals ret :: tables_1
/-- a 'code' word, met by the world's own term for the bytes: nothing is compared byte by byte -/
theorem code_word {y : MethodName} {bytes : ByteArray} {mx : Nat} {rt : Option FieldType} {a : Array Value} {s : State} {m : MethodId} {meth : Method} {c : Code} (h1 : s.methodNamed? y = some m) (h2 : s.vm.method? m = some meth) (h3 : meth.code = some c) (h4 : c.code = bytes)
    (h5 : (c.maxLocals == mx && c.exceptionTable.isEmpty && decide (c.maxStack ≤ mostOperands) && decide (meth.sig.returnType = rt) && !meth.locks && decide (parseMethodDescriptor y.desc = some meth.sig)) = true) : (Jvm.Cond.code y bytes mx rt).before a s = true := by
  simp only [Bool.and_eq_true, beq_iff_eq, Bool.not_eq_true', decide_eq_true_eq] at h5
  obtain ⟨⟨⟨⟨⟨g1, g2⟩, g3⟩, g4⟩, g5⟩, g6⟩ := h5
  simp [Cond.before, Cond.holds, Cond.value, h1, h2, h3, h4, g1, g2, g3, g4, g5, g6]
def isCode : Jvm.Cond → Bool
  | .code _ _ _ _ => true
  | _ => false
theorem all_split {L : List Jvm.Cond} {P : Jvm.Cond → Bool} (h1 : L.all (fun c => isCode c || P c) = true) (h2 : ∀ c ∈ L.filter isCode, P c = true) : L.all P = true := by
  refine List.all_eq_true.mpr fun c hc => ?_
  have h := List.all_eq_true.mp h1 c hc
  rcases Bool.eq_false_or_eq_true (isCode c) with hi | hi
  · exact h2 c (List.mem_filter.mpr ⟨hc, hi⟩)
  · simpa [hi] using h
set_option maxRecDepth 65536 in
theorem w_c0 : (Jvm.Cond.code x code maxLocals ret).before args0 about1 = true := code_word (m := ⟨1, 1⟩) (meth := k1m1) (c := k1c1) (by decide +kernel) rfl rfl rfl (by decide +kernel)
set_option maxRecDepth 65536 in
theorem w_c1 : (Jvm.Cond.code ({ cls := "com/example/umbrella_state/umbrellastate/runtime/DelayedDeliveries", name := "<init>", desc := "()V" } : Jvm.MethodName) prog_52_method_1_code (1 : Nat) (Option.none : Option Jvm.ClassFile.FieldType)).before args0 about1 = true := code_word (m := ⟨2, 0⟩) (meth := k2m0) (c := k2c0) (by decide +kernel) rfl rfl rfl (by decide +kernel)
set_option maxRecDepth 65536 in
theorem w_c2 : (Jvm.Cond.code ({ cls := "java/lang/Object", name := "<init>", desc := "()V" } : Jvm.MethodName) object_method_1_code (1 : Nat) (Option.none : Option Jvm.ClassFile.FieldType)).before args0 about1 = true := code_word (m := ⟨0, 0⟩) (meth := k0m0) (c := k0c0) (by decide +kernel) rfl rfl rfl (by decide +kernel)
set_option maxRecDepth 65536 in
theorem w_c3 : (Jvm.Cond.code ({ cls := "com/example/umbrella_state/umbrellastate/runtime/Delivery", name := "<init>", desc := "(Ljava/util/function/Consumer;Lcom/example/umbrella_state/umbrellastate/model/Message;JJ)V" } : Jvm.MethodName) prog_54_method_1_code (7 : Nat) (Option.none : Option Jvm.ClassFile.FieldType)).before args0 about1 = true := code_word (m := ⟨3, 0⟩) (meth := k3m0) (c := k3c0) (by decide +kernel) rfl rfl rfl (by decide +kernel)
set_option maxRecDepth 65536 in
theorem w_c4 : (Jvm.Cond.code ({ cls := "com/example/umbrella_state/umbrellastate/runtime/DelayedDeliveries", name := "isEmpty", desc := "()Z" } : Jvm.MethodName) prog_52_method_2_code (1 : Nat) (Option.some Jvm.ClassFile.FieldType.boolean)).before args0 about1 = true := code_word (m := ⟨2, 1⟩) (meth := k2m1) (c := k2c1) (by decide +kernel) rfl rfl rfl (by decide +kernel)
set_option maxRecDepth 65536 in
theorem w_c5 : (Jvm.Cond.code ({ cls := "com/example/umbrella_state/umbrellastate/runtime/DelayedDeliveries", name := "poll", desc := "()Lcom/example/umbrella_state/umbrellastate/runtime/Delivery;" } : Jvm.MethodName) prog_52_method_5_code (11 : Nat) (Option.some (Jvm.ClassFile.FieldType.object "com/example/umbrella_state/umbrellastate/runtime/Delivery"))).before args0 about1 = true := code_word (m := ⟨2, 3⟩) (meth := k2m3) (c := k2c3) (by decide +kernel) rfl rfl rfl (by decide +kernel)
set_option maxRecDepth 65536 in
theorem w_c6 : (Jvm.Cond.code ({ cls := "com/example/umbrella_state/umbrellastate/runtime/DelayedDeliveries", name := "add", desc := "(Lcom/example/umbrella_state/umbrellastate/runtime/Delivery;)V" } : Jvm.MethodName) prog_52_method_4_code (5 : Nat) (Option.none : Option Jvm.ClassFile.FieldType)).before args0 about1 = true := code_word (m := ⟨2, 2⟩) (meth := k2m2) (c := k2c2) (by decide +kernel) rfl rfl rfl (by decide +kernel)
set_option maxRecDepth 65536 in
theorem w_c7 : (Jvm.Cond.code ({ cls := "com/example/umbrella_state/umbrellastate/runtime/DelayedDeliveries", name := "parentOf", desc := "(I)I" } : Jvm.MethodName) prog_52_method_11_code (1 : Nat) (Option.some Jvm.ClassFile.FieldType.int)).before args0 about1 = true := code_word (m := ⟨2, 6⟩) (meth := k2m6) (c := k2c6) (by decide +kernel) rfl rfl rfl (by decide +kernel)
set_option maxRecDepth 65536 in
theorem w_c8 : (Jvm.Cond.code ({ cls := "com/example/umbrella_state/umbrellastate/runtime/DelayedDeliveries", name := "goesBefore", desc := "(Lcom/example/umbrella_state/umbrellastate/runtime/Delivery;Lcom/example/umbrella_state/umbrellastate/runtime/Delivery;)Z" } : Jvm.MethodName) prog_52_method_10_code (2 : Nat) (Option.some Jvm.ClassFile.FieldType.boolean)).before args0 about1 = true := code_word (m := ⟨2, 5⟩) (meth := k2m5) (c := k2c5) (by decide +kernel) rfl rfl rfl (by decide +kernel)
set_option maxRecDepth 65536 in
theorem w_c9 : (Jvm.Cond.code ({ cls := "com/example/umbrella_state/umbrellastate/runtime/DelayedDeliveries", name := "lesserChild", desc := "([Lcom/example/umbrella_state/umbrellastate/runtime/Delivery;II)I" } : Jvm.MethodName) prog_52_method_9_code (5 : Nat) (Option.some Jvm.ClassFile.FieldType.int)).before args0 about1 = true := code_word (m := ⟨2, 4⟩) (meth := k2m4) (c := k2c4) (by decide +kernel) rfl rfl rfl (by decide +kernel)
def codes1 : List Jvm.Cond := [Jvm.Cond.code x code maxLocals ret, Jvm.Cond.code ({ cls := "com/example/umbrella_state/umbrellastate/runtime/DelayedDeliveries", name := "<init>", desc := "()V" } : Jvm.MethodName) prog_52_method_1_code (1 : Nat) (Option.none : Option Jvm.ClassFile.FieldType), Jvm.Cond.code ({ cls := "java/lang/Object", name := "<init>", desc := "()V" } : Jvm.MethodName) object_method_1_code (1 : Nat) (Option.none : Option Jvm.ClassFile.FieldType), Jvm.Cond.code ({ cls := "com/example/umbrella_state/umbrellastate/runtime/Delivery", name := "<init>", desc := "(Ljava/util/function/Consumer;Lcom/example/umbrella_state/umbrellastate/model/Message;JJ)V" } : Jvm.MethodName) prog_54_method_1_code (7 : Nat) (Option.none : Option Jvm.ClassFile.FieldType), Jvm.Cond.code ({ cls := "com/example/umbrella_state/umbrellastate/runtime/DelayedDeliveries", name := "isEmpty", desc := "()Z" } : Jvm.MethodName) prog_52_method_2_code (1 : Nat) (Option.some Jvm.ClassFile.FieldType.boolean), Jvm.Cond.code ({ cls := "com/example/umbrella_state/umbrellastate/runtime/DelayedDeliveries", name := "poll", desc := "()Lcom/example/umbrella_state/umbrellastate/runtime/Delivery;" } : Jvm.MethodName) prog_52_method_5_code (11 : Nat) (Option.some (Jvm.ClassFile.FieldType.object "com/example/umbrella_state/umbrellastate/runtime/Delivery")), Jvm.Cond.code ({ cls := "com/example/umbrella_state/umbrellastate/runtime/DelayedDeliveries", name := "add", desc := "(Lcom/example/umbrella_state/umbrellastate/runtime/Delivery;)V" } : Jvm.MethodName) prog_52_method_4_code (5 : Nat) (Option.none : Option Jvm.ClassFile.FieldType), Jvm.Cond.code ({ cls := "com/example/umbrella_state/umbrellastate/runtime/DelayedDeliveries", name := "parentOf", desc := "(I)I" } : Jvm.MethodName) prog_52_method_11_code (1 : Nat) (Option.some Jvm.ClassFile.FieldType.int), Jvm.Cond.code ({ cls := "com/example/umbrella_state/umbrellastate/runtime/DelayedDeliveries", name := "goesBefore", desc := "(Lcom/example/umbrella_state/umbrellastate/runtime/Delivery;Lcom/example/umbrella_state/umbrellastate/runtime/Delivery;)Z" } : Jvm.MethodName) prog_52_method_10_code (2 : Nat) (Option.some Jvm.ClassFile.FieldType.boolean), Jvm.Cond.code ({ cls := "com/example/umbrella_state/umbrellastate/runtime/DelayedDeliveries", name := "lesserChild", desc := "([Lcom/example/umbrella_state/umbrellastate/runtime/Delivery;II)I" } : Jvm.MethodName) prog_52_method_9_code (5 : Nat) (Option.some Jvm.ClassFile.FieldType.int)]
set_option maxRecDepth 65536 in
theorem codes_eq : words1.filter isCode = codes1 := rfl
theorem w_codes : ∀ c ∈ words1.filter isCode, c.before args0 about1 = true := by
  rw [codes_eq]
  intro c hc
  simp only [codes1, List.mem_cons, List.not_mem_nil, or_false] at hc
  rcases hc with rfl | rfl | rfl | rfl | rfl | rfl | rfl | rfl | rfl | rfl
  · exact w_c0
  · exact w_c1
  · exact w_c2
  · exact w_c3
  · exact w_c4
  · exact w_c5
  · exact w_c6
  · exact w_c7
  · exact w_c8
  · exact w_c9
set_option maxRecDepth 65536 in
theorem w_t1 : (words1.take 24).all (fun c => isCode c || c.before args0 about1) = true := by decide +kernel
set_option maxRecDepth 65536 in
theorem w_t2 : ((words1.drop 24).take 24).all (fun c => isCode c || c.before args0 about1) = true := by decide +kernel
set_option maxRecDepth 65536 in
theorem w_t3 : ((words1.drop 24).drop 24).all (fun c => isCode c || c.before args0 about1) = true := by decide +kernel
theorem w_tables : (allAtoms (Jvm.Cond.code x code maxLocals ret :: tables_1)).before args0 about1 = true := by
  rw [allAtoms_all]
  show words1.all (fun c => c.before args0 about1) = true
  refine all_split ?_ w_codes
  rw [← List.take_append_drop 24 words1, List.all_append, w_t1, ← List.take_append_drop 24 (words1.drop 24), List.all_append, w_t2, w_t3]
  rfl
set_option maxRecDepth 65536 in
theorem w_case : (Jvm.Cond.and given_1 narrow_1).before args0 about1 = true := by decide +kernel
theorem w_applies : (headSpec (Jvm.Cond.code x code maxLocals ret :: tables_1) room_1).applies x e0.platform about1 = true :=
  (Spec.applies_iff w_frames).mpr ⟨w_running, w_runnable, w_alone, w_named, w_hears, w_ripe, w_room, w_tables⟩
theorem atStart : AtStart classFile x code maxLocals ret World_1 tables_1 room_1 Calls_1 rest_1 Pre_1 launch0 p0 e0 about1 theMethod args0 below0 :=
  ⟨lists_1, trivial, launch0.admits_env _ _ _, launch0.least_env, fairChoices_fair.cas, fairChoices_fair.clock, w_frames, w_args, w_heap, w_applies, trivial, trivial, w_case⟩
end start1
theorem witness_1 : WitnessClaimed_1 := ⟨start1.p0, start1.e0, start1.about1, start1.theMethod, start1.args0, start1.below0, start1.atStart⟩
end Jvm.Pilot.@@N@@
