import JvmDerived
import JvmDerived.Pilot.@@N@@Statement
import JvmDerived.Pilot.@@N@@Code
set_option linter.unusedVariables false
set_option linter.unusedSimpArgs false
@@BLOCK:NumsL.lean.txt@@
@@BLOCK:Masks.lean.txt@@
namespace Jvm.Own
open Sem ClassFile Op Lib Jvm.Stand Jvm.Free Jvm.LawKit Jvm.RoadKit
/-! ## A program logic over an abstract heap: references count from the start's heap size. -/
def cv (k : Nat) : Value → Value
  | .ref i => .ref (k + i)
  | v => v
def cs (k : Nat) : Slot → Slot
  | .val v => .val (cv k v)
  | .unset => .unset
  | .second => .second
theorem cv_cat (k : Nat) (v : Value) : (cv k v).category = v.category := by cases v <;> rfl
theorem cv_isRef (k : Nat) (v : Value) : (cv k v).isRef = v.isRef := by cases v <;> rfl
theorem cv_fits (k : Nat) (t : FieldType) (v : Value) : fits t (cv k v) = fits t v := by cases v <;> cases t <;> rfl
theorem cv_narrow (k : Nat) (t : FieldType) (v : Value) : narrow t (cv k v) = cv k (narrow t v) := by cases v <;> cases t <;> rfl
theorem cv_default (k : Nat) (t : FieldType) : cv k (defaultValue t) = defaultValue t := by cases t <;> rfl
theorem cat_map (k : Nat) (S : List Value) : ((S.map (cv k)).map fun v => v.category) = S.map fun v => v.category := by
  rw [List.map_map]; exact List.map_congr_left fun v _ => cv_cat k v
/-- an object: the number of its class, its fields' values; or an array: its kind, its values -/
abbrev ACell := (Nat × List Value) ⊕ (FieldType × List Value)
abbrev AHeap := List ACell
/-- the classes: name, slots, fields (declaring class, name, descriptor, type) -/
abbrev KTab := List (String × Nat × List (String × String × String × FieldType))
/-- a method: name, bytes, max_locals, return type -/
abbrev Mth := MethodName × ByteArray × Nat × Option FieldType
def CellOk (Z : State) (K : KTab) (h : Heap) (a : Addr) : ACell → Prop
  | .inl (c, vs) => ∃ (C : String) (n : Nat) (fs : List (String × String × String × FieldType)), K[c]? = some (C, n, fs) ∧ vs.length = fs.length ∧ Exa Z h a C ∧ ∀ (j : Nat) (f : String × String × String × FieldType) (v : Value), fs[j]? = some f → vs[j]? = some v → Fld Z h a f.1 f.2.1 f.2.2.1 (cv Z.heap.size v)
  | .inr (ty, vs) => ∃ cell : Cell, Arr Z h a cell ty ∧ cell.slots = (vs.map (cv Z.heap.size)).toArray ∧ ∀ v ∈ vs, fits ty v = true
def Rel (Z : State) (K : KTab) (h : Heap) (H : AHeap) : Prop :=
  h.size = Z.heap.size + H.length ∧ ∀ (i : Nat) (c : ACell), H[i]? = some c → CellOk Z K h (Z.heap.size + i) c
def FOk (tb : List Cond) (C : String) (f : String × String × String × FieldType) : Prop :=
  (Cond.lays C f.1 f.2.1 f.2.2.1 ∈ tb ∨ Cond.laysFinal C f.1 f.2.1 f.2.2.1 ∈ tb) ∧ parseFieldDescriptor f.2.2.1 = some f.2.2.2
def KOk (tb : List Cond) (K : KTab) : Prop :=
  ∀ q ∈ K, Cond.instantiable q.1 q.2.1 ∈ tb ∧ (∀ f ∈ q.2.2, FOk tb q.1 f) ∧ (q.2.2.map fun f => f.2.1).Nodup
theorem KOk.nil {tb : List Cond} : KOk tb [] := fun _ h => nomatch h
theorem KOk.cons {tb : List Cond} {K : KTab} {q : String × Nat × List (String × String × String × FieldType)} (h1 : Cond.instantiable q.1 q.2.1 ∈ tb) (h2 : ∀ f ∈ q.2.2, FOk tb q.1 f) (h3 : (q.2.2.map fun f => f.2.1).Nodup) (h : KOk tb K) : KOk tb (q :: K) := fun x hx => by
  rcases List.mem_cons.mp hx with rfl | hx
  · exact ⟨h1, h2, h3⟩
  · exact h x hx
theorem fok0 {tb : List Cond} {C : String} : ∀ f ∈ ([] : List (String × String × String × FieldType)), FOk tb C f := fun _ h => nomatch h
theorem fokS {tb : List Cond} {C : String} {g : String × String × String × FieldType} {L : List (String × String × String × FieldType)} (h1 : FOk tb C g) (h2 : ∀ f ∈ L, FOk tb C f) : ∀ f ∈ g :: L, FOk tb C f := fun f hf => by
  rcases List.mem_cons.mp hf with rfl | hf
  · exact h1
  · exact h2 f hf
/-- where a walk stands -/
def Here (tb : List Cond) (K : KTab) (μ : Mth) (rm : Room) (H : AHeap) (Z : State) (a0 : Array Value) (p : Program) (l : Launch) (e : Env) (R : Room) (s : State) (m : MethodId) (args : Array Value) (below : List Frame) (meth : Method) (c : Code)
    (T : State) (locs : List Loc) (cells slots : Nat) : Prop :=
  Stand p l e R s m args below meth c T locs cells slots ∧ p.tables.exec = Jvm.exec ∧ Z.Warmed39 s.vm ∧ (∀ d ∈ tb, d.before a0 Z = true) ∧ c.code = μ.2.1 ∧ c.maxLocals = μ.2.2.1 ∧ meth.sig.returnType = μ.2.2.2 ∧ meth.name = μ.1.name ∧ meth.locks = false ∧
    s.vm.findClass μ.1.cls = some m.cls ∧ Rel Z K T.heap H ∧ Fr Z.heap.size locs ∧ rm.frames ≤ R.frames ∧ cells + rm.cells ≤ R.cells ∧ slots + rm.slots ≤ R.slots ∧ rm.locals ≤ R.locals
/-- how it ends -/
def Ends (K : KTab) (Q : Option Value → AHeap → Prop) (Z : State) (p : Program) (e : Env) (R : Room) (s : State) (below : List Frame) (T0 : State) : Prop :=
  ∃ (v : Option Value) (H' : AHeap) (T : State) (locs : List Loc) (fs : List Frame), Q v H' ∧ Steps p.tables e below T0 (T.setFrames fs) ∧ (T.setFrames fs).status = .running ∧ Ended (T.setFrames fs) below (.returned (v.map (cv Z.heap.size))) ∧
    s.WarmedH (T.setFrames fs).vm ∧ s.sameButNew ({ T.setFrames fs with vm := s.vm } : State) locs R.cells R.slots ∧ Fr Z.heap.size locs ∧ Rel Z K T.heap H'
/-- from the frame (pc, L, S) over the heap H the body returns, and Q -/
def W (tb : List Cond) (K : KTab) (μ : Mth) (rm : Room) (pc : Nat) (L : List Slot) (S : List Value) (H : AHeap) (Q : Option Value → AHeap → Prop) : Prop :=
  L.length = μ.2.2.1 → ∀ (Z : State) (a0 : Array Value) (p : Program) (l : Launch) (e : Env) (R : Room) (s : State) (m : MethodId) (args : Array Value) (below : List Frame) (meth : Method) (c : Code) (T : State) (locs : List Loc) (cells slots : Nat),
    Here tb K μ rm H Z a0 p l e R s m args below meth c T locs cells slots → Ends K Q Z p e R s below (T.setTop (mkF m pc (L.map (cs Z.heap.size)).toArray (S.map (cv Z.heap.size))))
/-- a call of μ comes back, and Q -/
def M (tb : List Cond) (K : KTab) (μ : Mth) (rm : Room) (as : List Value) (H : AHeap) (Q : Option Value → AHeap → Prop) : Prop :=
  ∀ (Z : State) (a0 : Array Value), (∀ d ∈ tb, d.before a0 Z = true) → ∀ (l : Launch) (h : Heap) (ws : List Cond), Rel Z K h H →
    MetFree l μ.1 (head1 (Cond.code μ.1 μ.2.1 μ.2.2.1 μ.2.2.2 :: ws) rm) (fun a U => a = (as.map (cv Z.heap.size)).toArray ∧ Z.Warmed39 U.vm ∧ U.heap = h) (fun _ _ _ _ _ => True)
      (fun _ U o U' => ∃ v L, o = .returned v ∧ (∃ v' H', v = v'.map (cv Z.heap.size) ∧ Rel Z K U'.heap H' ∧ Q v' H' ∧ Fr Z.heap.size L) ∧ FrameEnd U o U' L rm.cells rm.slots)
section Logic
variable {tb : List Cond} {K : KTab} {μ : Mth} {rm : Room} {pc : Nat} {L : List Slot} {S : List Value} {H : AHeap} {Q Q' : Option Value → AHeap → Prop}
theorem Ends.mono {Z : State} {p : Program} {e : Env} {R : Room} {s : State} {below : List Frame} {T0 : State} (h : Ends K Q Z p e R s below T0) (hq : ∀ v H, Q v H → Q' v H) : Ends K Q' Z p e R s below T0 := by
  obtain ⟨v, H', T, locs, fs, h1, r⟩ := h; exact ⟨v, H', T, locs, fs, hq _ _ h1, r⟩
theorem W.mono (h : W tb K μ rm pc L S H Q) (hq : ∀ v H, Q v H → Q' v H) : W tb K μ rm pc L S H Q' := fun hl Z a0 p l e R s m args below meth c T locs cells slots X => (h hl Z a0 p l e R s m args below meth c T locs cells slots X).mono hq
theorem M.mono {as : List Value} (h : M tb K μ rm as H Q) (hq : ∀ v H, Q v H → Q' v H) : M tb K μ rm as H Q' := fun Z a0 hw l h0 ws hr p e ha hc hk s m args below hf happ hP hK => by
  obtain ⟨n, o, h1, h2, h3, v, L, h4, ⟨v', H', h5, h6, h7, h8⟩, h9⟩ := h Z a0 hw l h0 ws hr p e ha hc hk s m args below hf happ hP hK
  exact ⟨n, o, h1, h2, h3, v, L, h4, ⟨v', H', h5, h6, hq _ _ h7, h8⟩, h9⟩
theorem Ends.steps {Z : State} {p : Program} {e : Env} {R : Room} {s : State} {below : List Frame} {T0 T1 : State} (st : ∀ target, Steps p.tables e below T1 target → Steps p.tables e below T0 target) (h : Ends K Q Z p e R s below T1) : Ends K Q Z p e R s below T0 := by
  obtain ⟨v, H', T, locs, fs, h1, h2, r⟩ := h; exact ⟨v, H', T, locs, fs, h1, st _ h2, r⟩
/-- a step that moves the frame alone -/
theorem W.pure {pc' : Nat} {L' : List Slot} {S' : List Value} (hl : L'.length = L.length)
    (st : ∀ (k : Nat) (p : Program) (e : Env) (m : MethodId) (below : List Frame) (c : Code) (T : State), At T m c below → p.tables.exec = Jvm.exec → c.code = μ.2.1 → ∀ target, Steps p.tables e below (T.setTop (mkF m pc' (L'.map (cs k)).toArray (S'.map (cv k)))) target → Steps p.tables e below (T.setTop (mkF m pc (L.map (cs k)).toArray (S.map (cv k)))) target)
    (h : W tb K μ rm pc' L' S' H Q) : W tb K μ rm pc L S H Q := fun hL Z a0 p l e R s m args below meth c T locs cells slots X =>
  (h (hl.trans hL) Z a0 p l e R s m args below meth c T locs cells slots X).steps (st _ p e m below c T X.1.here X.2.1 X.2.2.2.2.1)
theorem get_conc {k : Nat} {i : Nat} {v : Value} (h : L[i]? = some (.val v)) : (L.map (cs k)).toArray[i]? = some (.val (cv k v)) := by
  simp [h, cs]
theorem W.iload_n {i : Fin 4} {x : Int32} (hd : decode μ.2.1 pc = .ok (.iload_n i, 1)) (hl : L[i.val]? = some (.val (.int x))) (h : W tb K μ rm (pc + 1) L (.int x :: S) H Q) : W tb K μ rm pc L S H Q :=
  W.pure rfl (fun k p e m below c T hA hx hb' t ht => XS.iloadN hA hx rfl (hb hb' hd) (get_conc hl) ht) h
theorem W.iload {i : Nat} {x : Int32} (hd : decode μ.2.1 pc = .ok (.iload i, 2)) (hl : L[i]? = some (.val (.int x))) (h : W tb K μ rm (pc + 2) L (.int x :: S) H Q) : W tb K μ rm pc L S H Q :=
  W.pure rfl (fun k p e m below c T hA hx hb' t ht => XS.iload hA hx rfl (hb hb' hd) (get_conc hl) ht) h
theorem W.lload_n {i : Fin 4} {x : Int64} (hd : decode μ.2.1 pc = .ok (.lload_n i, 1)) (hl : L[i.val]? = some (.val (.long x))) (h : W tb K μ rm (pc + 1) L (.long x :: S) H Q) : W tb K μ rm pc L S H Q :=
  W.pure rfl (fun k p e m below c T hA hx hb' t ht => XS.lloadN hA hx rfl (hb hb' hd) (get_conc hl) ht) h
theorem W.lload {i : Nat} {x : Int64} (hd : decode μ.2.1 pc = .ok (.lload i, 2)) (hl : L[i]? = some (.val (.long x))) (h : W tb K μ rm (pc + 2) L (.long x :: S) H Q) : W tb K μ rm pc L S H Q :=
  W.pure rfl (fun k p e m below c T hA hx hb' t ht => XS.lload hA hx rfl (hb hb' hd) (get_conc hl) ht) h
theorem W.aload_n {i : Fin 4} {v : Value} (hd : decode μ.2.1 pc = .ok (.aload_n i, 1)) (hl : L[i.val]? = some (.val v)) (hv : v.isRef = true) (h : W tb K μ rm (pc + 1) L (v :: S) H Q) : W tb K μ rm pc L S H Q :=
  W.pure rfl (fun k p e m below c T hA hx hb' t ht => XS.aloadN hA hx rfl (hb hb' hd) (get_conc hl) (by rw [cv_isRef]; exact hv) ht) h
theorem W.aload {i : Nat} {v : Value} (hd : decode μ.2.1 pc = .ok (.aload i, 2)) (hl : L[i]? = some (.val v)) (hv : v.isRef = true) (h : W tb K μ rm (pc + 2) L (v :: S) H Q) : W tb K μ rm pc L S H Q :=
  W.pure rfl (fun k p e m below c T hA hx hb' t ht => XS.aload hA hx rfl (hb hb' hd) (get_conc hl) (by rw [cv_isRef]; exact hv) ht) h
theorem W.iadd {x y : Int32} (hd : decode μ.2.1 pc = .ok (.iadd, 1)) (h : W tb K μ rm (pc + 1) L (.int (x + y) :: S) H Q) : W tb K μ rm pc L (.int y :: .int x :: S) H Q :=
  W.pure rfl (fun k p e m below c T hA hx hb' t ht => XS.iadd hA hx rfl (hb hb' hd) rfl ht) h
theorem W.isub {x y : Int32} (hd : decode μ.2.1 pc = .ok (.isub, 1)) (h : W tb K μ rm (pc + 1) L (.int (x - y) :: S) H Q) : W tb K μ rm pc L (.int y :: .int x :: S) H Q :=
  W.pure rfl (fun k p e m below c T hA hx hb' t ht => XS.isub hA hx rfl (hb hb' hd) rfl ht) h
theorem W.imul {x y : Int32} (hd : decode μ.2.1 pc = .ok (.imul, 1)) (h : W tb K μ rm (pc + 1) L (.int (x * y) :: S) H Q) : W tb K μ rm pc L (.int y :: .int x :: S) H Q :=
  W.pure rfl (fun k p e m below c T hA hx hb' t ht => XS.imul hA hx rfl (hb hb' hd) rfl ht) h
theorem W.idiv {x y : Int32} (hd : decode μ.2.1 pc = .ok (.idiv, 1)) (hy : y ≠ 0) (h : W tb K μ rm (pc + 1) L (.int (x / y) :: S) H Q) : W tb K μ rm pc L (.int y :: .int x :: S) H Q :=
  W.pure rfl (fun k p e m below c T hA hx hb' t ht => XS.idiv hA hx rfl (hb hb' hd) rfl hy ht) h
theorem W.irem {x y : Int32} (hd : decode μ.2.1 pc = .ok (.irem, 1)) (hy : y ≠ 0) (h : W tb K μ rm (pc + 1) L (.int (x % y) :: S) H Q) : W tb K μ rm pc L (.int y :: .int x :: S) H Q :=
  W.pure rfl (fun k p e m below c T hA hx hb' t ht => XS.irem hA hx rfl (hb hb' hd) rfl hy (by rw [irem_eq_mod x y]; exact ht)) h
theorem W.ineg {x : Int32} (hd : decode μ.2.1 pc = .ok (.ineg, 1)) (h : W tb K μ rm (pc + 1) L (.int (-x) :: S) H Q) : W tb K μ rm pc L (.int x :: S) H Q :=
  W.pure rfl (fun k p e m below c T hA hx hb' t ht => XS.ineg hA hx rfl (hb hb' hd) rfl ht) h
theorem W.iand {x y : Int32} (hd : decode μ.2.1 pc = .ok (.iand, 1)) (h : W tb K μ rm (pc + 1) L (.int (x &&& y) :: S) H Q) : W tb K μ rm pc L (.int y :: .int x :: S) H Q :=
  W.pure rfl (fun k p e m below c T hA hx hb' t ht => XS.iand hA hx rfl (hb hb' hd) rfl ht) h
theorem W.ior {x y : Int32} (hd : decode μ.2.1 pc = .ok (.ior, 1)) (h : W tb K μ rm (pc + 1) L (.int (x ||| y) :: S) H Q) : W tb K μ rm pc L (.int y :: .int x :: S) H Q :=
  W.pure rfl (fun k p e m below c T hA hx hb' t ht => XT.ior hA hx rfl (hb hb' hd) rfl ht) h
theorem W.ixor {x y : Int32} (hd : decode μ.2.1 pc = .ok (.ixor, 1)) (h : W tb K μ rm (pc + 1) L (.int (x ^^^ y) :: S) H Q) : W tb K μ rm pc L (.int y :: .int x :: S) H Q :=
  W.pure rfl (fun k p e m below c T hA hx hb' t ht => XT.ixor hA hx rfl (hb hb' hd) rfl ht) h
theorem W.ishl {x y : Int32} (hd : decode μ.2.1 pc = .ok (.ishl, 1)) (h : W tb K μ rm (pc + 1) L (.int (x <<< (y &&& 31)) :: S) H Q) : W tb K μ rm pc L (.int y :: .int x :: S) H Q :=
  W.pure rfl (fun k p e m below c T hA hx hb' t ht => XT.ishl hA hx rfl (hb hb' hd) rfl ht) h
theorem W.ishr {x y : Int32} (hd : decode μ.2.1 pc = .ok (.ishr, 1)) (h : W tb K μ rm (pc + 1) L (.int (x >>> (y &&& 31)) :: S) H Q) : W tb K μ rm pc L (.int y :: .int x :: S) H Q :=
  W.pure rfl (fun k p e m below c T hA hx hb' t ht => XT.ishr hA hx rfl (hb hb' hd) rfl ht) h
theorem W.iushr {x y : Int32} (hd : decode μ.2.1 pc = .ok (.iushr, 1)) (h : W tb K μ rm (pc + 1) L (.int (XT.ushr x y) :: S) H Q) : W tb K μ rm pc L (.int y :: .int x :: S) H Q :=
  W.pure rfl (fun k p e m below c T hA hx hb' t ht => XT.iushr hA hx rfl (hb hb' hd) rfl ht) h
theorem W.ladd {x y : Int64} (hd : decode μ.2.1 pc = .ok (.ladd, 1)) (h : W tb K μ rm (pc + 1) L (.long (x + y) :: S) H Q) : W tb K μ rm pc L (.long y :: .long x :: S) H Q :=
  W.pure rfl (fun k p e m below c T hA hx hb' t ht => XT.ladd hA hx rfl (hb hb' hd) rfl ht) h
theorem W.lsub {x y : Int64} (hd : decode μ.2.1 pc = .ok (.lsub, 1)) (h : W tb K μ rm (pc + 1) L (.long (x - y) :: S) H Q) : W tb K μ rm pc L (.long y :: .long x :: S) H Q :=
  W.pure rfl (fun k p e m below c T hA hx hb' t ht => XT.lsub hA hx rfl (hb hb' hd) rfl ht) h
theorem W.lmul {x y : Int64} (hd : decode μ.2.1 pc = .ok (.lmul, 1)) (h : W tb K μ rm (pc + 1) L (.long (x * y) :: S) H Q) : W tb K μ rm pc L (.long y :: .long x :: S) H Q :=
  W.pure rfl (fun k p e m below c T hA hx hb' t ht => XT.lmul hA hx rfl (hb hb' hd) rfl ht) h
theorem W.ldiv {x y : Int64} (hd : decode μ.2.1 pc = .ok (.ldiv, 1)) (hy : y ≠ 0) (h : W tb K μ rm (pc + 1) L (.long (x / y) :: S) H Q) : W tb K μ rm pc L (.long y :: .long x :: S) H Q :=
  W.pure rfl (fun k p e m below c T hA hx hb' t ht => XT.ldiv hA hx rfl (hb hb' hd) rfl hy ht) h
theorem W.land {x y : Int64} (hd : decode μ.2.1 pc = .ok (.land, 1)) (h : W tb K μ rm (pc + 1) L (.long (x &&& y) :: S) H Q) : W tb K μ rm pc L (.long y :: .long x :: S) H Q :=
  W.pure rfl (fun k p e m below c T hA hx hb' t ht => XT.land hA hx rfl (hb hb' hd) rfl ht) h
theorem W.lor {x y : Int64} (hd : decode μ.2.1 pc = .ok (.lor, 1)) (h : W tb K μ rm (pc + 1) L (.long (x ||| y) :: S) H Q) : W tb K μ rm pc L (.long y :: .long x :: S) H Q :=
  W.pure rfl (fun k p e m below c T hA hx hb' t ht => XT.lor hA hx rfl (hb hb' hd) rfl ht) h
theorem W.lxor {x y : Int64} (hd : decode μ.2.1 pc = .ok (.lxor, 1)) (h : W tb K μ rm (pc + 1) L (.long (x ^^^ y) :: S) H Q) : W tb K μ rm pc L (.long y :: .long x :: S) H Q :=
  W.pure rfl (fun k p e m below c T hA hx hb' t ht => XT.lxor hA hx rfl (hb hb' hd) rfl ht) h
theorem W.lshl {x : Int64} {y : Int32} (hd : decode μ.2.1 pc = .ok (.lshl, 1)) (h : W tb K μ rm (pc + 1) L (.long (x <<< (y.toInt64 &&& 63)) :: S) H Q) : W tb K μ rm pc L (.int y :: .long x :: S) H Q :=
  W.pure rfl (fun k p e m below c T hA hx hb' t ht => XT.lshl hA hx rfl (hb hb' hd) rfl ht) h
theorem W.lushr {x : Int64} {y : Int32} (hd : decode μ.2.1 pc = .ok (.lushr, 1)) (h : W tb K μ rm (pc + 1) L (.long (XT.ushrL x y) :: S) H Q) : W tb K μ rm pc L (.int y :: .long x :: S) H Q :=
  W.pure rfl (fun k p e m below c T hA hx hb' t ht => XT.lushr hA hx rfl (hb hb' hd) rfl ht) h
theorem W.lcmp {x y : Int64} (hd : decode μ.2.1 pc = .ok (.lcmp, 1)) (h : W tb K μ rm (pc + 1) L (.int (XT.cmpL x y) :: S) H Q) : W tb K μ rm pc L (.long y :: .long x :: S) H Q :=
  W.pure rfl (fun k p e m below c T hA hx hb' t ht => XT.lcmp hA hx rfl (hb hb' hd) rfl ht) h
theorem W.i2l {x : Int32} (hd : decode μ.2.1 pc = .ok (.i2l, 1)) (h : W tb K μ rm (pc + 1) L (.long x.toInt64 :: S) H Q) : W tb K μ rm pc L (.int x :: S) H Q :=
  W.pure rfl (fun k p e m below c T hA hx hb' t ht => XT.i2l hA hx rfl (hb hb' hd) rfl ht) h
theorem W.l2i {x : Int64} (hd : decode μ.2.1 pc = .ok (.l2i, 1)) (h : W tb K μ rm (pc + 1) L (.int x.toInt32 :: S) H Q) : W tb K μ rm pc L (.long x :: S) H Q :=
  W.pure rfl (fun k p e m below c T hA hx hb' t ht => XT.l2i hA hx rfl (hb hb' hd) rfl ht) h
theorem W.i2b {x : Int32} (hd : decode μ.2.1 pc = .ok (.i2b, 1)) (h : W tb K μ rm (pc + 1) L (.int x.toInt8.toInt32 :: S) H Q) : W tb K μ rm pc L (.int x :: S) H Q :=
  W.pure rfl (fun k p e m below c T hA hx hb' t ht => XT.i2b hA hx rfl (hb hb' hd) rfl ht) h
theorem W.i2c {x : Int32} (hd : decode μ.2.1 pc = .ok (.i2c, 1)) (h : W tb K μ rm (pc + 1) L (.int x.toUInt32.toUInt16.toUInt32.toInt32 :: S) H Q) : W tb K μ rm pc L (.int x :: S) H Q :=
  W.pure rfl (fun k p e m below c T hA hx hb' t ht => XT.i2c hA hx rfl (hb hb' hd) rfl ht) h
theorem W.iconst {i : Int} (hd : decode μ.2.1 pc = .ok (.iconst i, 1)) (h : W tb K μ rm (pc + 1) L (.int (Int32.ofInt i) :: S) H Q) : W tb K μ rm pc L (S) H Q :=
  W.pure rfl (fun k p e m below c T hA hx hb' t ht => XS.iconst hA hx rfl (hb hb' hd) ht) h
theorem W.bipush {i : Int} (hd : decode μ.2.1 pc = .ok (.bipush i, 2)) (h : W tb K μ rm (pc + 2) L (.int (Int8.ofInt i).toInt32 :: S) H Q) : W tb K μ rm pc L (S) H Q :=
  W.pure rfl (fun k p e m below c T hA hx hb' t ht => XS.bipush hA hx rfl (hb hb' hd) ht) h
theorem W.sipush {i : Int} (hd : decode μ.2.1 pc = .ok (.sipush i, 3)) (h : W tb K μ rm (pc + 3) L (.int (Int16.ofInt i).toInt32 :: S) H Q) : W tb K μ rm pc L (S) H Q :=
  W.pure rfl (fun k p e m below c T hA hx hb' t ht => XS.sipush hA hx rfl (hb hb' hd) ht) h
theorem W.lconst {i : Fin 2} (hd : decode μ.2.1 pc = .ok (.lconst i, 1)) (h : W tb K μ rm (pc + 1) L (.long (Int64.ofNat i) :: S) H Q) : W tb K μ rm pc L (S) H Q :=
  W.pure rfl (fun k p e m below c T hA hx hb' t ht => XT.lconst hA hx rfl (hb hb' hd) ht) h
theorem W.aconst_null  (hd : decode μ.2.1 pc = .ok (.aconst_null, 1)) (h : W tb K μ rm (pc + 1) L (.null :: S) H Q) : W tb K μ rm pc L (S) H Q :=
  W.pure rfl (fun k p e m below c T hA hx hb' t ht => XS.aconstNull hA hx rfl (hb hb' hd) ht) h
theorem W.dup {v : Value} (hd : decode μ.2.1 pc = .ok (.dup, 1)) (hc : v.category = 1) (h : W tb K μ rm (pc + 1) L (v :: v :: S) H Q) : W tb K μ rm pc L (v :: S) H Q :=
  W.pure rfl (fun k p e m below c T hA hx hb' t ht => XS.dup hA hx rfl (hb hb' hd) rfl (by rw [cv_cat]; exact hc) ht) h
theorem W.pop {v : Value} (hd : decode μ.2.1 pc = .ok (.pop, 1)) (hc : v.category = 1) (h : W tb K μ rm (pc + 1) L (S) H Q) : W tb K μ rm pc L (v :: S) H Q :=
  W.pure rfl (fun k p e m below c T hA hx hb' t ht => XT.pop hA hx rfl (hb hb' hd) rfl (by rw [cv_cat]; exact hc) ht) h
theorem W.dup_x1 {v w : Value} (hd : decode μ.2.1 pc = .ok (.dup_x1, 1)) (hc : v.category = 1) (hc' : w.category = 1) (h : W tb K μ rm (pc + 1) L (v :: w :: v :: S) H Q) : W tb K μ rm pc L (v :: w :: S) H Q :=
  W.pure rfl (fun k p e m below c T hA hx hb' t ht => XT.dupX1 hA hx rfl (hb hb' hd) rfl (by rw [cv_cat]; exact hc) (by rw [cv_cat]; exact hc') ht) h
theorem W.iconst' {i : Int} {x : Int32} (hd : decode μ.2.1 pc = .ok (.iconst i, 1)) (hx : Int32.ofInt i = x) (h : W tb K μ rm (pc + 1) L (.int x :: S) H Q) : W tb K μ rm pc L S H Q := W.iconst hd (by rw [hx]; exact h)
theorem W.bipush' {i : Int} {x : Int32} (hd : decode μ.2.1 pc = .ok (.bipush i, 2)) (hx : (Int8.ofInt i).toInt32 = x) (h : W tb K μ rm (pc + 2) L (.int x :: S) H Q) : W tb K μ rm pc L S H Q := W.bipush hd (by rw [hx]; exact h)
theorem W.sipush' {i : Int} {x : Int32} (hd : decode μ.2.1 pc = .ok (.sipush i, 3)) (hx : (Int16.ofInt i).toInt32 = x) (h : W tb K μ rm (pc + 3) L (.int x :: S) H Q) : W tb K μ rm pc L S H Q := W.sipush hd (by rw [hx]; exact h)
theorem W.lconst' {i : Fin 2} {x : Int64} (hd : decode μ.2.1 pc = .ok (.lconst i, 1)) (hx : Int64.ofNat i = x) (h : W tb K μ rm (pc + 1) L (.long x :: S) H Q) : W tb K μ rm pc L S H Q := W.lconst hd (by rw [hx]; exact h)
/-- a local of one word -/
def one : Slot → Bool
  | .unset => true
  | .val v => v.category == 1
  | .second => false
theorem cs_one {k : Nat} {o : Slot} (h : one o = true) : cs k o = .unset ∨ ∃ w, cs k o = .val w ∧ w.category = 1 := by
  cases o with
  | unset => exact Or.inl rfl
  | second => cases h
  | val v => exact Or.inr ⟨cv k v, rfl, by rw [cv_cat]; simpa [one] using h⟩
theorem set_conc {k i : Nat} {x : Slot} : (L.map (cs k)).toArray.setIfInBounds i (cs k x) = ((L.set i x).map (cs k)).toArray := by
  simp [List.map_set]
theorem sto1 {k i : Nat} {o : Slot} {v : Value} (hl : L[i]? = some o) (ho : one o = true) (hv : v.category = 1) : storeLocals (L.map (cs k)).toArray i (cv k v) = some ((L.set i (.val v)).map (cs k)).toArray := by
  rw [XS.store1 (o := cs k o) (by simp [hl]) (cs_one ho) (by rw [cv_cat]; exact hv)]
  exact congrArg some (set_conc (x := .val v))
/-- over the first half of a long -/
theorem sto1w {k i : Nat} {w v : Value} (hl : L[i]? = some (.val w)) (ho : w.category = 2) (hi : i + 1 < L.length) (hv : v.category = 1) : storeLocals (L.map (cs k)).toArray i (cv k v) = some (((L.set (i + 1) .unset).set i (.val v)).map (cs k)).toArray := by
  have h0 : i < L.length := by omega
  have e : L[i] = .val w := by rw [List.getElem?_eq_getElem h0] at hl; exact Option.some.inj hl
  simp [storeLocals, storeSelf, setAt, h0, e, cs, cv_cat, ho, hi, hv, List.map_set]
/-- over the second half of a long -/
theorem sto1s {k i : Nat} {v : Value} (hl : L[i]? = some .second) (hi : 0 < i) (hv : v.category = 1) : storeLocals (L.map (cs k)).toArray i (cv k v) = some (((L.set (i - 1) .unset).set i (.val v)).map (cs k)).toArray := by
  have h0 : i < L.length := (List.getElem?_eq_some_iff.mp hl).1
  have e : L[i] = .second := by rw [List.getElem?_eq_getElem h0] at hl; exact Option.some.inj hl
  have h1 : i - 1 < L.length := by omega
  simp [storeLocals, storeSelf, setAt, h0, h1, e, cs, cv_cat, hv, List.map_set]
/-- what a long may be stored over -/
def two : Slot → Slot → Bool
  | .second, _ => false
  | _, .val w => w.category == 1
  | _, _ => true
theorem sto2 {k i : Nat} {o o' : Slot} {x : Int64} (hl : L[i]? = some o) (hl' : L[i + 1]? = some o') (ho : two o o' = true) : storeLocals (L.map (cs k)).toArray i (.long x) = some (((L.set i (.val (.long x))).set (i + 1) .second).map (cs k)).toArray := by
  have h0 : i < L.length := (List.getElem?_eq_some_iff.mp hl).1
  have h1 : i + 1 < L.length := (List.getElem?_eq_some_iff.mp hl').1
  have e : L[i] = o := by rw [List.getElem?_eq_getElem h0] at hl; exact Option.some.inj hl
  have e' : L[i + 1] = o' := by rw [List.getElem?_eq_getElem h1] at hl'; exact Option.some.inj hl'
  have ne : ¬ (i = i + 1) := by omega
  have c2 : (Value.long x).category = 2 := rfl
  have cl : cv k (.long x) = .long x := rfl
  have sw : ∀ (l : List Slot) (u v w : Slot), ((l.set (i + 1) u).set i v).set (i + 1) w = (l.set i v).set (i + 1) w := fun l u v w => by
    rw [List.set_comm _ _ (by omega : i + 1 ≠ i), List.set_set]
  cases o with
  | second => cases ho
  | unset =>
    cases o' with
    | unset => simp [storeLocals, storeSelf, setAt, h0, h1, e, e', cs, c2, cl, List.map_set]
    | second => simp [storeLocals, storeSelf, setAt, h0, h1, e, e', cs, c2, cl, List.map_set]
    | val w' =>
      have hc : w'.category = 1 := by simpa [two] using ho
      simp [storeLocals, storeSelf, setAt, h0, h1, e, e', cs, cv_cat, hc, c2, cl, List.map_set]
  | val w =>
    by_cases hw : w.category = 2
    · simp [storeLocals, storeSelf, setAt, h0, h1, e, cs, cv_cat, hw, c2, cl, List.map_set, sw]
    · cases o' with
      | unset => simp [storeLocals, storeSelf, setAt, h0, h1, e, e', cs, cv_cat, hw, c2, cl, List.map_set]
      | second => simp [storeLocals, storeSelf, setAt, h0, h1, e, e', cs, cv_cat, hw, c2, cl, List.map_set]
      | val w' =>
        have hc : w'.category = 1 := by simpa [two] using ho
        simp [storeLocals, storeSelf, setAt, h0, h1, e, e', cs, cv_cat, hw, hc, c2, cl, List.map_set]
theorem W.istore_n {i : Fin 4} {o : Slot} {x : Int32} (hd : decode μ.2.1 pc = .ok (.istore_n i, 1)) (hl : L[i.val]? = some o) (ho : one o = true) (h : W tb K μ rm (pc + 1) (L.set i.val (.val (.int x))) S H Q) : W tb K μ rm pc L (.int x :: S) H Q :=
  W.pure (by simp) (fun k p e m below c T hA hx hb' t ht => XS.istoreN hA hx rfl (hb hb' hd) rfl (sto1 (v := .int x) hl ho rfl) ht) h
theorem W.istore_nW {i : Fin 4} {w : Value} {x : Int32} (hd : decode μ.2.1 pc = .ok (.istore_n i, 1)) (hl : L[i.val]? = some (.val w)) (ho : w.category = 2) (hi : i.val + 1 < L.length) (h : W tb K μ rm (pc + 1) ((L.set (i.val + 1) .unset).set i.val (.val (.int x))) S H Q) : W tb K μ rm pc L (.int x :: S) H Q :=
  W.pure (by simp) (fun k p e m below c T hA hx hb' t ht => XS.istoreN hA hx rfl (hb hb' hd) rfl (sto1w (v := .int x) hl ho hi rfl) ht) h
theorem W.istore_nS {i : Fin 4} {x : Int32} (hd : decode μ.2.1 pc = .ok (.istore_n i, 1)) (hl : L[i.val]? = some .second) (hi : 0 < i.val) (h : W tb K μ rm (pc + 1) ((L.set (i.val - 1) .unset).set i.val (.val (.int x))) S H Q) : W tb K μ rm pc L (.int x :: S) H Q :=
  W.pure (by simp) (fun k p e m below c T hA hx hb' t ht => XS.istoreN hA hx rfl (hb hb' hd) rfl (sto1s (v := .int x) hl hi rfl) ht) h
theorem W.istore {i : Nat} {o : Slot} {x : Int32} (hd : decode μ.2.1 pc = .ok (.istore i, 2)) (hl : L[i]? = some o) (ho : one o = true) (h : W tb K μ rm (pc + 2) (L.set i (.val (.int x))) S H Q) : W tb K μ rm pc L (.int x :: S) H Q :=
  W.pure (by simp) (fun k p e m below c T hA hx hb' t ht => XS.istore hA hx rfl (hb hb' hd) rfl (sto1 (v := .int x) hl ho rfl) ht) h
theorem W.istoreW {i : Nat} {w : Value} {x : Int32} (hd : decode μ.2.1 pc = .ok (.istore i, 2)) (hl : L[i]? = some (.val w)) (ho : w.category = 2) (hi : i + 1 < L.length) (h : W tb K μ rm (pc + 2) ((L.set (i + 1) .unset).set i (.val (.int x))) S H Q) : W tb K μ rm pc L (.int x :: S) H Q :=
  W.pure (by simp) (fun k p e m below c T hA hx hb' t ht => XS.istore hA hx rfl (hb hb' hd) rfl (sto1w (v := .int x) hl ho hi rfl) ht) h
theorem W.istoreS {i : Nat} {x : Int32} (hd : decode μ.2.1 pc = .ok (.istore i, 2)) (hl : L[i]? = some .second) (hi : 0 < i) (h : W tb K μ rm (pc + 2) ((L.set (i - 1) .unset).set i (.val (.int x))) S H Q) : W tb K μ rm pc L (.int x :: S) H Q :=
  W.pure (by simp) (fun k p e m below c T hA hx hb' t ht => XS.istore hA hx rfl (hb hb' hd) rfl (sto1s (v := .int x) hl hi rfl) ht) h
theorem W.astore_n {i : Fin 4} {o : Slot} {v : Value} (hd : decode μ.2.1 pc = .ok (.astore_n i, 1)) (hl : L[i.val]? = some o) (ho : one o = true) (hv : v.isRef = true) (h : W tb K μ rm (pc + 1) (L.set i.val (.val v)) S H Q) : W tb K μ rm pc L (v :: S) H Q :=
  W.pure (by simp) (fun k p e m below c T hA hx hb' t ht => XS.astoreN hA hx rfl (hb hb' hd) rfl (by rw [cv_isRef]; exact hv) (sto1 (v := v) hl ho (by cases v <;> first | rfl | cases hv)) ht) h
theorem W.astore {i : Nat} {o : Slot} {v : Value} (hd : decode μ.2.1 pc = .ok (.astore i, 2)) (hl : L[i]? = some o) (ho : one o = true) (hv : v.isRef = true) (h : W tb K μ rm (pc + 2) (L.set i (.val v)) S H Q) : W tb K μ rm pc L (v :: S) H Q :=
  W.pure (by simp) (fun k p e m below c T hA hx hb' t ht => XS.astore hA hx rfl (hb hb' hd) rfl (by rw [cv_isRef]; exact hv) (sto1 (v := v) hl ho (by cases v <;> first | rfl | cases hv)) ht) h
theorem W.lstore_n {i : Fin 4} {o o' : Slot} {x : Int64} (hd : decode μ.2.1 pc = .ok (.lstore_n i, 1)) (hl : L[i.val]? = some o) (hl' : L[i.val + 1]? = some o') (ho : two o o' = true) (h : W tb K μ rm (pc + 1) ((L.set i.val (.val (.long x))).set (i.val + 1) .second) S H Q) : W tb K μ rm pc L (.long x :: S) H Q :=
  W.pure (by simp) (fun k p e m below c T hA hx hb' t ht => XT.lstoreN hA hx rfl (hb hb' hd) rfl (sto2 hl hl' ho) ht) h
theorem W.lstore {i : Nat} {o o' : Slot} {x : Int64} (hd : decode μ.2.1 pc = .ok (.lstore i, 2)) (hl : L[i]? = some o) (hl' : L[i + 1]? = some o') (ho : two o o' = true) (h : W tb K μ rm (pc + 2) ((L.set i (.val (.long x))).set (i + 1) .second) S H Q) : W tb K μ rm pc L (.long x :: S) H Q :=
  W.pure (by simp) (fun k p e m below c T hA hx hb' t ht => XT.lstore hA hx rfl (hb hb' hd) rfl (sto2 hl hl' ho) ht) h
theorem W.iinc {i : Nat} {n : Int} {x y : Int32} (hd : decode μ.2.1 pc = .ok (.iinc i n, 3)) (hy : Int32.ofInt n = y) (hl : L[i]? = some (.val (.int x))) (h : W tb K μ rm (pc + 3) (L.set i (.val (.int (x + y)))) S H Q) : W tb K μ rm pc L S H Q := by
  subst hy
  exact W.pure (by simp) (fun k p e m below c T hA hx hb' t ht => XS.iinc hA hx rfl (hb hb' hd) (get_conc hl) (sto1 (v := .int (x + Int32.ofInt n)) hl rfl rfl) ht) h
theorem W.goto {o : Int} {pc' : Nat} (hd : decode μ.2.1 pc = .ok (.goto o, 3)) (ho : 0 ≤ (pc : Int) + o) (hp : ((pc : Int) + o).toNat = pc') (h : W tb K μ rm pc' L S H Q) : W tb K μ rm pc L S H Q :=
  W.pure rfl (fun k p e m below c T hA hx hb' t ht => XS.goto hA hx rfl rfl (hb hb' hd) ho hp ht) h
/-- what a comparison asks -/
def cnd : ClassFile.Cond → Int32 → Int32 → Prop
  | .eq, x, y => x = y
  | .ne, x, y => ¬ x = y
  | .lt, x, y => x < y
  | .ge, x, y => ¬ x < y
  | .gt, x, y => y < x
  | .le, x, y => ¬ y < x
def cndN : ClassFile.Cond → Int32 → Int32 → Prop
  | .eq, x, y => ¬ x = y
  | .ne, x, y => x = y
  | .lt, x, y => ¬ x < y
  | .ge, x, y => x < y
  | .gt, x, y => ¬ y < x
  | .le, x, y => y < x
theorem cndN_of (cd : ClassFile.Cond) (x y : Int32) (h : ¬ cnd cd x y) : cndN cd x y := by
  cases cd <;> first | exact h | exact Classical.not_not.mp h
theorem cnd_iff (cd : ClassFile.Cond) (x y : Int32) : if_icmp.holds cd x y = true ↔ cnd cd x y := by
  cases cd <;> simp [if_icmp.holds, cnd, Int32.not_lt]
theorem cnd_not (cd : ClassFile.Cond) (x y : Int32) : if_icmp.holds cd x y = false ↔ ¬ cnd cd x y := by
  rw [← cnd_iff]; cases if_icmp.holds cd x y <;> simp
theorem W.icmp {cd : ClassFile.Cond} {x y : Int32} {o : Int} {pc' : Nat} (hd : decode μ.2.1 pc = .ok (.if_icmp cd o, 3)) (ho : 0 ≤ (pc : Int) + o) (hp : ((pc : Int) + o).toNat = pc') (h1 : cnd cd x y → W tb K μ rm pc' L S H Q) (h2 : cndN cd x y → W tb K μ rm (pc + 3) L S H Q) : W tb K μ rm pc L (.int y :: .int x :: S) H Q := by
  cases hc : if_icmp.holds cd x y
  · exact W.pure rfl (fun k p e m below c T hA hx hb' t ht => XS.icmpNo hA hx rfl (hb hb' hd) rfl hc ht) (h2 (cndN_of cd x y ((cnd_not cd x y).mp hc)))
  · exact W.pure rfl (fun k p e m below c T hA hx hb' t ht => XS.icmpYes hA hx rfl rfl (hb hb' hd) rfl hc ho hp ht) (h1 ((cnd_iff cd x y).mp hc))
theorem W.ifc {cd : ClassFile.Cond} {x : Int32} {o : Int} {pc' : Nat} (hd : decode μ.2.1 pc = .ok (.ifCond cd o, 3)) (ho : 0 ≤ (pc : Int) + o) (hp : ((pc : Int) + o).toNat = pc') (h1 : cnd cd x 0 → W tb K μ rm pc' L S H Q) (h2 : cndN cd x 0 → W tb K μ rm (pc + 3) L S H Q) : W tb K μ rm pc L (.int x :: S) H Q := by
  cases hc : ifCond.holds cd x
  · exact W.pure rfl (fun k p e m below c T hA hx hb' t ht => XS.ifNo hA hx rfl (hb hb' hd) rfl hc ht) (h2 (cndN_of cd x 0 ((cnd_not cd x 0).mp (by rw [← if0]; exact hc))))
  · exact W.pure rfl (fun k p e m below c T hA hx hb' t ht => XS.ifYes hA hx rfl rfl (hb hb' hd) rfl hc ho hp ht) (h1 ((cnd_iff cd x 0).mp (by rw [← if0]; exact hc)))
def cndL : ClassFile.Cond → Int64 → Int64 → Prop
  | .eq, x, y => x = y
  | .ne, x, y => ¬ x = y
  | .lt, x, y => x < y
  | .ge, x, y => ¬ x < y
  | .gt, x, y => y < x
  | .le, x, y => ¬ y < x
def cndLN : ClassFile.Cond → Int64 → Int64 → Prop
  | .eq, x, y => ¬ x = y
  | .ne, x, y => x = y
  | .lt, x, y => ¬ x < y
  | .ge, x, y => x < y
  | .gt, x, y => ¬ y < x
  | .le, x, y => y < x
theorem cndLN_iff (cd : ClassFile.Cond) (x y : Int64) : cndLN cd x y ↔ ¬ cndL cd x y := by
  cases cd <;> first | exact Iff.rfl | exact Classical.not_not.symm
theorem cndN_iff (cd : ClassFile.Cond) (x y : Int32) : cndN cd x y ↔ ¬ cnd cd x y := by
  cases cd <;> first | exact Iff.rfl | exact Classical.not_not.symm
theorem cmpL_iff (cd : ClassFile.Cond) (x y : Int64) : cnd cd (XT.cmpL x y) 0 ↔ cndL cd x y := by
  have e : XT.cmpL x y = lcmpW x y := by simp [XT.cmpL, lcmpW]
  rw [e]
  cases cd
  · exact lw_eq x y
  · exact not_congr (lw_eq x y)
  · exact lw_lt x y
  · exact not_congr (lw_lt x y)
  · exact lw_gt x y
  · exact not_congr (lw_gt x y)
/-- lcmp and the branch behind it -/
theorem W.lcif {cd : ClassFile.Cond} {x y : Int64} {o : Int} {pc1 pc' : Nat} (hd1 : decode μ.2.1 pc = .ok (.lcmp, 1)) (hp1 : pc + 1 = pc1) (hd : decode μ.2.1 pc1 = .ok (.ifCond cd o, 3)) (ho : 0 ≤ (pc1 : Int) + o) (hp : ((pc1 : Int) + o).toNat = pc') (h1 : cndL cd x y → W tb K μ rm pc' L S H Q) (h2 : cndLN cd x y → W tb K μ rm (pc1 + 3) L S H Q) : W tb K μ rm pc L (.long y :: .long x :: S) H Q := by
  subst hp1
  exact W.lcmp hd1 (W.ifc hd ho hp (fun h => h1 ((cmpL_iff cd x y).mp h)) (fun h => h2 ((cndLN_iff cd x y).mpr fun q => (cndN_iff cd _ 0).mp h ((cmpL_iff cd x y).mpr q))))
theorem W.ifnullR {i : Nat} {o : Int} (hd : decode μ.2.1 pc = .ok (.ifnull o, 3)) (h : W tb K μ rm (pc + 3) L S H Q) : W tb K μ rm pc L (.ref i :: S) H Q :=
  W.pure rfl (fun k p e m below c T hA hx hb' t ht => XS.ifnullNo hA hx rfl (hb hb' hd) rfl ht) h
theorem W.ifnonnullR {i : Nat} {o : Int} {pc' : Nat} (hd : decode μ.2.1 pc = .ok (.ifnonnull o, 3)) (ho : 0 ≤ (pc : Int) + o) (hp : ((pc : Int) + o).toNat = pc') (h : W tb K μ rm pc' L S H Q) : W tb K μ rm pc L (.ref i :: S) H Q :=
  W.pure rfl (fun k p e m below c T hA hx hb' t ht => XT.ifnonnullYes hA hx rfl rfl (hb hb' hd) rfl ho hp ht) h
theorem W.lsw {d : Int} {ps : Array (Int × Int)} {len : Nat} {x : Int32} {o : Int} {pc' : Nat} (hd : decode μ.2.1 pc = .ok (.lookupswitch d ps, len)) (hs : (ps.toList.zip (ps.toList.drop 1)).all (fun (a, next) => a.1 < next.1) = true) (ho : lookupswitch.offset ps.toList d x.toInt = o) (h0 : 0 ≤ (pc : Int) + o) (hp : ((pc : Int) + o).toNat = pc')
    (h : W tb K μ rm pc' L S H Q) : W tb K μ rm pc L (.int x :: S) H Q := by
  subst hp
  refine W.pure rfl (fun k p e m below c T hA hx hb' t ht => ?_) h
  have hd' := hb hb' hd
  show Steps p.tables e below (T.setTop (mkF m pc (L.map (cs k)).toArray (.int x :: S.map (cv k)))) _
  jvm_step hA [hA.top, hx, hd', lookupswitch.wp_chain, ho, h0]
  refine ⟨?_, ht⟩
  simpa using hs
end Logic
end Jvm.Own
namespace Jvm.Own
open Sem ClassFile Op Lib Jvm.Stand Jvm.Free Jvm.LawKit Jvm.RoadKit
section Heap
variable {Z : State} {K : KTab} {h h' : Heap} {H : AHeap} {a b : Addr} {tb : List Cond} {a0 : Array Value}
theorem CellOk.ext {c : ACell} (E : Ext h h') (F : CellOk Z K h a c) : CellOk Z K h' a c := by
  cases c with
  | inl q =>
    obtain ⟨C, n, fs, h1, h2, h3, h4⟩ := F
    exact ⟨C, n, fs, h1, h2, h3.ext E, fun j f v hf hv => (h4 j f v hf hv).ext E⟩
  | inr q =>
    obtain ⟨cell, h1, h2⟩ := F
    exact ⟨cell, h1.ext E, h2⟩
theorem CellOk.other {c : ACell} {sl : Nat} {v : Value} (W : Wr h h' b sl v) (F : CellOk Z K h a c) (ne : a ≠ b) : CellOk Z K h' a c := by
  cases c with
  | inl q =>
    obtain ⟨C, n, fs, h1, h2, h3, h4⟩ := F
    exact ⟨C, n, fs, h1, h2, h3.wr W, fun j f v hf hv => (h4 j f v hf hv).other W (Or.inl ne)⟩
  | inr q =>
    obtain ⟨cell, h1, h2⟩ := F
    exact ⟨cell, h1.other W ne, h2⟩
theorem Rel.start (Z : State) (K : KTab) : Rel Z K Z.heap [] := ⟨rfl, fun i c q => by simp at q⟩
theorem Rel.push {c : ACell} {cell : Cell} (R : Rel Z K h H) (F : CellOk Z K (h.push cell) (Z.heap.size + H.length) c) : Rel Z K (h.push cell) (H ++ [c]) := by
  have E : Ext h (h.push cell) := ⟨by simp, fun x c q => by rw [Array.getElem?_push_lt (Array.getElem?_eq_some_iff.mp q).1]; exact (Array.getElem?_eq_getElem _).symm.trans q⟩
  refine ⟨by simp [R.1]; omega, fun i c' q => ?_⟩
  rcases Nat.lt_trichotomy i H.length with hi | hi | hi
  · rw [List.getElem?_append_left hi] at q
    exact (R.2 i c' q).ext E
  · subst hi
    rw [List.getElem?_append_right (Nat.le_refl _)] at q
    simp at q
    subst q
    exact F
  · rw [List.getElem?_append_right (Nat.le_of_lt hi)] at q
    rw [List.getElem?_eq_none (show 1 ≤ i - H.length from Nat.sub_pos_of_lt hi)] at q
    cases q
theorem Rel.set {c : ACell} {i sl : Nat} {v : Value} (R : Rel Z K h H) (W : Wr h h' (Z.heap.size + i) sl v) (F : CellOk Z K h' (Z.heap.size + i) c) : Rel Z K h' (H.set i c) := by
  refine ⟨by rw [W.size, List.length_set]; exact R.1, fun j c' q => ?_⟩
  by_cases e : j = i
  · subst e
    obtain ⟨hl, -⟩ := List.getElem?_eq_some_iff.mp q
    rw [List.getElem?_set_self (by simpa using hl)] at q
    cases q
    exact F
  · rw [List.getElem?_set_ne (Ne.symm e)] at q
    exact (R.2 j c' q).other W (fun q' => e (Nat.add_left_cancel q'))
theorem mem_of_get {q : String × Nat × List (String × String × String × FieldType)} {c : Nat} (hK : K[c]? = some q) : q ∈ K := List.mem_of_getElem? hK
theorem FOk.laid {C : String} {f : String × String × String × FieldType} (F : FOk tb C f) (hw : ∀ d ∈ tb, d.before a0 Z = true) : Laid Z a0 C f.1 f.2.1 f.2.2.1 := F.1.imp (hw _) (hw _)
theorem CellOk.put {c i j : Nat} {vs : List Value} {C : String} {n : Nat} {fs : List (String × String × String × FieldType)} {f : String × String × String × FieldType} {v : Value} (hKO : KOk tb K) (hw : ∀ d ∈ tb, d.before a0 Z = true) (hK : K[c]? = some (C, n, fs)) (hf : fs[j]? = some f)
    (W : Wr h h' a (RoadKit.slotOf Z f.1 f.2.1 f.2.2.1) (cv Z.heap.size v)) (F : CellOk Z K h a (.inl (c, vs))) : CellOk Z K h' a (.inl (c, vs.set j v)) := by
  obtain ⟨C', n', fs', h1, h2, h3, h4⟩ := F
  cases hK.symm.trans h1
  obtain ⟨k1, k2, k3⟩ := hKO _ (mem_of_get hK)
  refine ⟨C, n, fs, hK, by simpa using h2, h3.wr W, fun j' f' v' hf' hv' => ?_⟩
  by_cases e : j' = j
  · subst e
    cases hf.symm.trans hf'
    have hl : j' < vs.length := by rw [h2]; exact (List.getElem?_eq_some_iff.mp hf).1
    rw [List.getElem?_set_self hl] at hv'
    cases hv'
    obtain ⟨w, hw'⟩ : ∃ w, vs[j']? = some w := ⟨vs[j'], List.getElem?_eq_getElem hl⟩
    exact (h4 j' f w hf hw').same W
  · rw [List.getElem?_set_ne (Ne.symm e)] at hv'
    have m1 : f ∈ fs := List.mem_of_getElem? hf
    have m2 : f' ∈ fs := List.mem_of_getElem? hf'
    have hn : f'.2.1 ≠ f.2.1 := fun q => by
      have g1 : (fs.map fun f => f.2.1)[j']? = some f'.2.1 := by simp [hf']
      have g2 : (fs.map fun f => f.2.1)[j]? = some f.2.1 := by simp [hf]
      rw [q] at g1
      obtain ⟨l1, e1⟩ := List.getElem?_eq_some_iff.mp g1
      obtain ⟨l2, e2⟩ := List.getElem?_eq_some_iff.mp g2
      rcases Nat.lt_or_gt_of_ne e with lt | lt
      · exact (List.pairwise_iff_getElem.mp k3) j' j l1 l2 lt (e1.trans e2.symm)
      · exact (List.pairwise_iff_getElem.mp k3) j j' l2 l1 lt (e2.trans e1.symm)
    exact (h4 j' f' v' hf' hv').other W (Or.inr (slot_ne ((k2 f' m2).laid hw) ((k2 f m1).laid hw) hn (k2 f' m2).2 (k2 f m1).2))
theorem CellOk.sto {ty : FieldType} {vs : List Value} {j : Nat} {v : Value} (W : Wr h h' a j (cv Z.heap.size v)) (F : CellOk Z K h a (.inr (ty, vs))) (hv : fits ty v = true) : CellOk Z K h' a (.inr (ty, vs.set j v)) := by
  obtain ⟨cell, h1, h2, h3⟩ := F
  refine ⟨_, h1.same W, ?_, fun w hw => ?_⟩
  · simp [Cell.setSlot, h2, List.map_set]
  · rcases List.mem_or_eq_of_mem_set hw with q | q
    · exact h3 w q
    · exact q ▸ hv
end Heap
section Logic
variable {tb : List Cond} {K : KTab} {μ : Mth} {rm : Room} {pc : Nat} {L : List Slot} {S : List Value} {H : AHeap} {Q Q' : Option Value → AHeap → Prop}
theorem via_of {Z : State} {a0 : Array Value} (hw : ∀ d ∈ tb, d.before a0 Z = true) {R0 O n d : String} (via : R0 = O ∨ Cond.sameField R0 O n d ∈ tb) : Via Z R0 O n d := by
  rcases via with rfl | q
  · exact Via.refl
  · exact Via.of (hw _ q)
theorem W.getF {idx i j c n : Nat} {C R0 host : String} {fs : List (String × String × String × FieldType)} {vs : List Value} {f : String × String × String × FieldType} {v : Value} (hd : decode μ.2.1 pc = .ok (.getfield idx, 3))
    (w : Cond.fieldLink μ.1.cls idx R0 f.2.1 f.2.2.1 ∈ tb ∨ Cond.fieldLinkNest μ.1.cls idx R0 f.2.1 f.2.2.1 host ∈ tb) (via : R0 = f.1 ∨ Cond.sameField R0 f.1 f.2.1 f.2.2.1 ∈ tb) (hK : K[c]? = some (C, n, fs)) (hf : fs[j]? = some f) (hH : H[i]? = some (.inl (c, vs))) (hv : vs[j]? = some v)
    (h : W tb K μ rm (pc + 3) L (v :: S) H Q) : W tb K μ rm pc L (.ref i :: S) H Q := by
  intro hL Z a0 p l e R s m args below meth c' T locs cells slots X
  obtain ⟨X0, hx, hZ, hw, hby, hml, hrt, hnm, hlk, hown, hR, hr⟩ := X
  obtain ⟨C', n', fs', k1, k2, k3, k4⟩ := hR.2 _ _ hH
  cases hK.symm.trans k1
  have F := k4 j f v hf hv
  obtain ⟨T1, X1, e1, st⟩ := RoadKit.getF X0 hx hZ hown (w.imp (hw _) (hw _)) (via_of hw via) rfl F (g := mkF m pc (L.map (cs Z.heap.size)).toArray ((Value.ref i :: S).map (cv Z.heap.size))) rfl rfl (hb hby hd)
  exact (h hL Z a0 p l e R s m args below meth c' T1 locs cells slots ⟨X1, hx, hZ, hw, hby, hml, hrt, hnm, hlk, hown, e1 ▸ hR, hr⟩).steps st
theorem W.putF {idx i j c n : Nat} {C R0 host : String} {fs : List (String × String × String × FieldType)} {vs : List Value} {f : String × String × String × FieldType} {v : Value} (hKO : KOk tb K) (hd : decode μ.2.1 pc = .ok (.putfield idx, 3))
    (w : Cond.fieldLink μ.1.cls idx R0 f.2.1 f.2.2.1 ∈ tb ∨ Cond.fieldLinkNest μ.1.cls idx R0 f.2.1 f.2.2.1 host ∈ tb) (via : R0 = f.1 ∨ Cond.sameField R0 f.1 f.2.1 f.2.2.1 ∈ tb) (hK : K[c]? = some (C, n, fs)) (hf : fs[j]? = some f)
    (la : Cond.lays C f.1 f.2.1 f.2.2.1 ∈ tb ∨ (Cond.laysFinal C f.1 f.2.1 f.2.2.1 ∈ tb ∧ μ.1.cls = f.1 ∧ μ.1.name = "<init>")) (hn : narrow f.2.2.2 v = v) (hfi : fits f.2.2.2 v = true) (hH : H[i]? = some (.inl (c, vs)))
    (h : W tb K μ rm (pc + 3) L S (H.set i (.inl (c, vs.set j v))) Q) : W tb K μ rm pc L (v :: .ref i :: S) H Q := by
  intro hL Z a0 p l e R s m args below meth c' T locs cells slots X
  obtain ⟨X0, hx, hZ, hw, hby, hml, hrt, hnm, hlk, hown, hR, hFr, hr⟩ := X
  have CO := hR.2 _ _ hH
  obtain ⟨C', n', fs', k1, k2, k3, k4⟩ := CO
  cases hK.symm.trans k1
  have hl : j < vs.length := by rw [k2]; exact (List.getElem?_eq_some_iff.mp hf).1
  have F := k4 j f vs[j] hf (List.getElem?_eq_getElem hl)
  obtain ⟨o1, o2, o3⟩ := hKO _ (mem_of_get hK)
  obtain ⟨T1, h1, X1, e1, W1, st⟩ := RoadKit.putF X0 hx hZ hown (w.imp (hw _) (hw _)) (via_of hw via) rfl F k3 (la.imp (hw _) fun q => ⟨hw _ q.1, q.2.1, hnm.trans q.2.2⟩) (hw _ o1) (o2 f (List.mem_of_getElem? hf)).2 (v := cv Z.heap.size v) (by rw [cv_narrow, hn]) (by rw [cv_fits]; exact hfi) (g := mkF m pc (L.map (cs Z.heap.size)).toArray ((v :: Value.ref i :: S).map (cv Z.heap.size))) rfl rfl (hb hby hd)
  exact (h hL Z a0 p l e R s m args below meth c' T1 _ cells slots ⟨X1, hx, hZ, hw, hby, hml, hrt, hnm, hlk, hown, e1 ▸ hR.set W1 (CellOk.put (i := i) hKO hw hK hf W1 (hR.2 _ _ hH)), Fr.snoc X1 hFr (Nat.le_add_right _ _), hr⟩).steps st
/-- a field of a boolean, byte, char or short -/
theorem W.putFN {idx i j c n : Nat} {C R0 : String} {fs : List (String × String × String × FieldType)} {vs : List Value} {f : String × String × String × FieldType} {v v' : Value} (hKO : KOk tb K) (hd : decode μ.2.1 pc = .ok (.putfield idx, 3))
    (w : Cond.fieldLink μ.1.cls idx R0 f.2.1 f.2.2.1 ∈ tb) (via : R0 = f.1 ∨ Cond.sameField R0 f.1 f.2.1 f.2.2.1 ∈ tb) (hK : K[c]? = some (C, n, fs)) (hf : fs[j]? = some f)
    (la : Cond.lays C f.1 f.2.1 f.2.2.1 ∈ tb ∨ (Cond.laysFinal C f.1 f.2.1 f.2.2.1 ∈ tb ∧ μ.1.cls = f.1 ∧ μ.1.name = "<init>")) (hn : narrow f.2.2.2 v = v') (hfi : fits f.2.2.2 v' = true) (hH : H[i]? = some (.inl (c, vs)))
    (h : W tb K μ rm (pc + 3) L S (H.set i (.inl (c, vs.set j v'))) Q) : W tb K μ rm pc L (v :: .ref i :: S) H Q := by
  intro hL Z a0 p l e R s m args below meth c' T locs cells slots X
  obtain ⟨X0, hx, hZ, hw, hby, hml, hrt, hnm, hlk, hown, hR, hFr, hr⟩ := X
  have CO := hR.2 _ _ hH
  obtain ⟨C', n', fs', k1, k2, k3, k4⟩ := CO
  cases hK.symm.trans k1
  have hl : j < vs.length := by rw [k2]; exact (List.getElem?_eq_some_iff.mp hf).1
  have F := k4 j f vs[j] hf (List.getElem?_eq_getElem hl)
  obtain ⟨o1, o2, o3⟩ := hKO _ (mem_of_get hK)
  obtain ⟨T1, h1, X1, e1, W1, st⟩ := RoadKit.putFN X0 hx hZ hown (hw _ w) (via_of hw via) rfl F k3 (la.imp (hw _) fun q => ⟨hw _ q.1, q.2.1, hnm.trans q.2.2⟩) (hw _ o1) (o2 f (List.mem_of_getElem? hf)).2 (v := cv Z.heap.size v) (v' := cv Z.heap.size v') (by rw [cv_narrow, hn]) (by rw [cv_fits]; exact hfi) (g := mkF m pc (L.map (cs Z.heap.size)).toArray ((v :: Value.ref i :: S).map (cv Z.heap.size))) rfl rfl (hb hby hd)
  exact (h hL Z a0 p l e R s m args below meth c' T1 _ cells slots ⟨X1, hx, hZ, hw, hby, hml, hrt, hnm, hlk, hown, e1 ▸ hR.set W1 (CellOk.put (i := i) hKO hw hK hf W1 (hR.2 _ _ hH)), Fr.snoc X1 hFr (Nat.le_add_right _ _), hr⟩).steps st
/-- the index j is the natural N -/
abbrev ix (j : Int32) (N : Nat) : Prop := ¬ j < 0 ∧ j.toNatClampNeg = N
theorem ix_ofNat {N : Nat} (h : N < 2 ^ 31) : ix (Int32.ofNat N) N := by
  have e : (Int32.ofNat N).toInt = N := Int32.toInt_ofNat_of_lt h
  refine ⟨?_, ?_⟩
  · rw [Int32.lt_iff_toInt_lt, e]; simp
  · rw [Int32.toNatClampNeg, e]; rfl
theorem inb {cell : Cell} {j : Int32} {N : Nat} {vs : List Value} {k : Nat} (k2 : cell.slots = (vs.map (cv k)).toArray) (hj : ¬ j < 0) (hN : j.toNatClampNeg = N) (hl : N < vs.length) : ¬ (j < 0 ∨ cell.slots.size ≤ j.toNatClampNeg) := by
  rw [k2, hN]; simp; exact ⟨by simpa using hj, hl⟩
/-- room for an object of n slots -/
def nok (rm : Room) (n : Nat) : Bool := Nat.ble 1 rm.cells && (Nat.ble n rm.slots && Nat.ble n 67108864)
theorem nok_spec {rm : Room} {n : Nat} (h : nok rm n = true) : 1 ≤ rm.cells ∧ n ≤ rm.slots ∧ n * 8 ≤ 536870912 := by
  simp only [nok, Bool.and_eq_true, Nat.ble_eq] at h
  omega
theorem W.new {idx c n i : Nat} {C : String} {fs : List (String × String × String × FieldType)} (hKO : KOk tb K) (hd : decode μ.2.1 pc = .ok (.new idx, 3)) (w : Cond.classLink μ.1.cls idx C ∈ tb) (wz : Cond.initialized C ∈ tb) (hK : K[c]? = some (C, n, fs)) (hi : H.length = i) (hr : nok rm n = true)
    (h : W tb K μ ⟨rm.frames, rm.cells - 1, rm.slots - n, rm.locals⟩ (pc + 3) L (.ref i :: S) (H ++ [.inl (c, fs.map fun f => defaultValue f.2.2.2)]) Q) : W tb K μ rm pc L S H Q := by
  intro hL Z a0 p l e R s m args below meth c' T locs cells slots X
  obtain ⟨X0, hx, hZ, hw, hby, hml, hrt, hnm, hlk, hown, hR, hFr, hr1, hr2, hr3, hr4⟩ := X
  obtain ⟨hc, hs, hb'⟩ := nok_spec hr
  obtain ⟨o1, o2, o3⟩ := hKO _ (mem_of_get hK)
  obtain ⟨vm', cC, kC, h1, h2, h3, h4, X', st⟩ := X0.newCold hx hown (mv hZ (hw _ w)) (mv hZ (hw _ (show Cond.instantiable C n ∈ tb from o1))) (mv hZ (hw _ wz)) (g := mkF m pc (L.map (cs Z.heap.size)).toArray (S.map (cv Z.heap.size))) rfl (hb hby hd) (by omega) (by omega)
  rw [hZ.alike.findClass] at h1
  obtain ⟨kZ, z1, -⟩ := Vm.findClass_spec h1
  obtain ⟨k', z2, z3⟩ := hZ.alike.2.2 _ _ z1
  cases h2.symm.trans z2
  have ei : kC.instanceTypes = kZ.instanceTypes := by rw [z3]
  have hN : (T.heap.push { cls := cC, slots := kC.instanceTypes.map defaultValue, vm := .none })[T.heap.size]? = some { cls := cC, slots := kC.instanceTypes.map defaultValue, vm := .none } := by simp
  have ea : Z.heap.size + i = T.heap.size := by rw [hR.1, hi]
  have CO : CellOk Z K (T.heap.push { cls := cC, slots := kC.instanceTypes.map defaultValue, vm := .none }) (Z.heap.size + H.length) (.inl (c, fs.map fun f => defaultValue f.2.2.2)) := by
    refine ⟨C, n, fs, hK, by simp, ⟨_, kZ, by rw [← hR.1]; exact hN, h1, z1, rfl, fun _ => by simp [ei]⟩, fun j f v hf hv => ?_⟩
    have hv' : v = defaultValue f.2.2.2 := by simpa [hf] using hv.symm
    subst hv'
    obtain ⟨f1, f2⟩ := o2 f (List.mem_of_getElem? hf)
    obtain ⟨c1, k1, cf, kf, i1, ff, b1, b2, b3, b4, b5, b6, -⟩ := (FOk.laid ⟨f1, f2⟩ hw).spec
    cases h1.symm.trans b1
    cases z1.symm.trans b2
    rw [cv_default]
    exact ⟨_, cf, kf, i1, ff, by rw [← hR.1]; exact hN, b3, b4, by simp, rfl, b5, by simp [ei, b6, (State.fieldFound?_type b3 f2).2]⟩
  have := h hL Z a0 p l e R s m args below meth c' _ locs (cells + 1) (slots + n) ⟨X', hx, hZ, hw, hby, hml, hrt, hnm, hlk, hown, hR.push CO, hFr, hr1, by show cells + 1 + (rm.cells - 1) ≤ _; omega, by show slots + n + (rm.slots - n) ≤ _; omega, hr4⟩
  refine this.steps fun t ht => st t ?_
  rw [← ea]; exact ht
theorem W.newarray {aty : ArrayType} {ty : FieldType} {N i : Nat} {n : Int32} {d : Value} (hd : decode μ.2.1 pc = .ok (.newarray aty, 2)) (hty : newarray.typeOf aty = ty) (w : Cond.arrayClass ty ∈ tb) (hdv : defaultValue ty = d) (hn : ix n N) (hi : H.length = i) (hr : nok rm N = true)
    (h : W tb K μ ⟨rm.frames, rm.cells - 1, rm.slots - N, rm.locals⟩ (pc + 2) L (.ref i :: S) (H ++ [.inr (ty, List.replicate N d)]) Q) : W tb K μ rm pc L (.int n :: S) H Q := by
  intro hL Z a0 p l e R s m args below meth c' T locs cells slots X
  obtain ⟨X0, hx, hZ, hw, hby, hml, hrt, hnm, hlk, hown, hR, hFr, hr1, hr2, hr3, hr4⟩ := X
  obtain ⟨hn, hN⟩ := hn
  subst hty hdv hN
  obtain ⟨hc, hs, hb'⟩ := nok_spec hr
  have hcb : componentBytes (newarray.typeOf aty) ≤ 8 := by cases aty <;> decide
  obtain ⟨cA, kA, comp, h1, h2, h3, X', st⟩ := X0.newarrayPrim hx (mvA hZ (hw _ w)) (g := mkF m pc (L.map (cs Z.heap.size)).toArray ((Value.int n :: S).map (cv Z.heap.size))) rfl (hb hby hd) (n := n) rfl hn (Nat.le_trans (Nat.mul_le_mul (Nat.le_refl _) hcb) hb') (by omega) (by omega)
  rw [hZ.alike.findClass] at h1
  obtain ⟨kZ, z1, -⟩ := Vm.findClass_spec h1
  obtain ⟨k', z2, z3⟩ := hZ.alike.2.2 _ _ z1
  cases h2.symm.trans z2
  have hN : (T.heap.push { cls := cA, slots := Array.replicate n.toNatClampNeg (defaultValue (newarray.typeOf aty)), vm := .none })[T.heap.size]? = some { cls := cA, slots := Array.replicate n.toNatClampNeg (defaultValue (newarray.typeOf aty)), vm := .none } := by simp
  have ea : Z.heap.size + i = T.heap.size := by rw [hR.1, hi]
  have CO : CellOk Z K (T.heap.push { cls := cA, slots := Array.replicate n.toNatClampNeg (defaultValue (newarray.typeOf aty)), vm := .none }) (Z.heap.size + H.length) (.inr (newarray.typeOf aty, List.replicate n.toNatClampNeg (defaultValue (newarray.typeOf aty)))) := by
    refine ⟨_, ⟨by rw [← hR.1]; exact hN, ⟨by simp, kZ, z1, comp, by rw [← h3, z3]⟩, by simp⟩, by simp [cv_default], fun v hv => ?_⟩
    rw [(List.mem_replicate.mp hv).2]
    cases aty <;> rfl
  have := h hL Z a0 p l e R s m args below meth c' _ locs (cells + 1) (slots + n.toNatClampNeg) ⟨X', hx, hZ, hw, hby, hml, hrt, hnm, hlk, hown, hR.push CO, hFr, hr1, by show cells + 1 + (rm.cells - 1) ≤ _; omega, by show slots + n.toNatClampNeg + (rm.slots - n.toNatClampNeg) ≤ _; omega, hr4⟩
  refine this.steps fun t ht => st t ?_
  rw [← ea]; exact ht
theorem W.arraylength {i : Nat} {ty : FieldType} {vs : List Value} (hd : decode μ.2.1 pc = .ok (.arraylength, 1)) (hH : H[i]? = some (.inr (ty, vs))) (h : W tb K μ rm (pc + 1) L (.int (Int32.ofNat vs.length) :: S) H Q) : W tb K μ rm pc L (.ref i :: S) H Q := by
  intro hL Z a0 p l e R s m args below meth c' T locs cells slots X
  have X' := X
  obtain ⟨X0, hx, hZ, hw, hby, hml, hrt, hnm, hlk, hown, hR, hr⟩ := X
  obtain ⟨cell, A, k2, k3⟩ := hR.2 _ _ hH
  refine (h hL Z a0 p l e R s m args below meth c' T locs cells slots X').steps fun t ht => ?_
  refine X0.arraylength hx A.1 (State.isArrayOf_alike hZ.alike A.2.1) (g := mkF m pc (L.map (cs Z.heap.size)).toArray ((Value.ref i :: S).map (cv Z.heap.size))) rfl rfl (hb hby hd) t ?_
  have e : cell.slots.size.toInt32 = Int32.ofNat vs.length := by rw [k2]; simp
  rw [e]; exact ht
theorem W.xaload {ins : Instr} {ty : FieldType} (hk : (ins = .iaload ∧ ty = .int) ∨ (ins = .laload ∧ ty = .long) ∨ (ins = .baload ∧ (ty = .byte ∨ ty = .boolean))) {i N : Nat} {j : Int32} {vs : List Value} {v : Value} (hd : decode μ.2.1 pc = .ok (ins, 1)) (hH : H[i]? = some (.inr (ty, vs))) (hj : ix j N) (hv : vs[N]? = some v)
    (h : W tb K μ rm (pc + 1) L (v :: S) H Q) : W tb K μ rm pc L (.int j :: .ref i :: S) H Q := by
  intro hL Z a0 p l e R s m args below meth c' T locs cells slots X
  have X' := X
  obtain ⟨X0, hx, hZ, hw, hby, hml, hrt, hnm, hlk, hown, hR, hr⟩ := X
  obtain ⟨cell, A, k2, k3⟩ := hR.2 _ _ hH
  have hN := hj.2
  have hin := inb k2 hj.1 hN (List.getElem?_eq_some_iff.mp hv).1
  have hv' : cell.slots[j.toNatClampNeg]? = some (cv Z.heap.size v) := by rw [k2, hN]; simp [hv]
  refine (h hL Z a0 p l e R s m args below meth c' T locs cells slots X').steps fun t ht => ?_
  rcases hk with ⟨rfl, rfl⟩ | ⟨rfl, rfl⟩ | ⟨rfl, rfl | rfl⟩
  · exact X0.iaload hx A.1 (State.isArrayOf_alike hZ.alike A.2.1) A.2.2 hin hv' (g := mkF m pc (L.map (cs Z.heap.size)).toArray ((Value.int j :: Value.ref i :: S).map (cv Z.heap.size))) rfl rfl (hb hby hd) t ht
  · exact X0.laload hx A.1 (State.isArrayOf_alike hZ.alike A.2.1) A.2.2 hin hv' (g := mkF m pc (L.map (cs Z.heap.size)).toArray ((Value.int j :: Value.ref i :: S).map (cv Z.heap.size))) rfl rfl (hb hby hd) t ht
  · exact X0.baloadBytes hx A.1 (State.isArrayOf_alike hZ.alike A.2.1) A.2.2 hin hv' (g := mkF m pc (L.map (cs Z.heap.size)).toArray ((Value.int j :: Value.ref i :: S).map (cv Z.heap.size))) rfl rfl (hb hby hd) t ht
  · exact X0.baloadBooleans hx A.1 (State.isArrayOf_alike hZ.alike A.2.1) A.2.2 hin hv' (g := mkF m pc (L.map (cs Z.heap.size)).toArray ((Value.int j :: Value.ref i :: S).map (cv Z.heap.size))) rfl rfl (hb hby hd) t ht
theorem W.iastore {i N : Nat} {j x : Int32} {vs : List Value} (hd : decode μ.2.1 pc = .ok (.iastore, 1)) (hH : H[i]? = some (.inr (.int, vs))) (hj : ix j N) (hl : Nat.blt N vs.length = true)
    (h : W tb K μ rm (pc + 1) L S (H.set i (.inr (.int, vs.set N (.int x)))) Q) : W tb K μ rm pc L (.int x :: .int j :: .ref i :: S) H Q := by
  intro hL Z a0 p l e R s m args below meth c' T locs cells slots X
  obtain ⟨X0, hx, hZ, hw, hby, hml, hrt, hnm, hlk, hown, hR, hFr, hr⟩ := X
  have CO := hR.2 _ _ hH
  obtain ⟨cell, A, k2, k3⟩ := CO
  obtain ⟨T1, h1, X1, e1, W1, st⟩ := stI X0 hx hZ rfl A (inb k2 hj.1 hj.2 (Nat.blt_eq.mp hl)) (g := mkF m pc (L.map (cs Z.heap.size)).toArray ((Value.int x :: Value.int j :: Value.ref i :: S).map (cv Z.heap.size))) rfl rfl (hb hby hd)
  rw [hj.2] at W1
  exact (h hL Z a0 p l e R s m args below meth c' T1 _ cells slots ⟨X1, hx, hZ, hw, hby, hml, hrt, hnm, hlk, hown, e1 ▸ hR.set W1 (CellOk.sto (v := .int x) W1 (hR.2 _ _ hH) rfl), Fr.snoc X1 hFr (Nat.le_add_right _ _), hr⟩).steps st
theorem W.lastore {i N : Nat} {j : Int32} {x : Int64} {vs : List Value} (hd : decode μ.2.1 pc = .ok (.lastore, 1)) (hH : H[i]? = some (.inr (.long, vs))) (hj : ix j N) (hl : Nat.blt N vs.length = true)
    (h : W tb K μ rm (pc + 1) L S (H.set i (.inr (.long, vs.set N (.long x)))) Q) : W tb K μ rm pc L (.long x :: .int j :: .ref i :: S) H Q := by
  intro hL Z a0 p l e R s m args below meth c' T locs cells slots X
  obtain ⟨X0, hx, hZ, hw, hby, hml, hrt, hnm, hlk, hown, hR, hFr, hr⟩ := X
  have CO := hR.2 _ _ hH
  obtain ⟨cell, A, k2, k3⟩ := CO
  obtain ⟨T1, h1, X1, e1, W1, st⟩ := stJ X0 hx hZ rfl A (inb k2 hj.1 hj.2 (Nat.blt_eq.mp hl)) (g := mkF m pc (L.map (cs Z.heap.size)).toArray ((Value.long x :: Value.int j :: Value.ref i :: S).map (cv Z.heap.size))) rfl rfl (hb hby hd)
  rw [hj.2] at W1
  exact (h hL Z a0 p l e R s m args below meth c' T1 _ cells slots ⟨X1, hx, hZ, hw, hby, hml, hrt, hnm, hlk, hown, e1 ▸ hR.set W1 (CellOk.sto (v := .long x) W1 (hR.2 _ _ hH) rfl), Fr.snoc X1 hFr (Nat.le_add_right _ _), hr⟩).steps st
theorem W.bastore {i N : Nat} {j x : Int32} {vs : List Value} (hd : decode μ.2.1 pc = .ok (.bastore, 1)) (hH : H[i]? = some (.inr (.byte, vs))) (hj : ix j N) (hl : Nat.blt N vs.length = true)
    (h : W tb K μ rm (pc + 1) L S (H.set i (.inr (.byte, vs.set N (.int x.toInt8.toInt32)))) Q) : W tb K μ rm pc L (.int x :: .int j :: .ref i :: S) H Q := by
  intro hL Z a0 p l e R s m args below meth c' T locs cells slots X
  obtain ⟨X0, hx, hZ, hw, hby, hml, hrt, hnm, hlk, hown, hR, hFr, hr⟩ := X
  have CO := hR.2 _ _ hH
  obtain ⟨cell, A, k2, k3⟩ := CO
  obtain ⟨T1, h1, X1, e1, W1, st⟩ := stB X0 hx hZ rfl A (inb k2 hj.1 hj.2 (Nat.blt_eq.mp hl)) (g := mkF m pc (L.map (cs Z.heap.size)).toArray ((Value.int x :: Value.int j :: Value.ref i :: S).map (cv Z.heap.size))) rfl rfl (hb hby hd)
  rw [hj.2] at W1
  exact (h hL Z a0 p l e R s m args below meth c' T1 _ cells slots ⟨X1, hx, hZ, hw, hby, hml, hrt, hnm, hlk, hown, e1 ▸ hR.set W1 (CellOk.sto (v := .int x.toInt8.toInt32) W1 (hR.2 _ _ hH) (fits_nar_byte x)), Fr.snoc X1 hFr (Nat.le_add_right _ _), hr⟩).steps st
theorem W.bastoreZ {i N : Nat} {j x : Int32} {vs : List Value} (hd : decode μ.2.1 pc = .ok (.bastore, 1)) (hH : H[i]? = some (.inr (.boolean, vs))) (hj : ix j N) (hl : Nat.blt N vs.length = true)
    (h : W tb K μ rm (pc + 1) L S (H.set i (.inr (.boolean, vs.set N (.int (x &&& 1))))) Q) : W tb K μ rm pc L (.int x :: .int j :: .ref i :: S) H Q := by
  intro hL Z a0 p l e R s m args below meth c' T locs cells slots X
  obtain ⟨X0, hx, hZ, hw, hby, hml, hrt, hnm, hlk, hown, hR, hFr, hr⟩ := X
  have CO := hR.2 _ _ hH
  obtain ⟨cell, A, k2, k3⟩ := CO
  obtain ⟨T1, h1, X1, e1, W1, st⟩ := stZ X0 hx hZ rfl A (inb k2 hj.1 hj.2 (Nat.blt_eq.mp hl)) (g := mkF m pc (L.map (cs Z.heap.size)).toArray ((Value.int x :: Value.int j :: Value.ref i :: S).map (cv Z.heap.size))) rfl rfl (hb hby hd)
  rw [hj.2] at W1
  exact (h hL Z a0 p l e R s m args below meth c' T1 _ cells slots ⟨X1, hx, hZ, hw, hby, hml, hrt, hnm, hlk, hown, e1 ▸ hR.set W1 (CellOk.sto (v := .int (x &&& 1)) W1 (hR.2 _ _ hH) (fits_nar_bool x)), Fr.snoc X1 hFr (Nat.le_add_right _ _), hr⟩).steps st
theorem W.ldcInt {idx : Nat} {x : Int32} (hd : decode μ.2.1 pc = .ok (.ldc idx, 2)) (w : Cond.constant μ.1.cls idx x ∈ tb) (h : W tb K μ rm (pc + 2) L (.int x :: S) H Q) : W tb K μ rm pc L S H Q := by
  intro hL Z a0 p l e R s m args below meth c' T locs cells slots X
  have X' := X
  obtain ⟨X0, hx, hZ, hw, hby, hml, hrt, hnm, hlk, hown, hR, hr⟩ := X
  exact (h hL Z a0 p l e R s m args below meth c' T locs cells slots X').steps (X0.ldcInt hx hown (mvT hZ (hw _ w)) (g := mkF m pc (L.map (cs Z.heap.size)).toArray (S.map (cv Z.heap.size))) rfl (hb hby hd))
theorem W.ldcLong {idx : Nat} {x : Int64} (hd : decode μ.2.1 pc = .ok (.ldc2_w idx, 3)) (w : Cond.constantLong μ.1.cls idx x ∈ tb) (h : W tb K μ rm (pc + 3) L (.long x :: S) H Q) : W tb K μ rm pc L S H Q := by
  intro hL Z a0 p l e R s m args below meth c' T locs cells slots X
  have X' := X
  obtain ⟨X0, hx, hZ, hw, hby, hml, hrt, hnm, hlk, hown, hR, hr⟩ := X
  exact (h hL Z a0 p l e R s m args below meth c' T locs cells slots X').steps (X0.ldc2Long hx hown (mvT hZ (hw _ w)) (g := mkF m pc (L.map (cs Z.heap.size)).toArray (S.map (cv Z.heap.size))) rfl (hb hby hd))
end Logic
end Jvm.Own
namespace Jvm.Own
open Sem ClassFile Op Lib Jvm.Stand Jvm.Free Jvm.LawKit Jvm.RoadKit
section Logic
variable {tb : List Cond} {K : KTab} {μ μ' : Mth} {rm rm' : Room} {pc : Nat} {L : List Slot} {S : List Value} {H : AHeap} {Q Q' : Option Value → AHeap → Prop}
theorem W.ret_ (hd : decode μ.2.1 pc = .ok (.return_, 1)) (hr0 : μ.2.2.2 = none) (hQ : Q none H) : W tb K μ rm pc L [] H Q := by
  intro hL Z a0 p l e R s m args below meth c' T locs cells slots X
  obtain ⟨X0, hx, hZ, hw, hby, hml, hrt, hnm, hlk, hown, hR, hFr, hr1, hr2, hr3, hr4⟩ := X
  obtain ⟨fs, hr, hrun, hended, hW, hsame⟩ := X0.leave (v := none) (fun _ => rfl) hlk
  exact ⟨none, H, T, locs, fs, hQ, X0.returnOut hx (hrt.trans hr0) (hb hby hd) hr, hrun, hended, hW, hsame.mono (by omega) (by omega), hFr, hR⟩
theorem W.ireturn {x : Int32} (hd : decode μ.2.1 pc = .ok (.ireturn, 1)) (hr0 : μ.2.2.2 = some .int) (hQ : Q (some (.int x)) H) : W tb K μ rm pc L (.int x :: S) H Q := by
  intro hL Z a0 p l e R s m args below meth c' T locs cells slots X
  obtain ⟨X0, hx, hZ, hw, hby, hml, hrt, hnm, hlk, hown, hR, hFr, hr1, hr2, hr3, hr4⟩ := X
  obtain ⟨fs, hr, hrun, hended, hW, hsame⟩ := X0.leave (v := some (.int x)) (fun h => by rw [hrt, hr0] at h; cases h) hlk
  exact ⟨some (.int x), H, T, locs, fs, hQ, retOut X0 hx (hrt.trans hr0) rfl (Or.inl ⟨rfl, Or.inl rfl, _, rfl⟩) (hb hby hd) hr, hrun, hended, hW, hsame.mono (by omega) (by omega), hFr, hR⟩
theorem W.ireturnN {t : FieldType} {x : Int32} (hd : decode μ.2.1 pc = .ok (.ireturn, 1)) (hr0 : μ.2.2.2 = some t) (ht : t = .boolean ∨ t = .byte ∨ t = .char ∨ t = .short) (hQ : Q (some (.int (nar t x))) H) : W tb K μ rm pc L (.int x :: S) H Q := by
  intro hL Z a0 p l e R s m args below meth c' T locs cells slots X
  obtain ⟨X0, hx, hZ, hw, hby, hml, hrt, hnm, hlk, hown, hR, hFr, hr1, hr2, hr3, hr4⟩ := X
  obtain ⟨fs, hr, hrun, hended, hW, hsame⟩ := X0.leave (v := some (.int (nar t x))) (fun h => by rw [hrt, hr0] at h; cases h) hlk
  exact ⟨some (.int (nar t x)), H, T, locs, fs, hQ, retN X0 hx (hrt.trans hr0) ht (hb hby hd) hr, hrun, hended, hW, hsame.mono (by omega) (by omega), hFr, hR⟩
theorem W.ireturnZ {x : Int32} (hd : decode μ.2.1 pc = .ok (.ireturn, 1)) (hr0 : μ.2.2.2 = some .boolean) (hQ : Q (some (.int (x &&& 1))) H) : W tb K μ rm pc L (.int x :: S) H Q := W.ireturnN hd hr0 (Or.inl rfl) hQ
theorem W.lreturn {x : Int64} (hd : decode μ.2.1 pc = .ok (.lreturn, 1)) (hr0 : μ.2.2.2 = some .long) (hQ : Q (some (.long x)) H) : W tb K μ rm pc L (.long x :: S) H Q := by
  intro hL Z a0 p l e R s m args below meth c' T locs cells slots X
  obtain ⟨X0, hx, hZ, hw, hby, hml, hrt, hnm, hlk, hown, hR, hFr, hr1, hr2, hr3, hr4⟩ := X
  obtain ⟨fs, hr, hrun, hended, hW, hsame⟩ := X0.leave (v := some (.long x)) (fun h => by rw [hrt, hr0] at h; cases h) hlk
  exact ⟨some (.long x), H, T, locs, fs, hQ, retOut X0 hx (hrt.trans hr0) rfl (Or.inr (Or.inl ⟨rfl, rfl, _, rfl⟩)) (hb hby hd) hr, hrun, hended, hW, hsame.mono (by omega) (by omega), hFr, hR⟩
theorem W.areturn {t : FieldType} {v : Value} (hd : decode μ.2.1 pc = .ok (.areturn, 1)) (hr0 : μ.2.2.2 = some t) (ht : t.isReference = true) (hv : v.isRef = true) (hQ : Q (some v) H) : W tb K μ rm pc L (v :: S) H Q := by
  intro hL Z a0 p l e R s m args below meth c' T locs cells slots X
  obtain ⟨X0, hx, hZ, hw, hby, hml, hrt, hnm, hlk, hown, hR, hFr, hr1, hr2, hr3, hr4⟩ := X
  obtain ⟨fs, hr, hrun, hended, hW, hsame⟩ := X0.leave (v := some (cv Z.heap.size v)) (fun h => by rw [hrt, hr0] at h; cases h) hlk
  exact ⟨some v, H, T, locs, fs, hQ, retOut X0 hx (hrt.trans hr0) (by cases v <;> first | (cases t <;> rfl) | cases hv) (Or.inr (Or.inr (Or.inr (Or.inr ⟨rfl, ht, by rw [cv_isRef]; exact hv⟩)))) (hb hby hd) hr, hrun, hended, hW, hsame.mono (by omega) (by omega), hFr, hR⟩
/-- what a call leaves of the room -/
abbrev less (rm rm' : Room) : Room := ⟨rm.frames, rm.cells - rm'.cells, rm.slots - rm'.slots, rm.locals⟩
abbrev wt (S : List Value) : Nat := (S.map fun v => v.category).sum
abbrev plainCls (μ' : Mth) : Prop := μ'.1.cls ≠ "java/lang/invoke/MethodHandle" ∧ μ'.1.cls ≠ "java/lang/invoke/VarHandle"
/-- room for a call: S stays on the stack, n locals -/
def rok (rm rm' : Room) (n : Nat) (S : List Value) : Bool := Nat.ble (rm'.frames + 1) rm.frames && (Nat.ble (wt S + (n + 11) + rm'.locals) rm.locals && (Nat.ble rm'.cells rm.cells && Nat.ble rm'.slots rm.slots))
theorem rok_spec {rm rm' : Room} {n : Nat} {S : List Value} (h : rok rm rm' n S = true) : rm'.frames + 1 ≤ rm.frames ∧ wt S + (n + 11) + rm'.locals ≤ rm.locals ∧ rm'.cells ≤ rm.cells ∧ rm'.slots ≤ rm.slots := by
  simp only [rok, Bool.and_eq_true, Nat.ble_eq] at h
  exact h
/-- room for Object's constructor -/
def iok (rm : Room) (S : List Value) : Bool := Nat.ble 1 rm.frames && Nat.ble (wt S + 12) rm.locals
/-- a callee that answers one value and leaves one heap -/
abbrev Is (v0 : Option Value) (H0 : AHeap) : Option Value → AHeap → Prop := fun v H => v = v0 ∧ H = H0
theorem hs {H : AHeap} {i : Nat} {c c' : ACell} (h : H[i]? = some c) : (H.set i c')[i]? = some c' := List.getElem?_set_self (List.getElem?_eq_some_iff.mp h).1
theorem hn {H : AHeap} {i j : Nat} {c c' : ACell} (h : H[j]? = some c) (ne : i ≠ j) : (H.set i c')[j]? = some c := by rw [List.getElem?_set_ne ne]; exact h
theorem ha {H H' : AHeap} {j : Nat} {c : ACell} (h : H[j]? = some c) : (H ++ H')[j]? = some c := by rw [List.getElem?_append_left (List.getElem?_eq_some_iff.mp h).1]; exact h
theorem back_st (k : Nat) (v : Option Value) (S : List Value) : (v.map (cv k)).toList ++ S.map (cv k) = (v.toList ++ S).map (cv k) := by cases v <;> rfl
theorem W.callS {idx : Nat} {as : List Value} {S0 : List Value} {ps : List FieldType} {r : Option FieldType} (hd : decode μ.2.1 pc = .ok (.invokestatic idx, 3)) (w1 : Cond.methodLink μ.1.cls idx μ'.1 ∈ tb) (w2 : Cond.static μ'.1 ∈ tb) (w3 : Cond.initialized μ'.1.cls ∈ tb) (w4 : Cond.code μ'.1 μ'.2.1 μ'.2.2.1 μ'.2.2.2 ∈ tb) (hy : plainCls μ')
    (hp : parseMethodDescriptor μ'.1.desc = some ⟨ps, r⟩) (hlen : as.length = ps.length) (hS : S0 = as.reverse ++ S) (hM : M tb K μ' rm' as H Q') (hr : rok rm rm' μ'.2.2.1 S = true)
    (h : ∀ v H', Q' v H' → W tb K μ (less rm rm') (pc + 3) L (v.toList ++ S) H' Q) : W tb K μ rm pc L S0 H Q := by
  intro hL Z a0 p l e R s m args below meth c' T locs cells slots X
  obtain ⟨X0, hx, hZ, hw, hby, hml, hrt, hnm, hlk, hown, hR, hFr, hr1, hr2, hr3, hr4⟩ := X
  obtain ⟨hf, hl, hc, hs⟩ := rok_spec hr
  obtain ⟨_, vm1, ⟨T1, L1, k1, n1⟩, hW1, X1, ⟨Lc, ⟨v', H', rfl, hR', hq', hFr'⟩, l1, y1, z1⟩, st⟩ := Jvm.LawKit.callS X0 hx (y := μ'.1) hown (mvT hZ (hw _ w1)) (mvT hZ (hw _ w2)) (mvT hZ (hw _ w3)) (mvT hZ (hw _ w4)) hy (backOf (R := R) (rm := rm') (h := T.heap) (Q := fun v h L => ∃ v' H', v = Option.map (cv Z.heap.size) v' ∧ Rel Z K h H' ∧ Q' v' H' ∧ Fr Z.heap.size L) (W := wt S) (hM Z a0 hw l T.heap [] hR) hZ (hw _ w4) (hw _ w3) (by omega) (by omega))
    (g := mkF m pc (L.map (cs Z.heap.size)).toArray (S0.map (cv Z.heap.size))) rfl (by simp [hL, hml]) (argsL := as.map (cv Z.heap.size)) (rest := S.map (cv Z.heap.size)) (lenOf hp (by simpa using hlen)) (by rw [hS]; simp) (by show 2 * 0 + _ ≤ _; rw [cat_map]; exact Nat.le_of_eq (by simp)) (hb hby hd) (fun _ _ => ⟨rfl, rfl, by show cells + _ ≤ _; omega, by show slots + _ ≤ _; omega⟩)
  dsimp only [Pt.U, Pt.locs, Pt.cells, Pt.slots] at X1 l1 y1 z1 st hR'
  subst l1 y1 z1
  rw [back_st] at st
  exact (h v' H' hq' hL Z a0 p l e R s m args below meth c' T1 _ _ _ ⟨X1, hx, hZ, hw, hby, hml, hrt, hnm, hlk, hown, hR', Fr.app hFr hFr', hr1, by show cells + _ + (rm.cells - _) ≤ _; omega, by show slots + _ + (rm.slots - _) ≤ _; omega, hr4⟩).steps st
theorem W.callI {idx i : Nat} {as : List Value} {S0 : List Value} {ps : List FieldType} {r : Option FieldType} (hd : decode μ.2.1 pc = .ok (.invokespecial idx, 3)) (hn : μ'.1.name = "<init>") (hr0 : μ'.2.2.2 = none) (w1 : Cond.methodLink μ.1.cls idx μ'.1 ∈ tb) (w2 : Cond.instanceMethod μ'.1 ∈ tb) (w3 : Cond.initialized μ'.1.cls ∈ tb) (w4 : Cond.code μ'.1 μ'.2.1 μ'.2.2.1 μ'.2.2.2 ∈ tb) (hy : plainCls μ')
    (hp : parseMethodDescriptor μ'.1.desc = some ⟨ps, r⟩) (hlen : as.length = ps.length) (hS : S0 = as.reverse ++ .ref i :: S) (hM : M tb K μ' rm' (.ref i :: as) H Q') (hr : rok rm rm' μ'.2.2.1 S = true)
    (h : ∀ v H', Q' v H' → W tb K μ (less rm rm') (pc + 3) L (v.toList ++ S) H' Q) : W tb K μ rm pc L S0 H Q := by
  intro hL Z a0 p l e R s m args below meth c' T locs cells slots X
  obtain ⟨X0, hx, hZ, hw, hby, hml, hrt, hnm, hlk, hown, hR, hFr, hr1, hr2, hr3, hr4⟩ := X
  obtain ⟨hf, hl, hc, hs⟩ := rok_spec hr
  have w4' : (Cond.code μ'.1 μ'.2.1 μ'.2.2.1 none).before a0 Z = true := by have q := hw _ w4; rw [hr0] at q; exact q
  obtain ⟨_, vm1, ⟨T1, L1, k1, n1⟩, hW1, X1, ⟨Lc, ⟨v', H', rfl, hR', hq', hFr'⟩, l1, y1, z1⟩, st⟩ := X0.specialBack hx (y := μ'.1) hn hown (mvT hZ (hw _ w1)) (mvT hZ (hw _ w2)) (mvT hZ w4') hy (backOf (R := R) (rm := rm') (h := T.heap) (Q := fun v h L => ∃ v' H', v = Option.map (cv Z.heap.size) v' ∧ Rel Z K h H' ∧ Q' v' H' ∧ Fr Z.heap.size L) (W := wt S) (hM Z a0 hw l T.heap [] hR) hZ (hw _ w4) (hw _ w3) (by omega) (by omega))
    (g := mkF m pc (L.map (cs Z.heap.size)).toArray (S0.map (cv Z.heap.size))) rfl (by simp [hL, hml]) (Steps.refl _) (a := Z.heap.size + i) (argsL := as.map (cv Z.heap.size)) (rest := S.map (cv Z.heap.size)) (lenOf hp (by simpa using hlen)) (by rw [hS]; simp [cv]) (by show 2 * 0 + _ ≤ _; rw [cat_map]; exact Nat.le_of_eq (by simp)) (hb hby hd) (fun _ _ => ⟨rfl, rfl, by show cells + _ ≤ _; omega, by show slots + _ ≤ _; omega⟩)
  dsimp only [Pt.U, Pt.locs, Pt.cells, Pt.slots] at X1 l1 y1 z1 st hR'
  subst l1 y1 z1
  rw [back_st] at st
  exact (h v' H' hq' hL Z a0 p l e R s m args below meth c' T1 _ _ _ ⟨X1, hx, hZ, hw, hby, hml, hrt, hnm, hlk, hown, hR', Fr.app hFr hFr', hr1, by show cells + _ + (rm.cells - _) ≤ _; omega, by show slots + _ + (rm.slots - _) ≤ _; omega, hr4⟩).steps (fun t ht => st.trans ht)
/-- the opcode that returns nothing -/
def opReturn : UInt8 := 177
/-- java/lang/Object's constructor -/
theorem W.initO {idx i : Nat} (hd : decode μ.2.1 pc = .ok (.invokespecial idx, 3)) (w1 : Cond.methodLink μ.1.cls idx Lib.objectInit ∈ tb) (w2 : Cond.instanceMethod Lib.objectInit ∈ tb) (w3 : Cond.code Lib.objectInit ⟨#[opReturn]⟩ 1 none ∈ tb) (hr : iok rm S = true)
    (h : W tb K μ rm (pc + 3) L S H Q) : W tb K μ rm pc L (.ref i :: S) H Q := by
  intro hL Z a0 p l e R s m args below meth c' T locs cells slots X
  obtain ⟨X0, hx, hZ, hw, hby, hml, hrt, hnm, hlk, hown, hR, hFr, hr1, hr2, hr3, hr4⟩ := X
  simp only [iok, Bool.and_eq_true, Nat.ble_eq] at hr
  obtain ⟨hf, hl⟩ := hr
  obtain ⟨T1, X1, e1, st⟩ := RoadKit.initO X0 hx hZ hown (hw _ w1) (hw _ w2) (hw _ w3) rfl (g := mkF m pc (L.map (cs Z.heap.size)).toArray ((Value.ref i :: S).map (cv Z.heap.size))) rfl (by simp [hL, hml]) rfl (hb hby hd) (by omega) (W := wt S) (by show 2 * 0 + _ ≤ _; rw [cat_map]; exact Nat.le_of_eq (by simp)) (by omega)
  exact (h hL Z a0 p l e R s m args below meth c' T1 locs cells slots ⟨X1, hx, hZ, hw, hby, hml, hrt, hnm, hlk, hown, e1 ▸ hR, hFr, hr1, hr2, hr3, hr4⟩).steps st
theorem W.callV {idx i c n : Nat} {C : String} {fs : List (String × String × String × FieldType)} {vs : List Value} {y : MethodName} {as : List Value} {S0 : List Value} {ps : List FieldType} {r : Option FieldType} (hd : decode μ.2.1 pc = .ok (.invokevirtual idx, 3)) (w1 : Cond.methodLink μ.1.cls idx y ∈ tb) (w2 : Cond.declares y ∈ tb) (w3 : Cond.selects C y μ'.1 ∈ tb) (hnf : y = μ'.1 ∨ ∃ q ∈ K, q.1 = y.cls) (hKO : KOk tb K)
    (w4 : Cond.instanceMethod μ'.1 ∈ tb) (w5 : Cond.initialized μ'.1.cls ∈ tb) (w6 : Cond.code μ'.1 μ'.2.1 μ'.2.2.1 μ'.2.2.2 ∈ tb) (hy : y.cls ≠ "java/lang/invoke/MethodHandle" ∧ y.cls ≠ "java/lang/invoke/VarHandle") (hK : K[c]? = some (C, n, fs)) (hp : parseMethodDescriptor y.desc = some ⟨ps, r⟩) (hlen : as.length = ps.length) (hS : S0 = as.reverse ++ .ref i :: S)
    (hH : H[i]? = some (.inl (c, vs))) (hM : M tb K μ' rm' (.ref i :: as) H Q') (hr : rok rm rm' μ'.2.2.1 S = true)
    (h : ∀ v H', Q' v H' → W tb K μ (less rm rm') (pc + 3) L (v.toList ++ S) H' Q) : W tb K μ rm pc L S0 H Q := by
  intro hL Z a0 p l e R s m args below meth c' T locs cells slots X
  obtain ⟨X0, hx, hZ, hw, hby, hml, hrt, hnm, hlk, hown, hR, hFr, hr1, hr2, hr3, hr4⟩ := X
  obtain ⟨hf, hl, hc, hs⟩ := rok_spec hr
  obtain ⟨C', n', fs', q1, q2, q3, q4⟩ := hR.2 _ _ hH
  cases hK.symm.trans q1
  obtain ⟨cB, kB, b1, b2, b3⟩ := isOf (T := T) hZ rfl q3
  have nf : NotFace s y := by
    rcases hnf with rfl | ⟨q, hq, hqc⟩
    · exact notFace_of_selects (args := #[]) (mvT hZ (hw _ w3))
    · intro r0 h0
      have g1 := findClass_of_methodNamed h0
      obtain ⟨c1, k1, i1, i2, i3, i4, -⟩ := Cond.instantiable_spec (args := #[]) (s := s) (mv hZ (hw _ (hKO q hq).1))
      rw [hqc] at i1
      cases g1.symm.trans i1
      exact ⟨k1, i2, by simp only [Bool.or_eq_false_iff] at i4; exact i4.1⟩
  obtain ⟨_, vm1, ⟨T1, L1, k1, n1⟩, hW1, X1, ⟨Lc, ⟨v', H', rfl, hR', hq', hFr'⟩, l1, y1, z1⟩, st⟩ := X0.virtualBack hx (y := y) (z := μ'.1) hown (mvT hZ (hw _ w1)) (mvT hZ (hw _ w2)) nf (mvT hZ (hw _ w3)) (mvT hZ (hw _ w4)) hy (backOf (R := R) (rm := rm') (h := T.heap) (Q := fun v h L => ∃ v' H', v = Option.map (cv Z.heap.size) v' ∧ Rel Z K h H' ∧ Q' v' H' ∧ Fr Z.heap.size L) (W := wt S) (hM Z a0 hw l T.heap [] hR) hZ (hw _ w6) (hw _ w5) (by omega) (by omega)) b1 b3
    (g := mkF m pc (L.map (cs Z.heap.size)).toArray (S0.map (cv Z.heap.size))) rfl (by simp [hL, hml]) (Steps.refl _) (argsL := as.map (cv Z.heap.size)) (rest := S.map (cv Z.heap.size)) (lenOf hp (by simpa using hlen)) (by rw [hS]; simp [cv]) (by show 2 * 0 + _ ≤ _; rw [cat_map]; exact Nat.le_of_eq (by simp)) (hb hby hd) (fun _ _ => ⟨rfl, rfl, by show cells + _ ≤ _; omega, by show slots + _ ≤ _; omega⟩)
  dsimp only [Pt.U, Pt.locs, Pt.cells, Pt.slots] at X1 l1 y1 z1 st hR'
  subst l1 y1 z1
  rw [back_st] at st
  exact (h v' H' hq' hL Z a0 p l e R s m args below meth c' T1 _ _ _ ⟨X1, hx, hZ, hw, hby, hml, hrt, hnm, hlk, hown, hR', Fr.app hFr hFr', hr1, by show cells + _ + (rm.cells - _) ≤ _; omega, by show slots + _ + (rm.slots - _) ≤ _; omega, hr4⟩).steps (fun t ht => st.trans ht)
/-- a private method, by invokevirtual -/
theorem W.callP {idx i c n : Nat} {C : String} {fs : List (String × String × String × FieldType)} {vs : List Value} {as : List Value} {S0 : List Value} {ps : List FieldType} {r : Option FieldType} (hd : decode μ.2.1 pc = .ok (.invokevirtual idx, 3)) (w1 : Cond.methodLink μ.1.cls idx μ'.1 ∈ tb) (w2 : Cond.privateMethod μ'.1 ∈ tb) (hKO : KOk tb K)
    (w4 : Cond.instanceMethod μ'.1 ∈ tb) (w5 : Cond.initialized μ'.1.cls ∈ tb) (w6 : Cond.code μ'.1 μ'.2.1 μ'.2.2.1 μ'.2.2.2 ∈ tb) (hy : plainCls μ') (hK : K[c]? = some (C, n, fs)) (hC : C = μ'.1.cls) (hp : parseMethodDescriptor μ'.1.desc = some ⟨ps, r⟩) (hlen : as.length = ps.length) (hS : S0 = as.reverse ++ .ref i :: S)
    (hH : H[i]? = some (.inl (c, vs))) (hM : M tb K μ' rm' (.ref i :: as) H Q') (hr : rok rm rm' μ'.2.2.1 S = true)
    (h : ∀ v H', Q' v H' → W tb K μ (less rm rm') (pc + 3) L (v.toList ++ S) H' Q) : W tb K μ rm pc L S0 H Q := by
  intro hL Z a0 p l e R s m args below meth c' T locs cells slots X
  obtain ⟨X0, hx, hZ, hw, hby, hml, hrt, hnm, hlk, hown, hR, hFr, hr1, hr2, hr3, hr4⟩ := X
  obtain ⟨hf, hl, hc, hs⟩ := rok_spec hr
  obtain ⟨C', n', fs', q1, q2, q3, q4⟩ := hR.2 _ _ hH
  cases hK.symm.trans q1
  obtain ⟨cell, c1, c2⟩ := q3.cell
  obtain ⟨mk, methM, m1, m2, m3, m4⟩ := Cond.instanceMethod_spec (args := args) (mv hZ (hw _ w4))
  obtain ⟨methM', cM, hmethM', -, -, -, -, -, -, hsigM⟩ := Cond.code_spec m1 (mv (args := args) hZ (hw _ w6))
  cases m2.symm.trans hmethM'
  obtain ⟨cc, kk, i1, i2, i3, i4, -⟩ := Cond.instantiable_spec (args := args) (s := s) (mv hZ (hw _ (hKO _ (mem_of_get hK)).1))
  have g1 := findClass_of_methodNamed m1
  rw [← hC] at g1
  cases g1.symm.trans i1
  have hni : kk.isInterface = false := by simp only [Bool.or_eq_false_iff] at i4; exact i4.1
  have hpriv : s.PrivateAt μ'.1 := Cond.privateMethod_at (mvP hZ (hw _ w2) (args := #[]))
  have hsel : selectMethod e.platform s.vm cell.cls mk = .method mk := selectMethod_private m2 (hpriv mk methM m1 m2)
  obtain ⟨vm1, X1', st1⟩ := X0.invokevirtual hx hown (mvT hZ (hw _ w1)) m1 m2 m3 i2 hni hy (a := Z.heap.size + i) (cell := cell) c1 c2 hsel m2 m4 i2 hni (g := mkF m pc (L.map (cs Z.heap.size)).toArray (S0.map (cv Z.heap.size))) rfl (argsL := as.map (cv Z.heap.size)) (rest := S.map (cv Z.heap.size)) (lenOf hp (by simpa using hlen) _ hsigM) (by rw [hS]; simp [cv]) (hb hby hd)
  obtain ⟨_, ⟨T1, L1, k1, n1⟩, X1, ⟨Lc, ⟨v', H', rfl, hR', hq', hFr'⟩, l1, y1, z1⟩, st⟩ := (backOf (R := R) (rm := rm') (h := T.heap) (Q := fun v h L => ∃ v' H', v = Option.map (cv Z.heap.size) v' ∧ Rel Z K h H' ∧ Q' v' H' ∧ Fr Z.heap.size L) (W := wt S) (hM Z a0 hw l T.heap [] hR) hZ (hw _ w6) (hw _ w5) (by omega) (by omega)) m meth c' ⟨T.setVm vm1, locs, cells, slots⟩ (mkF m pc (L.map (cs Z.heap.size)).toArray (S.map (cv Z.heap.size))) (.invokevirtual idx) mk (.ref (Z.heap.size + i) :: as.map (cv Z.heap.size)).toArray X1' rfl (by simp [hL, hml]) (hb hby hd) (by show 2 * 0 + _ ≤ _; rw [cat_map]; exact Nat.le_of_eq (by simp)) (X1'.named m1) ⟨rfl, rfl, by show cells + _ ≤ _; omega, by show slots + _ ≤ _; omega⟩
  dsimp only [Pt.U, Pt.locs, Pt.cells, Pt.slots] at X1 l1 y1 z1 st hR'
  subst l1 y1 z1
  rw [back_st] at st
  exact (h v' H' hq' hL Z a0 p l e R s m args below meth c' T1 _ _ _ ⟨X1, hx, hZ, hw, hby, hml, hrt, hnm, hlk, hown, hR', Fr.app hFr hFr', hr1, by show cells + _ + (rm.cells - _) ≤ _; omega, by show slots + _ + (rm.slots - _) ≤ _; omega, hr4⟩).steps (fun t ht => (st1 _ fun acts => by rw [doInvoke_state]; exact Steps.refl _).trans (st.trans ht))
/-- the locals at the entry -/
def ent : List Value → List Slot
  | [] => []
  | v :: r => if v.category = 2 then .val v :: .second :: ent r else .val v :: ent r
theorem ent_map (k : Nat) (as : List Value) : ent (as.map (cv k)) = (ent as).map (cs k) := by
  induction as with
  | nil => rfl
  | cons v r ih => by_cases h : v.category = 2 <;> simp [ent, h, cv_cat, ih, cs]
theorem fold_ent (as : List Value) : ∀ acc : Array Slot, as.foldl (fun acc v => if v.category = 2 then (acc.push (.val v)).push .second else acc.push (.val v)) acc = acc ++ (ent as).toArray := by
  induction as with
  | nil => intro acc; simp [ent]
  | cons v r ih => intro acc; by_cases h : v.category = 2 <;> simp [ent, h, ih]
theorem locals_of (k n : Nat) (as : List Value) : argsToLocals (as.map (cv k)).toArray n = ((ent as ++ List.replicate (n - (ent as).length) Slot.unset).map (cs k)).toArray := by
  have h : (as.map (cv k)).toArray.foldl (fun (acc : Array Slot) v => if v.category = 2 then (acc.push (.val v)).push .second else acc.push (.val v)) #[] = ((ent as).map (cs k)).toArray := by
    rw [List.foldl_toArray, fold_ent, ent_map]; simp
  simp only [argsToLocals]
  rw [h]
  simp [cs]
theorem M.of {as : List Value} (hn : plainFor μ.1 = true) (hl : ent as ++ List.replicate (μ.2.2.1 - (ent as).length) .unset = L) (hl' : L.length = μ.2.2.1) (h : W tb K μ rm 0 L [] H Q) : M tb K μ rm as H Q := by
  intro Z a0 hw l h0 ws hR
  refine MetFree.of_bodySF hn hisR ?_
  intro p e s m args below meth c s₁ Bd hml0 hP hK
  obtain ⟨rfl, hZ, hh⟩ := hP
  have e0 : s₁.heap = h0 := by rw [← hh, Bd.state]; rfl
  obtain ⟨v, H', T, locs, fs, hq, st, hrun, hended, hW, hsame, hFr, hR'⟩ := h hl' Z a0 p l e rm s m _ below meth c s₁ [] 0 0 ⟨Stand.of_body Bd, Bd.exec, hZ, hw, Bd.bytes, hml0, Bd.returns, (name_of_methodNamed Bd.named Bd.method).1, Bd.notSynchronized, findClass_of_methodNamed Bd.named, e0 ▸ hR, Fr.nil _, Nat.le_refl _, Nat.le_of_eq (Nat.zero_add _), Nat.le_of_eq (Nat.zero_add _), Nat.le_refl _⟩
  have q : entryFrame m (as.map (cv Z.heap.size)).toArray μ.2.2.1 = mkF m 0 (L.map (cs Z.heap.size)).toArray [] := by
    rw [← hl, entryFrame, locals_of]
  exact ⟨_, _, castTop q st, hrun, hended, _, locs, rfl, ⟨v, H', rfl, hR', hq, hFr⟩, ⟨_, rfl⟩, hW, hsame⟩
end Logic
end Jvm.Own
namespace Jvm.Pilot.@@N@@
open Jvm Jvm.ClassFile Sem Op Lib Jvm.Free Jvm.Stand Jvm.LawKit Jvm.RoadKit Jvm.Own Bundle Jvm.Pilot.@@N@@.Jvm.D
/-! PRINTED BY gen.py: the classes, the methods, one lemma a site -/
def KT : KTab := [("com/example/overlay_of_graphs/overlayofgraphs/embed/Axis", 5, [("com/example/overlay_of_graphs/overlayofgraphs/embed/Axis", "settled", "I", .int), ("com/example/overlay_of_graphs/overlayofgraphs/embed/Axis", "byRank", "[I", (.array .int)), ("com/example/overlay_of_graphs/overlayofgraphs/embed/Axis", "rank", "[I", (.array .int)), ("com/example/overlay_of_graphs/overlayofgraphs/embed/Axis", "gapsAt", "[J", (.array .long)), ("com/example/overlay_of_graphs/overlayofgraphs/embed/Axis", "gaps", "J", .long)])]
theorem kt : KOk tables_1 KT := (KOk.cons (List.mem_of_getElem? (i := 6) rfl) (fokS ⟨Or.inl (List.mem_of_getElem? (i := 15) rfl), by decide⟩ (fokS ⟨Or.inr (List.mem_of_getElem? (i := 17) rfl), by decide⟩ (fokS ⟨Or.inr (List.mem_of_getElem? (i := 19) rfl), by decide⟩ (fokS ⟨Or.inr (List.mem_of_getElem? (i := 22) rfl), by decide⟩ (fokS ⟨Or.inl (List.mem_of_getElem? (i := 29) rfl), by decide⟩ fok0))))) (by decide) KOk.nil)
abbrev μ0 : Mth := (x, code, 18, ret)
abbrev W0 := W tables_1 KT μ0
abbrev M0 := M tables_1 KT μ0
theorem pf0 : plainFor μ0.1 = true := by first | (refine plainFor_of_name ?_; simp [plainName, overriddenIn, x]; done) | decide +kernel
theorem pd0 : parseMethodDescriptor "(IIJJI)Z" = some ⟨[.int, .int, .long, .long, .int], some .boolean⟩ := by decide +kernel
abbrev μ1 : Mth := (⟨"com/example/overlay_of_graphs/overlayofgraphs/embed/AxisMovePinLaw", "pv", "(IIZ)I"⟩, method_2_code, 3, some .int)
abbrev W1 := W tables_1 KT μ1
abbrev M1 := M tables_1 KT μ1
theorem pf1 : plainFor μ1.1 = true := by first | (refine plainFor_of_name ?_; simp [plainName, overriddenIn, x]; done) | decide +kernel
theorem pd1 : parseMethodDescriptor "(IIZ)I" = some ⟨[.int, .int, .boolean], some .int⟩ := by decide +kernel
abbrev μ2 : Mth := (⟨"com/example/overlay_of_graphs/overlayofgraphs/embed/Axis", "<init>", "([I)V"⟩, prog_12_method_1_code, 3, none)
abbrev W2 := W tables_1 KT μ2
abbrev M2 := M tables_1 KT μ2
theorem pf2 : plainFor μ2.1 = true := by first | (refine plainFor_of_name ?_; simp [plainName, overriddenIn, x]; done) | decide +kernel
theorem pd2 : parseMethodDescriptor "([I)V" = some ⟨[(.array .int)], none⟩ := by decide +kernel
abbrev μ3 : Mth := (⟨"com/example/overlay_of_graphs/overlayofgraphs/embed/Axis", "move", "(IJ)V"⟩, prog_12_method_6_code, 6, none)
abbrev W3 := W tables_1 KT μ3
abbrev M3 := M tables_1 KT μ3
theorem pf3 : plainFor μ3.1 = true := by first | (refine plainFor_of_name ?_; simp [plainName, overriddenIn, x]; done) | decide +kernel
theorem pd3 : parseMethodDescriptor "(IJ)V" = some ⟨[.int, .long], none⟩ := by decide +kernel
abbrev μ4 : Mth := (⟨"com/example/overlay_of_graphs/overlayofgraphs/embed/Axis", "at", "(I)J"⟩, prog_12_method_4_code, 3, some .long)
abbrev W4 := W tables_1 KT μ4
abbrev M4 := M tables_1 KT μ4
theorem pf4 : plainFor μ4.1 = true := by first | (refine plainFor_of_name ?_; simp [plainName, overriddenIn, x]; done) | decide +kernel
theorem pd4 : parseMethodDescriptor "(I)J" = some ⟨[.int], some .long⟩ := by decide +kernel
abbrev μ5 : Mth := (⟨"com/example/overlay_of_graphs/overlayofgraphs/embed/AxisMovePinLaw", "exp", "(IZIJZIJ)J"⟩, method_3_code, 11, some .long)
abbrev W5 := W tables_1 KT μ5
abbrev M5 := M tables_1 KT μ5
theorem pf5 : plainFor μ5.1 = true := by first | (refine plainFor_of_name ?_; simp [plainName, overriddenIn, x]; done) | decide +kernel
theorem pd5 : parseMethodDescriptor "(IZIJZIJ)J" = some ⟨[.int, .boolean, .int, .long, .boolean, .int, .long], some .long⟩ := by decide +kernel
abbrev μ6 : Mth := (⟨"com/example/overlay_of_graphs/overlayofgraphs/embed/Axis", "vertexAt", "(J)I"⟩, prog_12_method_5_code, 5, some .int)
abbrev W6 := W tables_1 KT μ6
abbrev M6 := M tables_1 KT μ6
theorem pf6 : plainFor μ6.1 = true := by first | (refine plainFor_of_name ?_; simp [plainName, overriddenIn, x]; done) | decide +kernel
theorem pd6 : parseMethodDescriptor "(J)I" = some ⟨[.long], some .int⟩ := by decide +kernel
theorem e0 {rm : Room} {H : AHeap} {Q : Option Value → AHeap → Prop} {a0 : Int32} {a1 : Int32} {a2 : Int64} {a3 : Int64} {a4 : Int32} (h : W0 rm 0 [.val (.int a0), .val (.int a1), .val (.long a2), .second, .val (.long a3), .second, .val (.int a4), .unset, .unset, .unset, .unset, .unset, .unset, .unset, .unset, .unset, .unset, .unset] [] H Q) : M0 rm [.int a0, .int a1, .long a2, .long a3, .int a4] H Q := M.of pf0 rfl rfl h
theorem e0L {rm : Room} {H : AHeap} {Q : Option Value → AHeap → Prop} {L : List Slot} {as : List Value} (h : W0 rm 0 L [] H Q) (hl : ent as ++ List.replicate (18 - (ent as).length) .unset = L := by rfl) (hn : L.length = 18 := by rfl) : M0 rm as H Q := M.of pf0 hl hn h
theorem s0_0 {rm : Room} {S : List Value} {H : AHeap} {Q : Option Value → AHeap → Prop} {l1 l2 l3 l4 l5 l6 l7 l8 l9 l10 l11 l12 l13 l14 l15 l16 l17 : Slot} {x : Int32} (h : W0 rm 1 [.val (.int x), l1, l2, l3, l4, l5, l6, l7, l8, l9, l10, l11, l12, l13, l14, l15, l16, l17] (.int x :: S) (H) Q) : W0 rm 0 [.val (.int x), l1, l2, l3, l4, l5, l6, l7, l8, l9, l10, l11, l12, l13, l14, l15, l16, l17] (S) H Q := W.iload_n at_0 rfl h
theorem s0_1 {rm : Room} {S : List Value} {H : AHeap} {Q : Option Value → AHeap → Prop} {l0 l1 l2 l3 l4 l5 l6 l7 l8 l9 l10 l11 l12 l13 l14 l15 l16 l17 : Slot}  (h : W0 rm 2 [l0, l1, l2, l3, l4, l5, l6, l7, l8, l9, l10, l11, l12, l13, l14, l15, l16, l17] (.int 3 :: S) (H) Q) : W0 rm 1 [l0, l1, l2, l3, l4, l5, l6, l7, l8, l9, l10, l11, l12, l13, l14, l15, l16, l17] (S) H Q := W.iconst' at_1 (by decide) h
theorem s0_2 {rm : Room} {S : List Value} {H : AHeap} {Q : Option Value → AHeap → Prop} {l0 l1 l2 l3 l4 l5 l6 l7 l8 l9 l10 l11 l12 l13 l14 l15 l16 l17 : Slot} {x y : Int32} (h : W0 rm 3 [l0, l1, l2, l3, l4, l5, l6, l7, l8, l9, l10, l11, l12, l13, l14, l15, l16, l17] (.int (x &&& y) :: S) (H) Q) : W0 rm 2 [l0, l1, l2, l3, l4, l5, l6, l7, l8, l9, l10, l11, l12, l13, l14, l15, l16, l17] (.int y :: .int x :: S) H Q := W.iand at_2 h
theorem s0_3 {rm : Room} {S : List Value} {H : AHeap} {Q : Option Value → AHeap → Prop} {l0 l1 l2 l3 l4 l5 l6 l7 l8 l9 l10 l11 l12 l13 l14 l15 l16 l17 : Slot} {x : Int32} (ho : one l7 = true) (h : W0 rm 5 [l0, l1, l2, l3, l4, l5, l6, .val (.int x), l8, l9, l10, l11, l12, l13, l14, l15, l16, l17] (S) (H) Q) : W0 rm 3 [l0, l1, l2, l3, l4, l5, l6, l7, l8, l9, l10, l11, l12, l13, l14, l15, l16, l17] (.int x :: S) H Q := W.istore at_3 rfl ho h
theorem s0_3w {rm : Room} {S : List Value} {H : AHeap} {Q : Option Value → AHeap → Prop} {l0 l1 l2 l3 l4 l5 l6 l8 l9 l10 l11 l12 l13 l14 l15 l16 l17 : Slot} {w : Value} {x : Int32} (ho : w.category = 2) (h : W0 rm 5 [l0, l1, l2, l3, l4, l5, l6, .val (.int x), .unset, l9, l10, l11, l12, l13, l14, l15, l16, l17] (S) (H) Q) : W0 rm 3 [l0, l1, l2, l3, l4, l5, l6, .val w, l8, l9, l10, l11, l12, l13, l14, l15, l16, l17] (.int x :: S) H Q := W.istoreW at_3 rfl ho (Nat.le_of_ble_eq_true rfl) h
theorem s0_3s {rm : Room} {S : List Value} {H : AHeap} {Q : Option Value → AHeap → Prop} {l0 l1 l2 l3 l4 l5 l6 l8 l9 l10 l11 l12 l13 l14 l15 l16 l17 : Slot} {x : Int32} (h : W0 rm 5 [l0, l1, l2, l3, l4, l5, .unset, .val (.int x), l8, l9, l10, l11, l12, l13, l14, l15, l16, l17] (S) (H) Q) : W0 rm 3 [l0, l1, l2, l3, l4, l5, l6, .second, l8, l9, l10, l11, l12, l13, l14, l15, l16, l17] (.int x :: S) H Q := W.istoreS at_3 rfl (by decide) h
theorem s0_5 {rm : Room} {S : List Value} {H : AHeap} {Q : Option Value → AHeap → Prop} {l1 l2 l3 l4 l5 l6 l7 l8 l9 l10 l11 l12 l13 l14 l15 l16 l17 : Slot} {x : Int32} (h : W0 rm 6 [.val (.int x), l1, l2, l3, l4, l5, l6, l7, l8, l9, l10, l11, l12, l13, l14, l15, l16, l17] (.int x :: S) (H) Q) : W0 rm 5 [.val (.int x), l1, l2, l3, l4, l5, l6, l7, l8, l9, l10, l11, l12, l13, l14, l15, l16, l17] (S) H Q := W.iload_n at_5 rfl h
theorem s0_6 {rm : Room} {S : List Value} {H : AHeap} {Q : Option Value → AHeap → Prop} {l0 l1 l2 l3 l4 l5 l6 l7 l8 l9 l10 l11 l12 l13 l14 l15 l16 l17 : Slot}  (h : W0 rm 7 [l0, l1, l2, l3, l4, l5, l6, l7, l8, l9, l10, l11, l12, l13, l14, l15, l16, l17] (.int 2 :: S) (H) Q) : W0 rm 6 [l0, l1, l2, l3, l4, l5, l6, l7, l8, l9, l10, l11, l12, l13, l14, l15, l16, l17] (S) H Q := W.iconst' at_6 (by decide) h
theorem s0_7 {rm : Room} {S : List Value} {H : AHeap} {Q : Option Value → AHeap → Prop} {l0 l1 l2 l3 l4 l5 l6 l7 l8 l9 l10 l11 l12 l13 l14 l15 l16 l17 : Slot} {x y : Int32} (h : W0 rm 8 [l0, l1, l2, l3, l4, l5, l6, l7, l8, l9, l10, l11, l12, l13, l14, l15, l16, l17] (.int (XT.ushr x y) :: S) (H) Q) : W0 rm 7 [l0, l1, l2, l3, l4, l5, l6, l7, l8, l9, l10, l11, l12, l13, l14, l15, l16, l17] (.int y :: .int x :: S) H Q := W.iushr at_7 h
theorem s0_8 {rm : Room} {S : List Value} {H : AHeap} {Q : Option Value → AHeap → Prop} {l0 l1 l2 l3 l4 l5 l6 l7 l8 l9 l10 l11 l12 l13 l14 l15 l16 l17 : Slot}  (h : W0 rm 9 [l0, l1, l2, l3, l4, l5, l6, l7, l8, l9, l10, l11, l12, l13, l14, l15, l16, l17] (.int 1 :: S) (H) Q) : W0 rm 8 [l0, l1, l2, l3, l4, l5, l6, l7, l8, l9, l10, l11, l12, l13, l14, l15, l16, l17] (S) H Q := W.iconst' at_8 (by decide) h
theorem s0_9 {rm : Room} {S : List Value} {H : AHeap} {Q : Option Value → AHeap → Prop} {l0 l1 l2 l3 l4 l5 l6 l7 l8 l9 l10 l11 l12 l13 l14 l15 l16 l17 : Slot} {x y : Int32} (h : W0 rm 10 [l0, l1, l2, l3, l4, l5, l6, l7, l8, l9, l10, l11, l12, l13, l14, l15, l16, l17] (.int (x &&& y) :: S) (H) Q) : W0 rm 9 [l0, l1, l2, l3, l4, l5, l6, l7, l8, l9, l10, l11, l12, l13, l14, l15, l16, l17] (.int y :: .int x :: S) H Q := W.iand at_9 h
theorem s0_10 {rm : Room} {S : List Value} {H : AHeap} {Q : Option Value → AHeap → Prop} {l0 l1 l2 l3 l4 l5 l6 l7 l8 l9 l10 l11 l12 l13 l14 l15 l16 l17 : Slot} {x : Int32} (h1 : x = 0 → W0 rm 17 [l0, l1, l2, l3, l4, l5, l6, l7, l8, l9, l10, l11, l12, l13, l14, l15, l16, l17] S H Q) (h2 : ¬ x = 0 → W0 rm 13 [l0, l1, l2, l3, l4, l5, l6, l7, l8, l9, l10, l11, l12, l13, l14, l15, l16, l17] S H Q) : W0 rm 10 [l0, l1, l2, l3, l4, l5, l6, l7, l8, l9, l10, l11, l12, l13, l14, l15, l16, l17] (.int x :: S) H Q := W.ifc at_10 (by decide) (by decide) h1 h2
theorem s0_13 {rm : Room} {S : List Value} {H : AHeap} {Q : Option Value → AHeap → Prop} {l0 l1 l2 l3 l4 l5 l6 l7 l8 l9 l10 l11 l12 l13 l14 l15 l16 l17 : Slot}  (h : W0 rm 14 [l0, l1, l2, l3, l4, l5, l6, l7, l8, l9, l10, l11, l12, l13, l14, l15, l16, l17] (.int 1 :: S) (H) Q) : W0 rm 13 [l0, l1, l2, l3, l4, l5, l6, l7, l8, l9, l10, l11, l12, l13, l14, l15, l16, l17] (S) H Q := W.iconst' at_13 (by decide) h
theorem s0_14 {rm : Room} {S : List Value} {H : AHeap} {Q : Option Value → AHeap → Prop} {l0 l1 l2 l3 l4 l5 l6 l7 l8 l9 l10 l11 l12 l13 l14 l15 l16 l17 : Slot}  (h : W0 rm 18 [l0, l1, l2, l3, l4, l5, l6, l7, l8, l9, l10, l11, l12, l13, l14, l15, l16, l17] (S) (H) Q) : W0 rm 14 [l0, l1, l2, l3, l4, l5, l6, l7, l8, l9, l10, l11, l12, l13, l14, l15, l16, l17] (S) H Q := W.goto at_14 (by decide) (by decide) h
theorem s0_17 {rm : Room} {S : List Value} {H : AHeap} {Q : Option Value → AHeap → Prop} {l0 l1 l2 l3 l4 l5 l6 l7 l8 l9 l10 l11 l12 l13 l14 l15 l16 l17 : Slot}  (h : W0 rm 18 [l0, l1, l2, l3, l4, l5, l6, l7, l8, l9, l10, l11, l12, l13, l14, l15, l16, l17] (.int 0 :: S) (H) Q) : W0 rm 17 [l0, l1, l2, l3, l4, l5, l6, l7, l8, l9, l10, l11, l12, l13, l14, l15, l16, l17] (S) H Q := W.iconst' at_17 (by decide) h
theorem s0_18 {rm : Room} {S : List Value} {H : AHeap} {Q : Option Value → AHeap → Prop} {l0 l1 l2 l3 l4 l5 l6 l7 l8 l9 l10 l11 l12 l13 l14 l15 l16 l17 : Slot} {x : Int32} (ho : one l8 = true) (h : W0 rm 20 [l0, l1, l2, l3, l4, l5, l6, l7, .val (.int x), l9, l10, l11, l12, l13, l14, l15, l16, l17] (S) (H) Q) : W0 rm 18 [l0, l1, l2, l3, l4, l5, l6, l7, l8, l9, l10, l11, l12, l13, l14, l15, l16, l17] (.int x :: S) H Q := W.istore at_18 rfl ho h
theorem s0_18w {rm : Room} {S : List Value} {H : AHeap} {Q : Option Value → AHeap → Prop} {l0 l1 l2 l3 l4 l5 l6 l7 l9 l10 l11 l12 l13 l14 l15 l16 l17 : Slot} {w : Value} {x : Int32} (ho : w.category = 2) (h : W0 rm 20 [l0, l1, l2, l3, l4, l5, l6, l7, .val (.int x), .unset, l10, l11, l12, l13, l14, l15, l16, l17] (S) (H) Q) : W0 rm 18 [l0, l1, l2, l3, l4, l5, l6, l7, .val w, l9, l10, l11, l12, l13, l14, l15, l16, l17] (.int x :: S) H Q := W.istoreW at_18 rfl ho (Nat.le_of_ble_eq_true rfl) h
theorem s0_18s {rm : Room} {S : List Value} {H : AHeap} {Q : Option Value → AHeap → Prop} {l0 l1 l2 l3 l4 l5 l6 l7 l9 l10 l11 l12 l13 l14 l15 l16 l17 : Slot} {x : Int32} (h : W0 rm 20 [l0, l1, l2, l3, l4, l5, l6, .unset, .val (.int x), l9, l10, l11, l12, l13, l14, l15, l16, l17] (S) (H) Q) : W0 rm 18 [l0, l1, l2, l3, l4, l5, l6, l7, .second, l9, l10, l11, l12, l13, l14, l15, l16, l17] (.int x :: S) H Q := W.istoreS at_18 rfl (by decide) h
theorem s0_20 {rm : Room} {S : List Value} {H : AHeap} {Q : Option Value → AHeap → Prop} {l0 l1 l2 l3 l4 l5 l6 l7 l8 l9 l10 l11 l12 l13 l14 l15 l16 l17 : Slot}  (h : W0 rm 21 [l0, l1, l2, l3, l4, l5, l6, l7, l8, l9, l10, l11, l12, l13, l14, l15, l16, l17] (.int 4 :: S) (H) Q) : W0 rm 20 [l0, l1, l2, l3, l4, l5, l6, l7, l8, l9, l10, l11, l12, l13, l14, l15, l16, l17] (S) H Q := W.iconst' at_20 (by decide) h
theorem s0_21 {rm : Room} {S : List Value} {H : AHeap} {Q : Option Value → AHeap → Prop} {l0 l1 l2 l3 l4 l5 l6 l7 l8 l9 l10 l11 l12 l13 l14 l15 l16 l17 : Slot} {n : Int32} (i N : Nat) (hn : ix n N) (hi : H.length = i) (hr : nok rm N = true) (h : W0 ⟨rm.frames, rm.cells - 1, rm.slots - N, rm.locals⟩ 23 [l0, l1, l2, l3, l4, l5, l6, l7, l8, l9, l10, l11, l12, l13, l14, l15, l16, l17] (.ref i :: S) (H ++ [.inr (.int, List.replicate N (.int 0))]) Q) : W0 rm 21 [l0, l1, l2, l3, l4, l5, l6, l7, l8, l9, l10, l11, l12, l13, l14, l15, l16, l17] (.int n :: S) H Q := W.newarray (ty := .int) (d := .int 0) at_21 rfl (List.mem_of_getElem? (i := 0) rfl) rfl hn hi hr h
theorem s0_23 {rm : Room} {S : List Value} {H : AHeap} {Q : Option Value → AHeap → Prop} {l0 l1 l2 l3 l4 l5 l6 l7 l8 l9 l10 l11 l12 l13 l14 l15 l16 l17 : Slot} {i : Nat} (ho : one l9 = true) (h : W0 rm 25 [l0, l1, l2, l3, l4, l5, l6, l7, l8, .val (.ref i), l10, l11, l12, l13, l14, l15, l16, l17] (S) (H) Q) : W0 rm 23 [l0, l1, l2, l3, l4, l5, l6, l7, l8, l9, l10, l11, l12, l13, l14, l15, l16, l17] (.ref i :: S) H Q := W.astore at_23 rfl ho rfl h
theorem s0_25 {rm : Room} {S : List Value} {H : AHeap} {Q : Option Value → AHeap → Prop} {l0 l1 l2 l3 l4 l5 l6 l7 l8 l10 l11 l12 l13 l14 l15 l16 l17 : Slot} {i : Nat} (h : W0 rm 27 [l0, l1, l2, l3, l4, l5, l6, l7, l8, .val (.ref i), l10, l11, l12, l13, l14, l15, l16, l17] (.ref i :: S) (H) Q) : W0 rm 25 [l0, l1, l2, l3, l4, l5, l6, l7, l8, .val (.ref i), l10, l11, l12, l13, l14, l15, l16, l17] (S) H Q := W.aload at_25 rfl rfl h
theorem s0_25n {rm : Room} {S : List Value} {H : AHeap} {Q : Option Value → AHeap → Prop} {l0 l1 l2 l3 l4 l5 l6 l7 l8 l10 l11 l12 l13 l14 l15 l16 l17 : Slot}  (h : W0 rm 27 [l0, l1, l2, l3, l4, l5, l6, l7, l8, .val .null, l10, l11, l12, l13, l14, l15, l16, l17] (.null :: S) (H) Q) : W0 rm 25 [l0, l1, l2, l3, l4, l5, l6, l7, l8, .val .null, l10, l11, l12, l13, l14, l15, l16, l17] (S) H Q := W.aload at_25 rfl rfl h
theorem s0_27 {rm : Room} {S : List Value} {H : AHeap} {Q : Option Value → AHeap → Prop} {l0 l1 l2 l3 l4 l5 l6 l7 l8 l9 l10 l11 l12 l13 l14 l15 l16 l17 : Slot}  (h : W0 rm 28 [l0, l1, l2, l3, l4, l5, l6, l7, l8, l9, l10, l11, l12, l13, l14, l15, l16, l17] (.int 0 :: S) (H) Q) : W0 rm 27 [l0, l1, l2, l3, l4, l5, l6, l7, l8, l9, l10, l11, l12, l13, l14, l15, l16, l17] (S) H Q := W.iconst' at_27 (by decide) h
theorem s0_28 {rm : Room} {S : List Value} {H : AHeap} {Q : Option Value → AHeap → Prop} {l0 l1 l2 l3 l4 l5 l6 l7 l8 l9 l10 l11 l12 l13 l14 l15 l16 l17 : Slot}  (h : W0 rm 29 [l0, l1, l2, l3, l4, l5, l6, l7, l8, l9, l10, l11, l12, l13, l14, l15, l16, l17] (.int 0 :: S) (H) Q) : W0 rm 28 [l0, l1, l2, l3, l4, l5, l6, l7, l8, l9, l10, l11, l12, l13, l14, l15, l16, l17] (S) H Q := W.iconst' at_28 (by decide) h
theorem s0_29 {rm : Room} {S : List Value} {H : AHeap} {Q : Option Value → AHeap → Prop} {l0 l1 l2 l3 l4 l5 l6 l8 l9 l10 l11 l12 l13 l14 l15 l16 l17 : Slot} {x : Int32} (h : W0 rm 31 [l0, l1, l2, l3, l4, l5, l6, .val (.int x), l8, l9, l10, l11, l12, l13, l14, l15, l16, l17] (.int x :: S) (H) Q) : W0 rm 29 [l0, l1, l2, l3, l4, l5, l6, .val (.int x), l8, l9, l10, l11, l12, l13, l14, l15, l16, l17] (S) H Q := W.iload at_29 rfl h
theorem s0_31 {rm : Room} {S : List Value} {H : AHeap} {Q : Option Value → AHeap → Prop} {l0 l1 l2 l3 l4 l5 l6 l7 l9 l10 l11 l12 l13 l14 l15 l16 l17 : Slot} {x : Int32} (h : W0 rm 33 [l0, l1, l2, l3, l4, l5, l6, l7, .val (.int x), l9, l10, l11, l12, l13, l14, l15, l16, l17] (.int x :: S) (H) Q) : W0 rm 31 [l0, l1, l2, l3, l4, l5, l6, l7, .val (.int x), l9, l10, l11, l12, l13, l14, l15, l16, l17] (S) H Q := W.iload at_31 rfl h
theorem s0_33 {rm : Room} {S : List Value} {H : AHeap} {Q : Option Value → AHeap → Prop} {l0 l1 l2 l3 l4 l5 l6 l7 l8 l9 l10 l11 l12 l13 l14 l15 l16 l17 : Slot} {rm' : Room} {H' : AHeap} {a0 : Int32} {a1 : Int32} {a2 : Int32} {r : Int32} (hM : M1 rm' [.int a0, .int a1, .int a2] H (Is (some (.int r)) H')) (hr : rok rm rm' 3 S = true) (h : W0 (less rm rm') 36 [l0, l1, l2, l3, l4, l5, l6, l7, l8, l9, l10, l11, l12, l13, l14, l15, l16, l17] (.int r :: S) H' Q) : W0 rm 33 [l0, l1, l2, l3, l4, l5, l6, l7, l8, l9, l10, l11, l12, l13, l14, l15, l16, l17] (.int a2 :: .int a1 :: .int a0 :: S) H Q := W.callS (S := S) (as := [.int a0, .int a1, .int a2]) (rm' := rm') at_33 (List.mem_of_getElem? (i := 1) rfl) (List.mem_of_getElem? (i := 2) rfl) (List.mem_of_getElem? (i := 3) rfl) (List.mem_of_getElem? (i := 4) rfl) (by decide) pd1 rfl rfl hM hr (fun _ _ q => by obtain ⟨rfl, rfl⟩ := q; exact h)
theorem s0_33q {rm : Room} {S : List Value} {H : AHeap} {Q : Option Value → AHeap → Prop} {l0 l1 l2 l3 l4 l5 l6 l7 l8 l9 l10 l11 l12 l13 l14 l15 l16 l17 : Slot} {rm' : Room} {Q' : Option Value → AHeap → Prop} {a0 a1 a2 : Value} (hM : M1 rm' [a0, a1, a2] H Q') (hr : rok rm rm' 3 S = true) (h : ∀ v H', Q' v H' → W0 (less rm rm') 36 [l0, l1, l2, l3, l4, l5, l6, l7, l8, l9, l10, l11, l12, l13, l14, l15, l16, l17] (v.toList ++ S) H' Q) : W0 rm 33 [l0, l1, l2, l3, l4, l5, l6, l7, l8, l9, l10, l11, l12, l13, l14, l15, l16, l17] (a2 :: a1 :: a0 :: S) H Q := W.callS (S := S) (as := [a0, a1, a2]) (rm' := rm') at_33 (List.mem_of_getElem? (i := 1) rfl) (List.mem_of_getElem? (i := 2) rfl) (List.mem_of_getElem? (i := 3) rfl) (List.mem_of_getElem? (i := 4) rfl) (by decide) pd1 rfl rfl hM hr h
theorem s0_36 {rm : Room} {S : List Value} {H : AHeap} {Q : Option Value → AHeap → Prop} {l0 l1 l2 l3 l4 l5 l6 l7 l8 l9 l10 l11 l12 l13 l14 l15 l16 l17 : Slot} {i : Nat} {j : Int32} {x : Int32} {vs : List Value} (N : Nat) (hH : H[i]? = some (.inr (.int, vs))) (hj : ix j N) (hl : Nat.blt N vs.length = true) (h : W0 rm 37 [l0, l1, l2, l3, l4, l5, l6, l7, l8, l9, l10, l11, l12, l13, l14, l15, l16, l17] (S) (H.set i (.inr (.int, vs.set N (.int x)))) Q) : W0 rm 36 [l0, l1, l2, l3, l4, l5, l6, l7, l8, l9, l10, l11, l12, l13, l14, l15, l16, l17] (.int x :: .int j :: .ref i :: S) H Q := W.iastore at_36 hH hj hl h
theorem s0_37 {rm : Room} {S : List Value} {H : AHeap} {Q : Option Value → AHeap → Prop} {l0 l1 l2 l3 l4 l5 l6 l7 l8 l10 l11 l12 l13 l14 l15 l16 l17 : Slot} {i : Nat} (h : W0 rm 39 [l0, l1, l2, l3, l4, l5, l6, l7, l8, .val (.ref i), l10, l11, l12, l13, l14, l15, l16, l17] (.ref i :: S) (H) Q) : W0 rm 37 [l0, l1, l2, l3, l4, l5, l6, l7, l8, .val (.ref i), l10, l11, l12, l13, l14, l15, l16, l17] (S) H Q := W.aload at_37 rfl rfl h
theorem s0_37n {rm : Room} {S : List Value} {H : AHeap} {Q : Option Value → AHeap → Prop} {l0 l1 l2 l3 l4 l5 l6 l7 l8 l10 l11 l12 l13 l14 l15 l16 l17 : Slot}  (h : W0 rm 39 [l0, l1, l2, l3, l4, l5, l6, l7, l8, .val .null, l10, l11, l12, l13, l14, l15, l16, l17] (.null :: S) (H) Q) : W0 rm 37 [l0, l1, l2, l3, l4, l5, l6, l7, l8, .val .null, l10, l11, l12, l13, l14, l15, l16, l17] (S) H Q := W.aload at_37 rfl rfl h
theorem s0_39 {rm : Room} {S : List Value} {H : AHeap} {Q : Option Value → AHeap → Prop} {l0 l1 l2 l3 l4 l5 l6 l7 l8 l9 l10 l11 l12 l13 l14 l15 l16 l17 : Slot}  (h : W0 rm 40 [l0, l1, l2, l3, l4, l5, l6, l7, l8, l9, l10, l11, l12, l13, l14, l15, l16, l17] (.int 1 :: S) (H) Q) : W0 rm 39 [l0, l1, l2, l3, l4, l5, l6, l7, l8, l9, l10, l11, l12, l13, l14, l15, l16, l17] (S) H Q := W.iconst' at_39 (by decide) h
theorem s0_40 {rm : Room} {S : List Value} {H : AHeap} {Q : Option Value → AHeap → Prop} {l0 l1 l2 l3 l4 l5 l6 l7 l8 l9 l10 l11 l12 l13 l14 l15 l16 l17 : Slot}  (h : W0 rm 41 [l0, l1, l2, l3, l4, l5, l6, l7, l8, l9, l10, l11, l12, l13, l14, l15, l16, l17] (.int 1 :: S) (H) Q) : W0 rm 40 [l0, l1, l2, l3, l4, l5, l6, l7, l8, l9, l10, l11, l12, l13, l14, l15, l16, l17] (S) H Q := W.iconst' at_40 (by decide) h
theorem s0_41 {rm : Room} {S : List Value} {H : AHeap} {Q : Option Value → AHeap → Prop} {l0 l1 l2 l3 l4 l5 l6 l8 l9 l10 l11 l12 l13 l14 l15 l16 l17 : Slot} {x : Int32} (h : W0 rm 43 [l0, l1, l2, l3, l4, l5, l6, .val (.int x), l8, l9, l10, l11, l12, l13, l14, l15, l16, l17] (.int x :: S) (H) Q) : W0 rm 41 [l0, l1, l2, l3, l4, l5, l6, .val (.int x), l8, l9, l10, l11, l12, l13, l14, l15, l16, l17] (S) H Q := W.iload at_41 rfl h
theorem s0_43 {rm : Room} {S : List Value} {H : AHeap} {Q : Option Value → AHeap → Prop} {l0 l1 l2 l3 l4 l5 l6 l7 l9 l10 l11 l12 l13 l14 l15 l16 l17 : Slot} {x : Int32} (h : W0 rm 45 [l0, l1, l2, l3, l4, l5, l6, l7, .val (.int x), l9, l10, l11, l12, l13, l14, l15, l16, l17] (.int x :: S) (H) Q) : W0 rm 43 [l0, l1, l2, l3, l4, l5, l6, l7, .val (.int x), l9, l10, l11, l12, l13, l14, l15, l16, l17] (S) H Q := W.iload at_43 rfl h
theorem s0_45 {rm : Room} {S : List Value} {H : AHeap} {Q : Option Value → AHeap → Prop} {l0 l1 l2 l3 l4 l5 l6 l7 l8 l9 l10 l11 l12 l13 l14 l15 l16 l17 : Slot} {rm' : Room} {H' : AHeap} {a0 : Int32} {a1 : Int32} {a2 : Int32} {r : Int32} (hM : M1 rm' [.int a0, .int a1, .int a2] H (Is (some (.int r)) H')) (hr : rok rm rm' 3 S = true) (h : W0 (less rm rm') 48 [l0, l1, l2, l3, l4, l5, l6, l7, l8, l9, l10, l11, l12, l13, l14, l15, l16, l17] (.int r :: S) H' Q) : W0 rm 45 [l0, l1, l2, l3, l4, l5, l6, l7, l8, l9, l10, l11, l12, l13, l14, l15, l16, l17] (.int a2 :: .int a1 :: .int a0 :: S) H Q := W.callS (S := S) (as := [.int a0, .int a1, .int a2]) (rm' := rm') at_45 (List.mem_of_getElem? (i := 1) rfl) (List.mem_of_getElem? (i := 2) rfl) (List.mem_of_getElem? (i := 3) rfl) (List.mem_of_getElem? (i := 4) rfl) (by decide) pd1 rfl rfl hM hr (fun _ _ q => by obtain ⟨rfl, rfl⟩ := q; exact h)
theorem s0_45q {rm : Room} {S : List Value} {H : AHeap} {Q : Option Value → AHeap → Prop} {l0 l1 l2 l3 l4 l5 l6 l7 l8 l9 l10 l11 l12 l13 l14 l15 l16 l17 : Slot} {rm' : Room} {Q' : Option Value → AHeap → Prop} {a0 a1 a2 : Value} (hM : M1 rm' [a0, a1, a2] H Q') (hr : rok rm rm' 3 S = true) (h : ∀ v H', Q' v H' → W0 (less rm rm') 48 [l0, l1, l2, l3, l4, l5, l6, l7, l8, l9, l10, l11, l12, l13, l14, l15, l16, l17] (v.toList ++ S) H' Q) : W0 rm 45 [l0, l1, l2, l3, l4, l5, l6, l7, l8, l9, l10, l11, l12, l13, l14, l15, l16, l17] (a2 :: a1 :: a0 :: S) H Q := W.callS (S := S) (as := [a0, a1, a2]) (rm' := rm') at_45 (List.mem_of_getElem? (i := 1) rfl) (List.mem_of_getElem? (i := 2) rfl) (List.mem_of_getElem? (i := 3) rfl) (List.mem_of_getElem? (i := 4) rfl) (by decide) pd1 rfl rfl hM hr h
theorem s0_48 {rm : Room} {S : List Value} {H : AHeap} {Q : Option Value → AHeap → Prop} {l0 l1 l2 l3 l4 l5 l6 l7 l8 l9 l10 l11 l12 l13 l14 l15 l16 l17 : Slot} {i : Nat} {j : Int32} {x : Int32} {vs : List Value} (N : Nat) (hH : H[i]? = some (.inr (.int, vs))) (hj : ix j N) (hl : Nat.blt N vs.length = true) (h : W0 rm 49 [l0, l1, l2, l3, l4, l5, l6, l7, l8, l9, l10, l11, l12, l13, l14, l15, l16, l17] (S) (H.set i (.inr (.int, vs.set N (.int x)))) Q) : W0 rm 48 [l0, l1, l2, l3, l4, l5, l6, l7, l8, l9, l10, l11, l12, l13, l14, l15, l16, l17] (.int x :: .int j :: .ref i :: S) H Q := W.iastore at_48 hH hj hl h
theorem s0_49 {rm : Room} {S : List Value} {H : AHeap} {Q : Option Value → AHeap → Prop} {l0 l1 l2 l3 l4 l5 l6 l7 l8 l10 l11 l12 l13 l14 l15 l16 l17 : Slot} {i : Nat} (h : W0 rm 51 [l0, l1, l2, l3, l4, l5, l6, l7, l8, .val (.ref i), l10, l11, l12, l13, l14, l15, l16, l17] (.ref i :: S) (H) Q) : W0 rm 49 [l0, l1, l2, l3, l4, l5, l6, l7, l8, .val (.ref i), l10, l11, l12, l13, l14, l15, l16, l17] (S) H Q := W.aload at_49 rfl rfl h
theorem s0_49n {rm : Room} {S : List Value} {H : AHeap} {Q : Option Value → AHeap → Prop} {l0 l1 l2 l3 l4 l5 l6 l7 l8 l10 l11 l12 l13 l14 l15 l16 l17 : Slot}  (h : W0 rm 51 [l0, l1, l2, l3, l4, l5, l6, l7, l8, .val .null, l10, l11, l12, l13, l14, l15, l16, l17] (.null :: S) (H) Q) : W0 rm 49 [l0, l1, l2, l3, l4, l5, l6, l7, l8, .val .null, l10, l11, l12, l13, l14, l15, l16, l17] (S) H Q := W.aload at_49 rfl rfl h
theorem s0_51 {rm : Room} {S : List Value} {H : AHeap} {Q : Option Value → AHeap → Prop} {l0 l1 l2 l3 l4 l5 l6 l7 l8 l9 l10 l11 l12 l13 l14 l15 l16 l17 : Slot}  (h : W0 rm 52 [l0, l1, l2, l3, l4, l5, l6, l7, l8, l9, l10, l11, l12, l13, l14, l15, l16, l17] (.int 2 :: S) (H) Q) : W0 rm 51 [l0, l1, l2, l3, l4, l5, l6, l7, l8, l9, l10, l11, l12, l13, l14, l15, l16, l17] (S) H Q := W.iconst' at_51 (by decide) h
theorem s0_52 {rm : Room} {S : List Value} {H : AHeap} {Q : Option Value → AHeap → Prop} {l0 l1 l2 l3 l4 l5 l6 l7 l8 l9 l10 l11 l12 l13 l14 l15 l16 l17 : Slot}  (h : W0 rm 53 [l0, l1, l2, l3, l4, l5, l6, l7, l8, l9, l10, l11, l12, l13, l14, l15, l16, l17] (.int 2 :: S) (H) Q) : W0 rm 52 [l0, l1, l2, l3, l4, l5, l6, l7, l8, l9, l10, l11, l12, l13, l14, l15, l16, l17] (S) H Q := W.iconst' at_52 (by decide) h
theorem s0_53 {rm : Room} {S : List Value} {H : AHeap} {Q : Option Value → AHeap → Prop} {l0 l1 l2 l3 l4 l5 l6 l8 l9 l10 l11 l12 l13 l14 l15 l16 l17 : Slot} {x : Int32} (h : W0 rm 55 [l0, l1, l2, l3, l4, l5, l6, .val (.int x), l8, l9, l10, l11, l12, l13, l14, l15, l16, l17] (.int x :: S) (H) Q) : W0 rm 53 [l0, l1, l2, l3, l4, l5, l6, .val (.int x), l8, l9, l10, l11, l12, l13, l14, l15, l16, l17] (S) H Q := W.iload at_53 rfl h
theorem s0_55 {rm : Room} {S : List Value} {H : AHeap} {Q : Option Value → AHeap → Prop} {l0 l1 l2 l3 l4 l5 l6 l7 l9 l10 l11 l12 l13 l14 l15 l16 l17 : Slot} {x : Int32} (h : W0 rm 57 [l0, l1, l2, l3, l4, l5, l6, l7, .val (.int x), l9, l10, l11, l12, l13, l14, l15, l16, l17] (.int x :: S) (H) Q) : W0 rm 55 [l0, l1, l2, l3, l4, l5, l6, l7, .val (.int x), l9, l10, l11, l12, l13, l14, l15, l16, l17] (S) H Q := W.iload at_55 rfl h
theorem s0_57 {rm : Room} {S : List Value} {H : AHeap} {Q : Option Value → AHeap → Prop} {l0 l1 l2 l3 l4 l5 l6 l7 l8 l9 l10 l11 l12 l13 l14 l15 l16 l17 : Slot} {rm' : Room} {H' : AHeap} {a0 : Int32} {a1 : Int32} {a2 : Int32} {r : Int32} (hM : M1 rm' [.int a0, .int a1, .int a2] H (Is (some (.int r)) H')) (hr : rok rm rm' 3 S = true) (h : W0 (less rm rm') 60 [l0, l1, l2, l3, l4, l5, l6, l7, l8, l9, l10, l11, l12, l13, l14, l15, l16, l17] (.int r :: S) H' Q) : W0 rm 57 [l0, l1, l2, l3, l4, l5, l6, l7, l8, l9, l10, l11, l12, l13, l14, l15, l16, l17] (.int a2 :: .int a1 :: .int a0 :: S) H Q := W.callS (S := S) (as := [.int a0, .int a1, .int a2]) (rm' := rm') at_57 (List.mem_of_getElem? (i := 1) rfl) (List.mem_of_getElem? (i := 2) rfl) (List.mem_of_getElem? (i := 3) rfl) (List.mem_of_getElem? (i := 4) rfl) (by decide) pd1 rfl rfl hM hr (fun _ _ q => by obtain ⟨rfl, rfl⟩ := q; exact h)
theorem s0_57q {rm : Room} {S : List Value} {H : AHeap} {Q : Option Value → AHeap → Prop} {l0 l1 l2 l3 l4 l5 l6 l7 l8 l9 l10 l11 l12 l13 l14 l15 l16 l17 : Slot} {rm' : Room} {Q' : Option Value → AHeap → Prop} {a0 a1 a2 : Value} (hM : M1 rm' [a0, a1, a2] H Q') (hr : rok rm rm' 3 S = true) (h : ∀ v H', Q' v H' → W0 (less rm rm') 60 [l0, l1, l2, l3, l4, l5, l6, l7, l8, l9, l10, l11, l12, l13, l14, l15, l16, l17] (v.toList ++ S) H' Q) : W0 rm 57 [l0, l1, l2, l3, l4, l5, l6, l7, l8, l9, l10, l11, l12, l13, l14, l15, l16, l17] (a2 :: a1 :: a0 :: S) H Q := W.callS (S := S) (as := [a0, a1, a2]) (rm' := rm') at_57 (List.mem_of_getElem? (i := 1) rfl) (List.mem_of_getElem? (i := 2) rfl) (List.mem_of_getElem? (i := 3) rfl) (List.mem_of_getElem? (i := 4) rfl) (by decide) pd1 rfl rfl hM hr h
theorem s0_60 {rm : Room} {S : List Value} {H : AHeap} {Q : Option Value → AHeap → Prop} {l0 l1 l2 l3 l4 l5 l6 l7 l8 l9 l10 l11 l12 l13 l14 l15 l16 l17 : Slot} {i : Nat} {j : Int32} {x : Int32} {vs : List Value} (N : Nat) (hH : H[i]? = some (.inr (.int, vs))) (hj : ix j N) (hl : Nat.blt N vs.length = true) (h : W0 rm 61 [l0, l1, l2, l3, l4, l5, l6, l7, l8, l9, l10, l11, l12, l13, l14, l15, l16, l17] (S) (H.set i (.inr (.int, vs.set N (.int x)))) Q) : W0 rm 60 [l0, l1, l2, l3, l4, l5, l6, l7, l8, l9, l10, l11, l12, l13, l14, l15, l16, l17] (.int x :: .int j :: .ref i :: S) H Q := W.iastore at_60 hH hj hl h
theorem s0_61 {rm : Room} {S : List Value} {H : AHeap} {Q : Option Value → AHeap → Prop} {l0 l1 l2 l3 l4 l5 l6 l7 l8 l10 l11 l12 l13 l14 l15 l16 l17 : Slot} {i : Nat} (h : W0 rm 63 [l0, l1, l2, l3, l4, l5, l6, l7, l8, .val (.ref i), l10, l11, l12, l13, l14, l15, l16, l17] (.ref i :: S) (H) Q) : W0 rm 61 [l0, l1, l2, l3, l4, l5, l6, l7, l8, .val (.ref i), l10, l11, l12, l13, l14, l15, l16, l17] (S) H Q := W.aload at_61 rfl rfl h
theorem s0_61n {rm : Room} {S : List Value} {H : AHeap} {Q : Option Value → AHeap → Prop} {l0 l1 l2 l3 l4 l5 l6 l7 l8 l10 l11 l12 l13 l14 l15 l16 l17 : Slot}  (h : W0 rm 63 [l0, l1, l2, l3, l4, l5, l6, l7, l8, .val .null, l10, l11, l12, l13, l14, l15, l16, l17] (.null :: S) (H) Q) : W0 rm 61 [l0, l1, l2, l3, l4, l5, l6, l7, l8, .val .null, l10, l11, l12, l13, l14, l15, l16, l17] (S) H Q := W.aload at_61 rfl rfl h
theorem s0_63 {rm : Room} {S : List Value} {H : AHeap} {Q : Option Value → AHeap → Prop} {l0 l1 l2 l3 l4 l5 l6 l7 l8 l9 l10 l11 l12 l13 l14 l15 l16 l17 : Slot}  (h : W0 rm 64 [l0, l1, l2, l3, l4, l5, l6, l7, l8, l9, l10, l11, l12, l13, l14, l15, l16, l17] (.int 3 :: S) (H) Q) : W0 rm 63 [l0, l1, l2, l3, l4, l5, l6, l7, l8, l9, l10, l11, l12, l13, l14, l15, l16, l17] (S) H Q := W.iconst' at_63 (by decide) h
theorem s0_64 {rm : Room} {S : List Value} {H : AHeap} {Q : Option Value → AHeap → Prop} {l0 l1 l2 l3 l4 l5 l6 l7 l8 l9 l10 l11 l12 l13 l14 l15 l16 l17 : Slot}  (h : W0 rm 65 [l0, l1, l2, l3, l4, l5, l6, l7, l8, l9, l10, l11, l12, l13, l14, l15, l16, l17] (.int 3 :: S) (H) Q) : W0 rm 64 [l0, l1, l2, l3, l4, l5, l6, l7, l8, l9, l10, l11, l12, l13, l14, l15, l16, l17] (S) H Q := W.iconst' at_64 (by decide) h
theorem s0_65 {rm : Room} {S : List Value} {H : AHeap} {Q : Option Value → AHeap → Prop} {l0 l1 l2 l3 l4 l5 l6 l8 l9 l10 l11 l12 l13 l14 l15 l16 l17 : Slot} {x : Int32} (h : W0 rm 67 [l0, l1, l2, l3, l4, l5, l6, .val (.int x), l8, l9, l10, l11, l12, l13, l14, l15, l16, l17] (.int x :: S) (H) Q) : W0 rm 65 [l0, l1, l2, l3, l4, l5, l6, .val (.int x), l8, l9, l10, l11, l12, l13, l14, l15, l16, l17] (S) H Q := W.iload at_65 rfl h
theorem s0_67 {rm : Room} {S : List Value} {H : AHeap} {Q : Option Value → AHeap → Prop} {l0 l1 l2 l3 l4 l5 l6 l7 l9 l10 l11 l12 l13 l14 l15 l16 l17 : Slot} {x : Int32} (h : W0 rm 69 [l0, l1, l2, l3, l4, l5, l6, l7, .val (.int x), l9, l10, l11, l12, l13, l14, l15, l16, l17] (.int x :: S) (H) Q) : W0 rm 67 [l0, l1, l2, l3, l4, l5, l6, l7, .val (.int x), l9, l10, l11, l12, l13, l14, l15, l16, l17] (S) H Q := W.iload at_67 rfl h
theorem s0_69 {rm : Room} {S : List Value} {H : AHeap} {Q : Option Value → AHeap → Prop} {l0 l1 l2 l3 l4 l5 l6 l7 l8 l9 l10 l11 l12 l13 l14 l15 l16 l17 : Slot} {rm' : Room} {H' : AHeap} {a0 : Int32} {a1 : Int32} {a2 : Int32} {r : Int32} (hM : M1 rm' [.int a0, .int a1, .int a2] H (Is (some (.int r)) H')) (hr : rok rm rm' 3 S = true) (h : W0 (less rm rm') 72 [l0, l1, l2, l3, l4, l5, l6, l7, l8, l9, l10, l11, l12, l13, l14, l15, l16, l17] (.int r :: S) H' Q) : W0 rm 69 [l0, l1, l2, l3, l4, l5, l6, l7, l8, l9, l10, l11, l12, l13, l14, l15, l16, l17] (.int a2 :: .int a1 :: .int a0 :: S) H Q := W.callS (S := S) (as := [.int a0, .int a1, .int a2]) (rm' := rm') at_69 (List.mem_of_getElem? (i := 1) rfl) (List.mem_of_getElem? (i := 2) rfl) (List.mem_of_getElem? (i := 3) rfl) (List.mem_of_getElem? (i := 4) rfl) (by decide) pd1 rfl rfl hM hr (fun _ _ q => by obtain ⟨rfl, rfl⟩ := q; exact h)
theorem s0_69q {rm : Room} {S : List Value} {H : AHeap} {Q : Option Value → AHeap → Prop} {l0 l1 l2 l3 l4 l5 l6 l7 l8 l9 l10 l11 l12 l13 l14 l15 l16 l17 : Slot} {rm' : Room} {Q' : Option Value → AHeap → Prop} {a0 a1 a2 : Value} (hM : M1 rm' [a0, a1, a2] H Q') (hr : rok rm rm' 3 S = true) (h : ∀ v H', Q' v H' → W0 (less rm rm') 72 [l0, l1, l2, l3, l4, l5, l6, l7, l8, l9, l10, l11, l12, l13, l14, l15, l16, l17] (v.toList ++ S) H' Q) : W0 rm 69 [l0, l1, l2, l3, l4, l5, l6, l7, l8, l9, l10, l11, l12, l13, l14, l15, l16, l17] (a2 :: a1 :: a0 :: S) H Q := W.callS (S := S) (as := [a0, a1, a2]) (rm' := rm') at_69 (List.mem_of_getElem? (i := 1) rfl) (List.mem_of_getElem? (i := 2) rfl) (List.mem_of_getElem? (i := 3) rfl) (List.mem_of_getElem? (i := 4) rfl) (by decide) pd1 rfl rfl hM hr h
theorem s0_72 {rm : Room} {S : List Value} {H : AHeap} {Q : Option Value → AHeap → Prop} {l0 l1 l2 l3 l4 l5 l6 l7 l8 l9 l10 l11 l12 l13 l14 l15 l16 l17 : Slot} {i : Nat} {j : Int32} {x : Int32} {vs : List Value} (N : Nat) (hH : H[i]? = some (.inr (.int, vs))) (hj : ix j N) (hl : Nat.blt N vs.length = true) (h : W0 rm 73 [l0, l1, l2, l3, l4, l5, l6, l7, l8, l9, l10, l11, l12, l13, l14, l15, l16, l17] (S) (H.set i (.inr (.int, vs.set N (.int x)))) Q) : W0 rm 72 [l0, l1, l2, l3, l4, l5, l6, l7, l8, l9, l10, l11, l12, l13, l14, l15, l16, l17] (.int x :: .int j :: .ref i :: S) H Q := W.iastore at_72 hH hj hl h
theorem s0_73 {rm : Room} {S : List Value} {H : AHeap} {Q : Option Value → AHeap → Prop} {l0 l2 l3 l4 l5 l6 l7 l8 l9 l10 l11 l12 l13 l14 l15 l16 l17 : Slot} {x : Int32} (h : W0 rm 74 [l0, .val (.int x), l2, l3, l4, l5, l6, l7, l8, l9, l10, l11, l12, l13, l14, l15, l16, l17] (.int x :: S) (H) Q) : W0 rm 73 [l0, .val (.int x), l2, l3, l4, l5, l6, l7, l8, l9, l10, l11, l12, l13, l14, l15, l16, l17] (S) H Q := W.iload_n at_73 rfl h
theorem s0_74 {rm : Room} {S : List Value} {H : AHeap} {Q : Option Value → AHeap → Prop} {l0 l1 l2 l3 l4 l5 l6 l7 l8 l9 l10 l11 l12 l13 l14 l15 l16 l17 : Slot}  (h : W0 rm 75 [l0, l1, l2, l3, l4, l5, l6, l7, l8, l9, l10, l11, l12, l13, l14, l15, l16, l17] (.int 3 :: S) (H) Q) : W0 rm 74 [l0, l1, l2, l3, l4, l5, l6, l7, l8, l9, l10, l11, l12, l13, l14, l15, l16, l17] (S) H Q := W.iconst' at_74 (by decide) h
theorem s0_75 {rm : Room} {S : List Value} {H : AHeap} {Q : Option Value → AHeap → Prop} {l0 l1 l2 l3 l4 l5 l6 l7 l8 l9 l10 l11 l12 l13 l14 l15 l16 l17 : Slot} {x y : Int32} (h : W0 rm 76 [l0, l1, l2, l3, l4, l5, l6, l7, l8, l9, l10, l11, l12, l13, l14, l15, l16, l17] (.int (x &&& y) :: S) (H) Q) : W0 rm 75 [l0, l1, l2, l3, l4, l5, l6, l7, l8, l9, l10, l11, l12, l13, l14, l15, l16, l17] (.int y :: .int x :: S) H Q := W.iand at_75 h
theorem s0_76 {rm : Room} {S : List Value} {H : AHeap} {Q : Option Value → AHeap → Prop} {l0 l1 l2 l3 l4 l5 l6 l7 l8 l9 l10 l11 l12 l13 l14 l15 l16 l17 : Slot} {x : Int32} (ho : one l10 = true) (h : W0 rm 78 [l0, l1, l2, l3, l4, l5, l6, l7, l8, l9, .val (.int x), l11, l12, l13, l14, l15, l16, l17] (S) (H) Q) : W0 rm 76 [l0, l1, l2, l3, l4, l5, l6, l7, l8, l9, l10, l11, l12, l13, l14, l15, l16, l17] (.int x :: S) H Q := W.istore at_76 rfl ho h
theorem s0_76w {rm : Room} {S : List Value} {H : AHeap} {Q : Option Value → AHeap → Prop} {l0 l1 l2 l3 l4 l5 l6 l7 l8 l9 l11 l12 l13 l14 l15 l16 l17 : Slot} {w : Value} {x : Int32} (ho : w.category = 2) (h : W0 rm 78 [l0, l1, l2, l3, l4, l5, l6, l7, l8, l9, .val (.int x), .unset, l12, l13, l14, l15, l16, l17] (S) (H) Q) : W0 rm 76 [l0, l1, l2, l3, l4, l5, l6, l7, l8, l9, .val w, l11, l12, l13, l14, l15, l16, l17] (.int x :: S) H Q := W.istoreW at_76 rfl ho (Nat.le_of_ble_eq_true rfl) h
theorem s0_76s {rm : Room} {S : List Value} {H : AHeap} {Q : Option Value → AHeap → Prop} {l0 l1 l2 l3 l4 l5 l6 l7 l8 l9 l11 l12 l13 l14 l15 l16 l17 : Slot} {x : Int32} (h : W0 rm 78 [l0, l1, l2, l3, l4, l5, l6, l7, l8, .unset, .val (.int x), l11, l12, l13, l14, l15, l16, l17] (S) (H) Q) : W0 rm 76 [l0, l1, l2, l3, l4, l5, l6, l7, l8, l9, .second, l11, l12, l13, l14, l15, l16, l17] (.int x :: S) H Q := W.istoreS at_76 rfl (by decide) h
theorem s0_78 {rm : Room} {S : List Value} {H : AHeap} {Q : Option Value → AHeap → Prop} {l0 l2 l3 l4 l5 l6 l7 l8 l9 l10 l11 l12 l13 l14 l15 l16 l17 : Slot} {x : Int32} (h : W0 rm 79 [l0, .val (.int x), l2, l3, l4, l5, l6, l7, l8, l9, l10, l11, l12, l13, l14, l15, l16, l17] (.int x :: S) (H) Q) : W0 rm 78 [l0, .val (.int x), l2, l3, l4, l5, l6, l7, l8, l9, l10, l11, l12, l13, l14, l15, l16, l17] (S) H Q := W.iload_n at_78 rfl h
theorem s0_79 {rm : Room} {S : List Value} {H : AHeap} {Q : Option Value → AHeap → Prop} {l0 l1 l2 l3 l4 l5 l6 l7 l8 l9 l10 l11 l12 l13 l14 l15 l16 l17 : Slot}  (h : W0 rm 80 [l0, l1, l2, l3, l4, l5, l6, l7, l8, l9, l10, l11, l12, l13, l14, l15, l16, l17] (.int 2 :: S) (H) Q) : W0 rm 79 [l0, l1, l2, l3, l4, l5, l6, l7, l8, l9, l10, l11, l12, l13, l14, l15, l16, l17] (S) H Q := W.iconst' at_79 (by decide) h
theorem s0_80 {rm : Room} {S : List Value} {H : AHeap} {Q : Option Value → AHeap → Prop} {l0 l1 l2 l3 l4 l5 l6 l7 l8 l9 l10 l11 l12 l13 l14 l15 l16 l17 : Slot} {x y : Int32} (h : W0 rm 81 [l0, l1, l2, l3, l4, l5, l6, l7, l8, l9, l10, l11, l12, l13, l14, l15, l16, l17] (.int (XT.ushr x y) :: S) (H) Q) : W0 rm 80 [l0, l1, l2, l3, l4, l5, l6, l7, l8, l9, l10, l11, l12, l13, l14, l15, l16, l17] (.int y :: .int x :: S) H Q := W.iushr at_80 h
theorem s0_81 {rm : Room} {S : List Value} {H : AHeap} {Q : Option Value → AHeap → Prop} {l0 l1 l2 l3 l4 l5 l6 l7 l8 l9 l10 l11 l12 l13 l14 l15 l16 l17 : Slot}  (h : W0 rm 82 [l0, l1, l2, l3, l4, l5, l6, l7, l8, l9, l10, l11, l12, l13, l14, l15, l16, l17] (.int 3 :: S) (H) Q) : W0 rm 81 [l0, l1, l2, l3, l4, l5, l6, l7, l8, l9, l10, l11, l12, l13, l14, l15, l16, l17] (S) H Q := W.iconst' at_81 (by decide) h
theorem s0_82 {rm : Room} {S : List Value} {H : AHeap} {Q : Option Value → AHeap → Prop} {l0 l1 l2 l3 l4 l5 l6 l7 l8 l9 l10 l11 l12 l13 l14 l15 l16 l17 : Slot} {x y : Int32} (h : W0 rm 83 [l0, l1, l2, l3, l4, l5, l6, l7, l8, l9, l10, l11, l12, l13, l14, l15, l16, l17] (.int (x &&& y) :: S) (H) Q) : W0 rm 82 [l0, l1, l2, l3, l4, l5, l6, l7, l8, l9, l10, l11, l12, l13, l14, l15, l16, l17] (.int y :: .int x :: S) H Q := W.iand at_82 h
theorem s0_83 {rm : Room} {S : List Value} {H : AHeap} {Q : Option Value → AHeap → Prop} {l0 l1 l2 l3 l4 l5 l6 l7 l8 l9 l10 l11 l12 l13 l14 l15 l16 l17 : Slot} {x : Int32} (ho : one l11 = true) (h : W0 rm 85 [l0, l1, l2, l3, l4, l5, l6, l7, l8, l9, l10, .val (.int x), l12, l13, l14, l15, l16, l17] (S) (H) Q) : W0 rm 83 [l0, l1, l2, l3, l4, l5, l6, l7, l8, l9, l10, l11, l12, l13, l14, l15, l16, l17] (.int x :: S) H Q := W.istore at_83 rfl ho h
theorem s0_83w {rm : Room} {S : List Value} {H : AHeap} {Q : Option Value → AHeap → Prop} {l0 l1 l2 l3 l4 l5 l6 l7 l8 l9 l10 l12 l13 l14 l15 l16 l17 : Slot} {w : Value} {x : Int32} (ho : w.category = 2) (h : W0 rm 85 [l0, l1, l2, l3, l4, l5, l6, l7, l8, l9, l10, .val (.int x), .unset, l13, l14, l15, l16, l17] (S) (H) Q) : W0 rm 83 [l0, l1, l2, l3, l4, l5, l6, l7, l8, l9, l10, .val w, l12, l13, l14, l15, l16, l17] (.int x :: S) H Q := W.istoreW at_83 rfl ho (Nat.le_of_ble_eq_true rfl) h
theorem s0_83s {rm : Room} {S : List Value} {H : AHeap} {Q : Option Value → AHeap → Prop} {l0 l1 l2 l3 l4 l5 l6 l7 l8 l9 l10 l12 l13 l14 l15 l16 l17 : Slot} {x : Int32} (h : W0 rm 85 [l0, l1, l2, l3, l4, l5, l6, l7, l8, l9, .unset, .val (.int x), l12, l13, l14, l15, l16, l17] (S) (H) Q) : W0 rm 83 [l0, l1, l2, l3, l4, l5, l6, l7, l8, l9, l10, .second, l12, l13, l14, l15, l16, l17] (.int x :: S) H Q := W.istoreS at_83 rfl (by decide) h
theorem s0_85 {rm : Room} {S : List Value} {H : AHeap} {Q : Option Value → AHeap → Prop} {l0 l1 l2 l3 l4 l5 l7 l8 l9 l10 l11 l12 l13 l14 l15 l16 l17 : Slot} {x : Int32} (h : W0 rm 87 [l0, l1, l2, l3, l4, l5, .val (.int x), l7, l8, l9, l10, l11, l12, l13, l14, l15, l16, l17] (.int x :: S) (H) Q) : W0 rm 85 [l0, l1, l2, l3, l4, l5, .val (.int x), l7, l8, l9, l10, l11, l12, l13, l14, l15, l16, l17] (S) H Q := W.iload at_85 rfl h
theorem s0_87 {rm : Room} {S : List Value} {H : AHeap} {Q : Option Value → AHeap → Prop} {l0 l1 l2 l3 l4 l5 l6 l7 l8 l9 l10 l11 l12 l13 l14 l15 l16 l17 : Slot}  (h : W0 rm 88 [l0, l1, l2, l3, l4, l5, l6, l7, l8, l9, l10, l11, l12, l13, l14, l15, l16, l17] (.int 1 :: S) (H) Q) : W0 rm 87 [l0, l1, l2, l3, l4, l5, l6, l7, l8, l9, l10, l11, l12, l13, l14, l15, l16, l17] (S) H Q := W.iconst' at_87 (by decide) h
theorem s0_88 {rm : Room} {S : List Value} {H : AHeap} {Q : Option Value → AHeap → Prop} {l0 l1 l2 l3 l4 l5 l6 l7 l8 l9 l10 l11 l12 l13 l14 l15 l16 l17 : Slot} {x y : Int32} (h : W0 rm 89 [l0, l1, l2, l3, l4, l5, l6, l7, l8, l9, l10, l11, l12, l13, l14, l15, l16, l17] (.int (x &&& y) :: S) (H) Q) : W0 rm 88 [l0, l1, l2, l3, l4, l5, l6, l7, l8, l9, l10, l11, l12, l13, l14, l15, l16, l17] (.int y :: .int x :: S) H Q := W.iand at_88 h
theorem s0_89 {rm : Room} {S : List Value} {H : AHeap} {Q : Option Value → AHeap → Prop} {l0 l1 l2 l3 l4 l5 l6 l7 l8 l9 l10 l11 l12 l13 l14 l15 l16 l17 : Slot} {x : Int32} (h1 : x = 0 → W0 rm 96 [l0, l1, l2, l3, l4, l5, l6, l7, l8, l9, l10, l11, l12, l13, l14, l15, l16, l17] S H Q) (h2 : ¬ x = 0 → W0 rm 92 [l0, l1, l2, l3, l4, l5, l6, l7, l8, l9, l10, l11, l12, l13, l14, l15, l16, l17] S H Q) : W0 rm 89 [l0, l1, l2, l3, l4, l5, l6, l7, l8, l9, l10, l11, l12, l13, l14, l15, l16, l17] (.int x :: S) H Q := W.ifc at_89 (by decide) (by decide) h1 h2
theorem s0_92 {rm : Room} {S : List Value} {H : AHeap} {Q : Option Value → AHeap → Prop} {l0 l1 l2 l3 l4 l5 l6 l7 l8 l9 l10 l11 l12 l13 l14 l15 l16 l17 : Slot}  (h : W0 rm 93 [l0, l1, l2, l3, l4, l5, l6, l7, l8, l9, l10, l11, l12, l13, l14, l15, l16, l17] (.int 1 :: S) (H) Q) : W0 rm 92 [l0, l1, l2, l3, l4, l5, l6, l7, l8, l9, l10, l11, l12, l13, l14, l15, l16, l17] (S) H Q := W.iconst' at_92 (by decide) h
theorem s0_93 {rm : Room} {S : List Value} {H : AHeap} {Q : Option Value → AHeap → Prop} {l0 l1 l2 l3 l4 l5 l6 l7 l8 l9 l10 l11 l12 l13 l14 l15 l16 l17 : Slot}  (h : W0 rm 97 [l0, l1, l2, l3, l4, l5, l6, l7, l8, l9, l10, l11, l12, l13, l14, l15, l16, l17] (S) (H) Q) : W0 rm 93 [l0, l1, l2, l3, l4, l5, l6, l7, l8, l9, l10, l11, l12, l13, l14, l15, l16, l17] (S) H Q := W.goto at_93 (by decide) (by decide) h
theorem s0_96 {rm : Room} {S : List Value} {H : AHeap} {Q : Option Value → AHeap → Prop} {l0 l1 l2 l3 l4 l5 l6 l7 l8 l9 l10 l11 l12 l13 l14 l15 l16 l17 : Slot}  (h : W0 rm 97 [l0, l1, l2, l3, l4, l5, l6, l7, l8, l9, l10, l11, l12, l13, l14, l15, l16, l17] (.int 0 :: S) (H) Q) : W0 rm 96 [l0, l1, l2, l3, l4, l5, l6, l7, l8, l9, l10, l11, l12, l13, l14, l15, l16, l17] (S) H Q := W.iconst' at_96 (by decide) h
theorem s0_97 {rm : Room} {S : List Value} {H : AHeap} {Q : Option Value → AHeap → Prop} {l0 l1 l2 l3 l4 l5 l6 l7 l8 l9 l10 l11 l12 l13 l14 l15 l16 l17 : Slot} {x : Int32} (ho : one l12 = true) (h : W0 rm 99 [l0, l1, l2, l3, l4, l5, l6, l7, l8, l9, l10, l11, .val (.int x), l13, l14, l15, l16, l17] (S) (H) Q) : W0 rm 97 [l0, l1, l2, l3, l4, l5, l6, l7, l8, l9, l10, l11, l12, l13, l14, l15, l16, l17] (.int x :: S) H Q := W.istore at_97 rfl ho h
theorem s0_97w {rm : Room} {S : List Value} {H : AHeap} {Q : Option Value → AHeap → Prop} {l0 l1 l2 l3 l4 l5 l6 l7 l8 l9 l10 l11 l13 l14 l15 l16 l17 : Slot} {w : Value} {x : Int32} (ho : w.category = 2) (h : W0 rm 99 [l0, l1, l2, l3, l4, l5, l6, l7, l8, l9, l10, l11, .val (.int x), .unset, l14, l15, l16, l17] (S) (H) Q) : W0 rm 97 [l0, l1, l2, l3, l4, l5, l6, l7, l8, l9, l10, l11, .val w, l13, l14, l15, l16, l17] (.int x :: S) H Q := W.istoreW at_97 rfl ho (Nat.le_of_ble_eq_true rfl) h
theorem s0_97s {rm : Room} {S : List Value} {H : AHeap} {Q : Option Value → AHeap → Prop} {l0 l1 l2 l3 l4 l5 l6 l7 l8 l9 l10 l11 l13 l14 l15 l16 l17 : Slot} {x : Int32} (h : W0 rm 99 [l0, l1, l2, l3, l4, l5, l6, l7, l8, l9, l10, .unset, .val (.int x), l13, l14, l15, l16, l17] (S) (H) Q) : W0 rm 97 [l0, l1, l2, l3, l4, l5, l6, l7, l8, l9, l10, l11, .second, l13, l14, l15, l16, l17] (.int x :: S) H Q := W.istoreS at_97 rfl (by decide) h
theorem s0_99 {rm : Room} {S : List Value} {H : AHeap} {Q : Option Value → AHeap → Prop} {l0 l1 l2 l3 l4 l5 l7 l8 l9 l10 l11 l12 l13 l14 l15 l16 l17 : Slot} {x : Int32} (h : W0 rm 101 [l0, l1, l2, l3, l4, l5, .val (.int x), l7, l8, l9, l10, l11, l12, l13, l14, l15, l16, l17] (.int x :: S) (H) Q) : W0 rm 99 [l0, l1, l2, l3, l4, l5, .val (.int x), l7, l8, l9, l10, l11, l12, l13, l14, l15, l16, l17] (S) H Q := W.iload at_99 rfl h
theorem s0_101 {rm : Room} {S : List Value} {H : AHeap} {Q : Option Value → AHeap → Prop} {l0 l1 l2 l3 l4 l5 l6 l7 l8 l9 l10 l11 l12 l13 l14 l15 l16 l17 : Slot}  (h : W0 rm 102 [l0, l1, l2, l3, l4, l5, l6, l7, l8, l9, l10, l11, l12, l13, l14, l15, l16, l17] (.int 2 :: S) (H) Q) : W0 rm 101 [l0, l1, l2, l3, l4, l5, l6, l7, l8, l9, l10, l11, l12, l13, l14, l15, l16, l17] (S) H Q := W.iconst' at_101 (by decide) h
theorem s0_102 {rm : Room} {S : List Value} {H : AHeap} {Q : Option Value → AHeap → Prop} {l0 l1 l2 l3 l4 l5 l6 l7 l8 l9 l10 l11 l12 l13 l14 l15 l16 l17 : Slot} {x y : Int32} (h : W0 rm 103 [l0, l1, l2, l3, l4, l5, l6, l7, l8, l9, l10, l11, l12, l13, l14, l15, l16, l17] (.int (x &&& y) :: S) (H) Q) : W0 rm 102 [l0, l1, l2, l3, l4, l5, l6, l7, l8, l9, l10, l11, l12, l13, l14, l15, l16, l17] (.int y :: .int x :: S) H Q := W.iand at_102 h
theorem s0_103 {rm : Room} {S : List Value} {H : AHeap} {Q : Option Value → AHeap → Prop} {l0 l1 l2 l3 l4 l5 l6 l7 l8 l9 l10 l11 l12 l13 l14 l15 l16 l17 : Slot} {x : Int32} (h1 : x = 0 → W0 rm 122 [l0, l1, l2, l3, l4, l5, l6, l7, l8, l9, l10, l11, l12, l13, l14, l15, l16, l17] S H Q) (h2 : ¬ x = 0 → W0 rm 106 [l0, l1, l2, l3, l4, l5, l6, l7, l8, l9, l10, l11, l12, l13, l14, l15, l16, l17] S H Q) : W0 rm 103 [l0, l1, l2, l3, l4, l5, l6, l7, l8, l9, l10, l11, l12, l13, l14, l15, l16, l17] (.int x :: S) H Q := W.ifc at_103 (by decide) (by decide) h1 h2
theorem s0_106 {rm : Room} {S : List Value} {H : AHeap} {Q : Option Value → AHeap → Prop} {l0 l1 l2 l3 l4 l5 l6 l7 l8 l9 l10 l11 l13 l14 l15 l16 l17 : Slot} {x : Int32} (h : W0 rm 108 [l0, l1, l2, l3, l4, l5, l6, l7, l8, l9, l10, l11, .val (.int x), l13, l14, l15, l16, l17] (.int x :: S) (H) Q) : W0 rm 106 [l0, l1, l2, l3, l4, l5, l6, l7, l8, l9, l10, l11, .val (.int x), l13, l14, l15, l16, l17] (S) H Q := W.iload at_106 rfl h
theorem s0_108 {rm : Room} {S : List Value} {H : AHeap} {Q : Option Value → AHeap → Prop} {l0 l1 l2 l3 l4 l5 l6 l7 l8 l9 l10 l11 l12 l13 l14 l15 l16 l17 : Slot} {x : Int32} (h1 : x = 0 → W0 rm 118 [l0, l1, l2, l3, l4, l5, l6, l7, l8, l9, l10, l11, l12, l13, l14, l15, l16, l17] S H Q) (h2 : ¬ x = 0 → W0 rm 111 [l0, l1, l2, l3, l4, l5, l6, l7, l8, l9, l10, l11, l12, l13, l14, l15, l16, l17] S H Q) : W0 rm 108 [l0, l1, l2, l3, l4, l5, l6, l7, l8, l9, l10, l11, l12, l13, l14, l15, l16, l17] (.int x :: S) H Q := W.ifc at_108 (by decide) (by decide) h1 h2
theorem s0_111 {rm : Room} {S : List Value} {H : AHeap} {Q : Option Value → AHeap → Prop} {l0 l1 l2 l3 l4 l5 l6 l7 l8 l9 l10 l12 l13 l14 l15 l16 l17 : Slot} {x : Int32} (h : W0 rm 113 [l0, l1, l2, l3, l4, l5, l6, l7, l8, l9, l10, .val (.int x), l12, l13, l14, l15, l16, l17] (.int x :: S) (H) Q) : W0 rm 111 [l0, l1, l2, l3, l4, l5, l6, l7, l8, l9, l10, .val (.int x), l12, l13, l14, l15, l16, l17] (S) H Q := W.iload at_111 rfl h
theorem s0_113 {rm : Room} {S : List Value} {H : AHeap} {Q : Option Value → AHeap → Prop} {l0 l1 l2 l3 l4 l5 l6 l7 l8 l9 l11 l12 l13 l14 l15 l16 l17 : Slot} {x : Int32} (h : W0 rm 115 [l0, l1, l2, l3, l4, l5, l6, l7, l8, l9, .val (.int x), l11, l12, l13, l14, l15, l16, l17] (.int x :: S) (H) Q) : W0 rm 113 [l0, l1, l2, l3, l4, l5, l6, l7, l8, l9, .val (.int x), l11, l12, l13, l14, l15, l16, l17] (S) H Q := W.iload at_113 rfl h
theorem s0_115 {rm : Room} {S : List Value} {H : AHeap} {Q : Option Value → AHeap → Prop} {l0 l1 l2 l3 l4 l5 l6 l7 l8 l9 l10 l11 l12 l13 l14 l15 l16 l17 : Slot} {x y : Int32} (h1 : ¬ y < x → W0 rm 122 [l0, l1, l2, l3, l4, l5, l6, l7, l8, l9, l10, l11, l12, l13, l14, l15, l16, l17] S H Q) (h2 : y < x → W0 rm 118 [l0, l1, l2, l3, l4, l5, l6, l7, l8, l9, l10, l11, l12, l13, l14, l15, l16, l17] S H Q) : W0 rm 115 [l0, l1, l2, l3, l4, l5, l6, l7, l8, l9, l10, l11, l12, l13, l14, l15, l16, l17] (.int y :: .int x :: S) H Q := W.icmp at_115 (by decide) (by decide) h1 h2
theorem s0_118 {rm : Room} {S : List Value} {H : AHeap} {Q : Option Value → AHeap → Prop} {l0 l1 l2 l3 l4 l5 l6 l7 l8 l9 l10 l11 l12 l13 l14 l15 l16 l17 : Slot}  (h : W0 rm 119 [l0, l1, l2, l3, l4, l5, l6, l7, l8, l9, l10, l11, l12, l13, l14, l15, l16, l17] (.int 1 :: S) (H) Q) : W0 rm 118 [l0, l1, l2, l3, l4, l5, l6, l7, l8, l9, l10, l11, l12, l13, l14, l15, l16, l17] (S) H Q := W.iconst' at_118 (by decide) h
theorem s0_119 {rm : Room} {S : List Value} {H : AHeap} {Q : Option Value → AHeap → Prop} {l0 l1 l2 l3 l4 l5 l6 l7 l8 l9 l10 l11 l12 l13 l14 l15 l16 l17 : Slot}  (h : W0 rm 123 [l0, l1, l2, l3, l4, l5, l6, l7, l8, l9, l10, l11, l12, l13, l14, l15, l16, l17] (S) (H) Q) : W0 rm 119 [l0, l1, l2, l3, l4, l5, l6, l7, l8, l9, l10, l11, l12, l13, l14, l15, l16, l17] (S) H Q := W.goto at_119 (by decide) (by decide) h
theorem s0_122 {rm : Room} {S : List Value} {H : AHeap} {Q : Option Value → AHeap → Prop} {l0 l1 l2 l3 l4 l5 l6 l7 l8 l9 l10 l11 l12 l13 l14 l15 l16 l17 : Slot}  (h : W0 rm 123 [l0, l1, l2, l3, l4, l5, l6, l7, l8, l9, l10, l11, l12, l13, l14, l15, l16, l17] (.int 0 :: S) (H) Q) : W0 rm 122 [l0, l1, l2, l3, l4, l5, l6, l7, l8, l9, l10, l11, l12, l13, l14, l15, l16, l17] (S) H Q := W.iconst' at_122 (by decide) h
theorem s0_123 {rm : Room} {S : List Value} {H : AHeap} {Q : Option Value → AHeap → Prop} {l0 l1 l2 l3 l4 l5 l6 l7 l8 l9 l10 l11 l12 l13 l14 l15 l16 l17 : Slot} {x : Int32} (ho : one l13 = true) (h : W0 rm 125 [l0, l1, l2, l3, l4, l5, l6, l7, l8, l9, l10, l11, l12, .val (.int x), l14, l15, l16, l17] (S) (H) Q) : W0 rm 123 [l0, l1, l2, l3, l4, l5, l6, l7, l8, l9, l10, l11, l12, l13, l14, l15, l16, l17] (.int x :: S) H Q := W.istore at_123 rfl ho h
theorem s0_123w {rm : Room} {S : List Value} {H : AHeap} {Q : Option Value → AHeap → Prop} {l0 l1 l2 l3 l4 l5 l6 l7 l8 l9 l10 l11 l12 l14 l15 l16 l17 : Slot} {w : Value} {x : Int32} (ho : w.category = 2) (h : W0 rm 125 [l0, l1, l2, l3, l4, l5, l6, l7, l8, l9, l10, l11, l12, .val (.int x), .unset, l15, l16, l17] (S) (H) Q) : W0 rm 123 [l0, l1, l2, l3, l4, l5, l6, l7, l8, l9, l10, l11, l12, .val w, l14, l15, l16, l17] (.int x :: S) H Q := W.istoreW at_123 rfl ho (Nat.le_of_ble_eq_true rfl) h
theorem s0_123s {rm : Room} {S : List Value} {H : AHeap} {Q : Option Value → AHeap → Prop} {l0 l1 l2 l3 l4 l5 l6 l7 l8 l9 l10 l11 l12 l14 l15 l16 l17 : Slot} {x : Int32} (h : W0 rm 125 [l0, l1, l2, l3, l4, l5, l6, l7, l8, l9, l10, l11, .unset, .val (.int x), l14, l15, l16, l17] (S) (H) Q) : W0 rm 123 [l0, l1, l2, l3, l4, l5, l6, l7, l8, l9, l10, l11, l12, .second, l14, l15, l16, l17] (.int x :: S) H Q := W.istoreS at_123 rfl (by decide) h
theorem s0_125 {rm : Room} {S : List Value} {H : AHeap} {Q : Option Value → AHeap → Prop} {l0 l1 l2 l3 l4 l5 l6 l7 l8 l9 l10 l11 l12 l13 l14 l15 l16 l17 : Slot} (i : Nat) (hi : H.length = i) (hr : nok rm 5 = true) (h : W0 ⟨rm.frames, rm.cells - 1, rm.slots - 5, rm.locals⟩ 128 [l0, l1, l2, l3, l4, l5, l6, l7, l8, l9, l10, l11, l12, l13, l14, l15, l16, l17] (.ref i :: S) (H ++ [.inl (0, [.int 0, .null, .null, .null, .long 0])]) Q) : W0 rm 125 [l0, l1, l2, l3, l4, l5, l6, l7, l8, l9, l10, l11, l12, l13, l14, l15, l16, l17] (S) H Q := W.new (c := 0) kt at_125 (List.mem_of_getElem? (i := 5) rfl) (List.mem_of_getElem? (i := 7) rfl) rfl hi hr h
theorem s0_128 {rm : Room} {S : List Value} {H : AHeap} {Q : Option Value → AHeap → Prop} {l0 l1 l2 l3 l4 l5 l6 l7 l8 l9 l10 l11 l12 l13 l14 l15 l16 l17 : Slot} {v : Value} (hc : v.category = 1) (h : W0 rm 129 [l0, l1, l2, l3, l4, l5, l6, l7, l8, l9, l10, l11, l12, l13, l14, l15, l16, l17] (v :: v :: S) (H) Q) : W0 rm 128 [l0, l1, l2, l3, l4, l5, l6, l7, l8, l9, l10, l11, l12, l13, l14, l15, l16, l17] (v :: S) H Q := W.dup at_128 hc h
theorem s0_129 {rm : Room} {S : List Value} {H : AHeap} {Q : Option Value → AHeap → Prop} {l0 l1 l2 l3 l4 l5 l6 l7 l8 l10 l11 l12 l13 l14 l15 l16 l17 : Slot} {i : Nat} (h : W0 rm 131 [l0, l1, l2, l3, l4, l5, l6, l7, l8, .val (.ref i), l10, l11, l12, l13, l14, l15, l16, l17] (.ref i :: S) (H) Q) : W0 rm 129 [l0, l1, l2, l3, l4, l5, l6, l7, l8, .val (.ref i), l10, l11, l12, l13, l14, l15, l16, l17] (S) H Q := W.aload at_129 rfl rfl h
theorem s0_129n {rm : Room} {S : List Value} {H : AHeap} {Q : Option Value → AHeap → Prop} {l0 l1 l2 l3 l4 l5 l6 l7 l8 l10 l11 l12 l13 l14 l15 l16 l17 : Slot}  (h : W0 rm 131 [l0, l1, l2, l3, l4, l5, l6, l7, l8, .val .null, l10, l11, l12, l13, l14, l15, l16, l17] (.null :: S) (H) Q) : W0 rm 129 [l0, l1, l2, l3, l4, l5, l6, l7, l8, .val .null, l10, l11, l12, l13, l14, l15, l16, l17] (S) H Q := W.aload at_129 rfl rfl h
theorem s0_131 {rm : Room} {S : List Value} {H : AHeap} {Q : Option Value → AHeap → Prop} {l0 l1 l2 l3 l4 l5 l6 l7 l8 l9 l10 l11 l12 l13 l14 l15 l16 l17 : Slot} {rm' : Room} {H' : AHeap} {i : Nat} {a0 : Nat}  (hM : M2 rm' [.ref i, .ref a0] H (Is none H')) (hr : rok rm rm' 3 S = true) (h : W0 (less rm rm') 134 [l0, l1, l2, l3, l4, l5, l6, l7, l8, l9, l10, l11, l12, l13, l14, l15, l16, l17] (S) H' Q) : W0 rm 131 [l0, l1, l2, l3, l4, l5, l6, l7, l8, l9, l10, l11, l12, l13, l14, l15, l16, l17] (.ref a0 :: .ref i :: S) H Q := W.callI (S := S) (as := [.ref a0]) (rm' := rm') at_131 rfl rfl (List.mem_of_getElem? (i := 8) rfl) (List.mem_of_getElem? (i := 9) rfl) (List.mem_of_getElem? (i := 7) rfl) (List.mem_of_getElem? (i := 10) rfl) (by decide) pd2 rfl rfl hM hr (fun _ _ q => by obtain ⟨rfl, rfl⟩ := q; exact h)
theorem s0_131q {rm : Room} {S : List Value} {H : AHeap} {Q : Option Value → AHeap → Prop} {l0 l1 l2 l3 l4 l5 l6 l7 l8 l9 l10 l11 l12 l13 l14 l15 l16 l17 : Slot} {rm' : Room} {Q' : Option Value → AHeap → Prop} {i : Nat} {a0 : Value} (hM : M2 rm' [.ref i, a0] H Q') (hr : rok rm rm' 3 S = true) (h : ∀ v H', Q' v H' → W0 (less rm rm') 134 [l0, l1, l2, l3, l4, l5, l6, l7, l8, l9, l10, l11, l12, l13, l14, l15, l16, l17] (v.toList ++ S) H' Q) : W0 rm 131 [l0, l1, l2, l3, l4, l5, l6, l7, l8, l9, l10, l11, l12, l13, l14, l15, l16, l17] (a0 :: .ref i :: S) H Q := W.callI (S := S) (as := [a0]) (rm' := rm') at_131 rfl rfl (List.mem_of_getElem? (i := 8) rfl) (List.mem_of_getElem? (i := 9) rfl) (List.mem_of_getElem? (i := 7) rfl) (List.mem_of_getElem? (i := 10) rfl) (by decide) pd2 rfl rfl hM hr h
theorem s0_134 {rm : Room} {S : List Value} {H : AHeap} {Q : Option Value → AHeap → Prop} {l0 l1 l2 l3 l4 l5 l6 l7 l8 l9 l10 l11 l12 l13 l14 l15 l16 l17 : Slot} {i : Nat} (ho : one l14 = true) (h : W0 rm 136 [l0, l1, l2, l3, l4, l5, l6, l7, l8, l9, l10, l11, l12, l13, .val (.ref i), l15, l16, l17] (S) (H) Q) : W0 rm 134 [l0, l1, l2, l3, l4, l5, l6, l7, l8, l9, l10, l11, l12, l13, l14, l15, l16, l17] (.ref i :: S) H Q := W.astore at_134 rfl ho rfl h
theorem s0_136 {rm : Room} {S : List Value} {H : AHeap} {Q : Option Value → AHeap → Prop} {l0 l1 l2 l3 l4 l5 l6 l7 l8 l9 l10 l11 l13 l14 l15 l16 l17 : Slot} {x : Int32} (h : W0 rm 138 [l0, l1, l2, l3, l4, l5, l6, l7, l8, l9, l10, l11, .val (.int x), l13, l14, l15, l16, l17] (.int x :: S) (H) Q) : W0 rm 136 [l0, l1, l2, l3, l4, l5, l6, l7, l8, l9, l10, l11, .val (.int x), l13, l14, l15, l16, l17] (S) H Q := W.iload at_136 rfl h
theorem s0_138 {rm : Room} {S : List Value} {H : AHeap} {Q : Option Value → AHeap → Prop} {l0 l1 l2 l3 l4 l5 l6 l7 l8 l9 l10 l11 l12 l13 l14 l15 l16 l17 : Slot} {x : Int32} (h1 : x = 0 → W0 rm 152 [l0, l1, l2, l3, l4, l5, l6, l7, l8, l9, l10, l11, l12, l13, l14, l15, l16, l17] S H Q) (h2 : ¬ x = 0 → W0 rm 141 [l0, l1, l2, l3, l4, l5, l6, l7, l8, l9, l10, l11, l12, l13, l14, l15, l16, l17] S H Q) : W0 rm 138 [l0, l1, l2, l3, l4, l5, l6, l7, l8, l9, l10, l11, l12, l13, l14, l15, l16, l17] (.int x :: S) H Q := W.ifc at_138 (by decide) (by decide) h1 h2
theorem s0_141 {rm : Room} {S : List Value} {H : AHeap} {Q : Option Value → AHeap → Prop} {l0 l1 l2 l3 l4 l5 l6 l7 l8 l9 l10 l11 l12 l13 l15 l16 l17 : Slot} {i : Nat} (h : W0 rm 143 [l0, l1, l2, l3, l4, l5, l6, l7, l8, l9, l10, l11, l12, l13, .val (.ref i), l15, l16, l17] (.ref i :: S) (H) Q) : W0 rm 141 [l0, l1, l2, l3, l4, l5, l6, l7, l8, l9, l10, l11, l12, l13, .val (.ref i), l15, l16, l17] (S) H Q := W.aload at_141 rfl rfl h
theorem s0_141n {rm : Room} {S : List Value} {H : AHeap} {Q : Option Value → AHeap → Prop} {l0 l1 l2 l3 l4 l5 l6 l7 l8 l9 l10 l11 l12 l13 l15 l16 l17 : Slot}  (h : W0 rm 143 [l0, l1, l2, l3, l4, l5, l6, l7, l8, l9, l10, l11, l12, l13, .val .null, l15, l16, l17] (.null :: S) (H) Q) : W0 rm 141 [l0, l1, l2, l3, l4, l5, l6, l7, l8, l9, l10, l11, l12, l13, .val .null, l15, l16, l17] (S) H Q := W.aload at_141 rfl rfl h
theorem s0_143 {rm : Room} {S : List Value} {H : AHeap} {Q : Option Value → AHeap → Prop} {l0 l1 l2 l3 l4 l5 l6 l7 l8 l10 l11 l12 l13 l14 l15 l16 l17 : Slot} {i : Nat} (h : W0 rm 145 [l0, l1, l2, l3, l4, l5, l6, l7, l8, .val (.ref i), l10, l11, l12, l13, l14, l15, l16, l17] (.ref i :: S) (H) Q) : W0 rm 143 [l0, l1, l2, l3, l4, l5, l6, l7, l8, .val (.ref i), l10, l11, l12, l13, l14, l15, l16, l17] (S) H Q := W.aload at_143 rfl rfl h
theorem s0_143n {rm : Room} {S : List Value} {H : AHeap} {Q : Option Value → AHeap → Prop} {l0 l1 l2 l3 l4 l5 l6 l7 l8 l10 l11 l12 l13 l14 l15 l16 l17 : Slot}  (h : W0 rm 145 [l0, l1, l2, l3, l4, l5, l6, l7, l8, .val .null, l10, l11, l12, l13, l14, l15, l16, l17] (.null :: S) (H) Q) : W0 rm 143 [l0, l1, l2, l3, l4, l5, l6, l7, l8, .val .null, l10, l11, l12, l13, l14, l15, l16, l17] (S) H Q := W.aload at_143 rfl rfl h
theorem s0_145 {rm : Room} {S : List Value} {H : AHeap} {Q : Option Value → AHeap → Prop} {l0 l1 l2 l3 l4 l5 l6 l7 l8 l9 l11 l12 l13 l14 l15 l16 l17 : Slot} {x : Int32} (h : W0 rm 147 [l0, l1, l2, l3, l4, l5, l6, l7, l8, l9, .val (.int x), l11, l12, l13, l14, l15, l16, l17] (.int x :: S) (H) Q) : W0 rm 145 [l0, l1, l2, l3, l4, l5, l6, l7, l8, l9, .val (.int x), l11, l12, l13, l14, l15, l16, l17] (S) H Q := W.iload at_145 rfl h
theorem s0_147 {rm : Room} {S : List Value} {H : AHeap} {Q : Option Value → AHeap → Prop} {l0 l1 l2 l3 l4 l5 l6 l7 l8 l9 l10 l11 l12 l13 l14 l15 l16 l17 : Slot} {i : Nat} {j : Int32} {vs : List Value} {v : Value} (N : Nat) (hH : H[i]? = some (.inr (.int, vs))) (hj : ix j N) (hv : vs[N]? = some v) (h : W0 rm 148 [l0, l1, l2, l3, l4, l5, l6, l7, l8, l9, l10, l11, l12, l13, l14, l15, l16, l17] (v :: S) (H) Q) : W0 rm 147 [l0, l1, l2, l3, l4, l5, l6, l7, l8, l9, l10, l11, l12, l13, l14, l15, l16, l17] (.int j :: .ref i :: S) H Q := W.xaload (Or.inl ⟨rfl, rfl⟩) at_147 hH hj hv h
theorem s0_148 {rm : Room} {S : List Value} {H : AHeap} {Q : Option Value → AHeap → Prop} {l0 l1 l3 l4 l5 l6 l7 l8 l9 l10 l11 l12 l13 l14 l15 l16 l17 : Slot} {x : Int64} (h : W0 rm 149 [l0, l1, .val (.long x), l3, l4, l5, l6, l7, l8, l9, l10, l11, l12, l13, l14, l15, l16, l17] (.long x :: S) (H) Q) : W0 rm 148 [l0, l1, .val (.long x), l3, l4, l5, l6, l7, l8, l9, l10, l11, l12, l13, l14, l15, l16, l17] (S) H Q := W.lload_n at_148 rfl h
theorem s0_149 {rm : Room} {S : List Value} {H : AHeap} {Q : Option Value → AHeap → Prop} {l0 l1 l2 l3 l4 l5 l6 l7 l8 l9 l10 l11 l12 l13 l14 l15 l16 l17 : Slot} {rm' : Room} {H' : AHeap} {i : Nat} {vs : List Value} {a0 : Int32} {a1 : Int64}  (hH : H[i]? = some (.inl (0, vs))) (hM : M3 rm' [.ref i, .int a0, .long a1] H (Is none H')) (hr : rok rm rm' 6 S = true) (h : W0 (less rm rm') 152 [l0, l1, l2, l3, l4, l5, l6, l7, l8, l9, l10, l11, l12, l13, l14, l15, l16, l17] (S) H' Q) : W0 rm 149 [l0, l1, l2, l3, l4, l5, l6, l7, l8, l9, l10, l11, l12, l13, l14, l15, l16, l17] (.long a1 :: .int a0 :: .ref i :: S) H Q := W.callV (c := 0) (S := S) (as := [.int a0, .long a1]) (rm' := rm') at_149 (List.mem_of_getElem? (i := 23) rfl) (List.mem_of_getElem? (i := 24) rfl) (List.mem_of_getElem? (i := 26) rfl) (Or.inl rfl) kt (List.mem_of_getElem? (i := 25) rfl) (List.mem_of_getElem? (i := 7) rfl) (List.mem_of_getElem? (i := 27) rfl) (by decide) rfl pd3 rfl rfl hH hM hr (fun _ _ q => by obtain ⟨rfl, rfl⟩ := q; exact h)
theorem s0_149q {rm : Room} {S : List Value} {H : AHeap} {Q : Option Value → AHeap → Prop} {l0 l1 l2 l3 l4 l5 l6 l7 l8 l9 l10 l11 l12 l13 l14 l15 l16 l17 : Slot} {rm' : Room} {Q' : Option Value → AHeap → Prop} {i : Nat} {vs : List Value} {a0 a1 : Value} (hH : H[i]? = some (.inl (0, vs))) (hM : M3 rm' [.ref i, a0, a1] H Q') (hr : rok rm rm' 6 S = true) (h : ∀ v H', Q' v H' → W0 (less rm rm') 152 [l0, l1, l2, l3, l4, l5, l6, l7, l8, l9, l10, l11, l12, l13, l14, l15, l16, l17] (v.toList ++ S) H' Q) : W0 rm 149 [l0, l1, l2, l3, l4, l5, l6, l7, l8, l9, l10, l11, l12, l13, l14, l15, l16, l17] (a1 :: a0 :: .ref i :: S) H Q := W.callV (c := 0) (S := S) (as := [a0, a1]) (rm' := rm') at_149 (List.mem_of_getElem? (i := 23) rfl) (List.mem_of_getElem? (i := 24) rfl) (List.mem_of_getElem? (i := 26) rfl) (Or.inl rfl) kt (List.mem_of_getElem? (i := 25) rfl) (List.mem_of_getElem? (i := 7) rfl) (List.mem_of_getElem? (i := 27) rfl) (by decide) rfl pd3 rfl rfl hH hM hr h
theorem s0_152 {rm : Room} {S : List Value} {H : AHeap} {Q : Option Value → AHeap → Prop} {l0 l1 l2 l3 l4 l5 l6 l7 l8 l9 l10 l11 l12 l14 l15 l16 l17 : Slot} {x : Int32} (h : W0 rm 154 [l0, l1, l2, l3, l4, l5, l6, l7, l8, l9, l10, l11, l12, .val (.int x), l14, l15, l16, l17] (.int x :: S) (H) Q) : W0 rm 152 [l0, l1, l2, l3, l4, l5, l6, l7, l8, l9, l10, l11, l12, .val (.int x), l14, l15, l16, l17] (S) H Q := W.iload at_152 rfl h
theorem s0_154 {rm : Room} {S : List Value} {H : AHeap} {Q : Option Value → AHeap → Prop} {l0 l1 l2 l3 l4 l5 l6 l7 l8 l9 l10 l11 l12 l13 l14 l15 l16 l17 : Slot} {x : Int32} (h1 : x = 0 → W0 rm 169 [l0, l1, l2, l3, l4, l5, l6, l7, l8, l9, l10, l11, l12, l13, l14, l15, l16, l17] S H Q) (h2 : ¬ x = 0 → W0 rm 157 [l0, l1, l2, l3, l4, l5, l6, l7, l8, l9, l10, l11, l12, l13, l14, l15, l16, l17] S H Q) : W0 rm 154 [l0, l1, l2, l3, l4, l5, l6, l7, l8, l9, l10, l11, l12, l13, l14, l15, l16, l17] (.int x :: S) H Q := W.ifc at_154 (by decide) (by decide) h1 h2
theorem s0_157 {rm : Room} {S : List Value} {H : AHeap} {Q : Option Value → AHeap → Prop} {l0 l1 l2 l3 l4 l5 l6 l7 l8 l9 l10 l11 l12 l13 l15 l16 l17 : Slot} {i : Nat} (h : W0 rm 159 [l0, l1, l2, l3, l4, l5, l6, l7, l8, l9, l10, l11, l12, l13, .val (.ref i), l15, l16, l17] (.ref i :: S) (H) Q) : W0 rm 157 [l0, l1, l2, l3, l4, l5, l6, l7, l8, l9, l10, l11, l12, l13, .val (.ref i), l15, l16, l17] (S) H Q := W.aload at_157 rfl rfl h
theorem s0_157n {rm : Room} {S : List Value} {H : AHeap} {Q : Option Value → AHeap → Prop} {l0 l1 l2 l3 l4 l5 l6 l7 l8 l9 l10 l11 l12 l13 l15 l16 l17 : Slot}  (h : W0 rm 159 [l0, l1, l2, l3, l4, l5, l6, l7, l8, l9, l10, l11, l12, l13, .val .null, l15, l16, l17] (.null :: S) (H) Q) : W0 rm 157 [l0, l1, l2, l3, l4, l5, l6, l7, l8, l9, l10, l11, l12, l13, .val .null, l15, l16, l17] (S) H Q := W.aload at_157 rfl rfl h
theorem s0_159 {rm : Room} {S : List Value} {H : AHeap} {Q : Option Value → AHeap → Prop} {l0 l1 l2 l3 l4 l5 l6 l7 l8 l10 l11 l12 l13 l14 l15 l16 l17 : Slot} {i : Nat} (h : W0 rm 161 [l0, l1, l2, l3, l4, l5, l6, l7, l8, .val (.ref i), l10, l11, l12, l13, l14, l15, l16, l17] (.ref i :: S) (H) Q) : W0 rm 159 [l0, l1, l2, l3, l4, l5, l6, l7, l8, .val (.ref i), l10, l11, l12, l13, l14, l15, l16, l17] (S) H Q := W.aload at_159 rfl rfl h
theorem s0_159n {rm : Room} {S : List Value} {H : AHeap} {Q : Option Value → AHeap → Prop} {l0 l1 l2 l3 l4 l5 l6 l7 l8 l10 l11 l12 l13 l14 l15 l16 l17 : Slot}  (h : W0 rm 161 [l0, l1, l2, l3, l4, l5, l6, l7, l8, .val .null, l10, l11, l12, l13, l14, l15, l16, l17] (.null :: S) (H) Q) : W0 rm 159 [l0, l1, l2, l3, l4, l5, l6, l7, l8, .val .null, l10, l11, l12, l13, l14, l15, l16, l17] (S) H Q := W.aload at_159 rfl rfl h
theorem s0_161 {rm : Room} {S : List Value} {H : AHeap} {Q : Option Value → AHeap → Prop} {l0 l1 l2 l3 l4 l5 l6 l7 l8 l9 l10 l12 l13 l14 l15 l16 l17 : Slot} {x : Int32} (h : W0 rm 163 [l0, l1, l2, l3, l4, l5, l6, l7, l8, l9, l10, .val (.int x), l12, l13, l14, l15, l16, l17] (.int x :: S) (H) Q) : W0 rm 161 [l0, l1, l2, l3, l4, l5, l6, l7, l8, l9, l10, .val (.int x), l12, l13, l14, l15, l16, l17] (S) H Q := W.iload at_161 rfl h
theorem s0_163 {rm : Room} {S : List Value} {H : AHeap} {Q : Option Value → AHeap → Prop} {l0 l1 l2 l3 l4 l5 l6 l7 l8 l9 l10 l11 l12 l13 l14 l15 l16 l17 : Slot} {i : Nat} {j : Int32} {vs : List Value} {v : Value} (N : Nat) (hH : H[i]? = some (.inr (.int, vs))) (hj : ix j N) (hv : vs[N]? = some v) (h : W0 rm 164 [l0, l1, l2, l3, l4, l5, l6, l7, l8, l9, l10, l11, l12, l13, l14, l15, l16, l17] (v :: S) (H) Q) : W0 rm 163 [l0, l1, l2, l3, l4, l5, l6, l7, l8, l9, l10, l11, l12, l13, l14, l15, l16, l17] (.int j :: .ref i :: S) H Q := W.xaload (Or.inl ⟨rfl, rfl⟩) at_163 hH hj hv h
theorem s0_164 {rm : Room} {S : List Value} {H : AHeap} {Q : Option Value → AHeap → Prop} {l0 l1 l2 l3 l5 l6 l7 l8 l9 l10 l11 l12 l13 l14 l15 l16 l17 : Slot} {x : Int64} (h : W0 rm 166 [l0, l1, l2, l3, .val (.long x), l5, l6, l7, l8, l9, l10, l11, l12, l13, l14, l15, l16, l17] (.long x :: S) (H) Q) : W0 rm 164 [l0, l1, l2, l3, .val (.long x), l5, l6, l7, l8, l9, l10, l11, l12, l13, l14, l15, l16, l17] (S) H Q := W.lload at_164 rfl h
theorem s0_166 {rm : Room} {S : List Value} {H : AHeap} {Q : Option Value → AHeap → Prop} {l0 l1 l2 l3 l4 l5 l6 l7 l8 l9 l10 l11 l12 l13 l14 l15 l16 l17 : Slot} {rm' : Room} {H' : AHeap} {i : Nat} {vs : List Value} {a0 : Int32} {a1 : Int64}  (hH : H[i]? = some (.inl (0, vs))) (hM : M3 rm' [.ref i, .int a0, .long a1] H (Is none H')) (hr : rok rm rm' 6 S = true) (h : W0 (less rm rm') 169 [l0, l1, l2, l3, l4, l5, l6, l7, l8, l9, l10, l11, l12, l13, l14, l15, l16, l17] (S) H' Q) : W0 rm 166 [l0, l1, l2, l3, l4, l5, l6, l7, l8, l9, l10, l11, l12, l13, l14, l15, l16, l17] (.long a1 :: .int a0 :: .ref i :: S) H Q := W.callV (c := 0) (S := S) (as := [.int a0, .long a1]) (rm' := rm') at_166 (List.mem_of_getElem? (i := 23) rfl) (List.mem_of_getElem? (i := 24) rfl) (List.mem_of_getElem? (i := 26) rfl) (Or.inl rfl) kt (List.mem_of_getElem? (i := 25) rfl) (List.mem_of_getElem? (i := 7) rfl) (List.mem_of_getElem? (i := 27) rfl) (by decide) rfl pd3 rfl rfl hH hM hr (fun _ _ q => by obtain ⟨rfl, rfl⟩ := q; exact h)
theorem s0_166q {rm : Room} {S : List Value} {H : AHeap} {Q : Option Value → AHeap → Prop} {l0 l1 l2 l3 l4 l5 l6 l7 l8 l9 l10 l11 l12 l13 l14 l15 l16 l17 : Slot} {rm' : Room} {Q' : Option Value → AHeap → Prop} {i : Nat} {vs : List Value} {a0 a1 : Value} (hH : H[i]? = some (.inl (0, vs))) (hM : M3 rm' [.ref i, a0, a1] H Q') (hr : rok rm rm' 6 S = true) (h : ∀ v H', Q' v H' → W0 (less rm rm') 169 [l0, l1, l2, l3, l4, l5, l6, l7, l8, l9, l10, l11, l12, l13, l14, l15, l16, l17] (v.toList ++ S) H' Q) : W0 rm 166 [l0, l1, l2, l3, l4, l5, l6, l7, l8, l9, l10, l11, l12, l13, l14, l15, l16, l17] (a1 :: a0 :: .ref i :: S) H Q := W.callV (c := 0) (S := S) (as := [a0, a1]) (rm' := rm') at_166 (List.mem_of_getElem? (i := 23) rfl) (List.mem_of_getElem? (i := 24) rfl) (List.mem_of_getElem? (i := 26) rfl) (Or.inl rfl) kt (List.mem_of_getElem? (i := 25) rfl) (List.mem_of_getElem? (i := 7) rfl) (List.mem_of_getElem? (i := 27) rfl) (by decide) rfl pd3 rfl rfl hH hM hr h
theorem s0_169 {rm : Room} {S : List Value} {H : AHeap} {Q : Option Value → AHeap → Prop} {l0 l1 l2 l3 l4 l5 l6 l7 l8 l9 l10 l11 l12 l13 l15 l16 l17 : Slot} {i : Nat} (h : W0 rm 171 [l0, l1, l2, l3, l4, l5, l6, l7, l8, l9, l10, l11, l12, l13, .val (.ref i), l15, l16, l17] (.ref i :: S) (H) Q) : W0 rm 169 [l0, l1, l2, l3, l4, l5, l6, l7, l8, l9, l10, l11, l12, l13, .val (.ref i), l15, l16, l17] (S) H Q := W.aload at_169 rfl rfl h
theorem s0_169n {rm : Room} {S : List Value} {H : AHeap} {Q : Option Value → AHeap → Prop} {l0 l1 l2 l3 l4 l5 l6 l7 l8 l9 l10 l11 l12 l13 l15 l16 l17 : Slot}  (h : W0 rm 171 [l0, l1, l2, l3, l4, l5, l6, l7, l8, l9, l10, l11, l12, l13, .val .null, l15, l16, l17] (.null :: S) (H) Q) : W0 rm 169 [l0, l1, l2, l3, l4, l5, l6, l7, l8, l9, l10, l11, l12, l13, .val .null, l15, l16, l17] (S) H Q := W.aload at_169 rfl rfl h
theorem s0_171 {rm : Room} {S : List Value} {H : AHeap} {Q : Option Value → AHeap → Prop} {l0 l1 l2 l3 l4 l5 l6 l7 l8 l10 l11 l12 l13 l14 l15 l16 l17 : Slot} {i : Nat} (h : W0 rm 173 [l0, l1, l2, l3, l4, l5, l6, l7, l8, .val (.ref i), l10, l11, l12, l13, l14, l15, l16, l17] (.ref i :: S) (H) Q) : W0 rm 171 [l0, l1, l2, l3, l4, l5, l6, l7, l8, .val (.ref i), l10, l11, l12, l13, l14, l15, l16, l17] (S) H Q := W.aload at_171 rfl rfl h
theorem s0_171n {rm : Room} {S : List Value} {H : AHeap} {Q : Option Value → AHeap → Prop} {l0 l1 l2 l3 l4 l5 l6 l7 l8 l10 l11 l12 l13 l14 l15 l16 l17 : Slot}  (h : W0 rm 173 [l0, l1, l2, l3, l4, l5, l6, l7, l8, .val .null, l10, l11, l12, l13, l14, l15, l16, l17] (.null :: S) (H) Q) : W0 rm 171 [l0, l1, l2, l3, l4, l5, l6, l7, l8, .val .null, l10, l11, l12, l13, l14, l15, l16, l17] (S) H Q := W.aload at_171 rfl rfl h
theorem s0_173 {rm : Room} {S : List Value} {H : AHeap} {Q : Option Value → AHeap → Prop} {l0 l1 l2 l3 l4 l5 l6 l7 l8 l9 l10 l11 l12 l13 l14 l15 l16 l17 : Slot}  (h : W0 rm 174 [l0, l1, l2, l3, l4, l5, l6, l7, l8, l9, l10, l11, l12, l13, l14, l15, l16, l17] (.int 0 :: S) (H) Q) : W0 rm 173 [l0, l1, l2, l3, l4, l5, l6, l7, l8, l9, l10, l11, l12, l13, l14, l15, l16, l17] (S) H Q := W.iconst' at_173 (by decide) h
theorem s0_174 {rm : Room} {S : List Value} {H : AHeap} {Q : Option Value → AHeap → Prop} {l0 l1 l2 l3 l4 l5 l6 l7 l8 l9 l10 l11 l12 l13 l14 l15 l16 l17 : Slot} {i : Nat} {j : Int32} {vs : List Value} {v : Value} (N : Nat) (hH : H[i]? = some (.inr (.int, vs))) (hj : ix j N) (hv : vs[N]? = some v) (h : W0 rm 175 [l0, l1, l2, l3, l4, l5, l6, l7, l8, l9, l10, l11, l12, l13, l14, l15, l16, l17] (v :: S) (H) Q) : W0 rm 174 [l0, l1, l2, l3, l4, l5, l6, l7, l8, l9, l10, l11, l12, l13, l14, l15, l16, l17] (.int j :: .ref i :: S) H Q := W.xaload (Or.inl ⟨rfl, rfl⟩) at_174 hH hj hv h
theorem s0_175 {rm : Room} {S : List Value} {H : AHeap} {Q : Option Value → AHeap → Prop} {l0 l1 l2 l3 l4 l5 l6 l7 l8 l9 l10 l11 l12 l13 l14 l15 l16 l17 : Slot} {rm' : Room} {H' : AHeap} {i : Nat} {vs : List Value} {a0 : Int32} {r : Int64} (hH : H[i]? = some (.inl (0, vs))) (hM : M4 rm' [.ref i, .int a0] H (Is (some (.long r)) H')) (hr : rok rm rm' 3 S = true) (h : W0 (less rm rm') 178 [l0, l1, l2, l3, l4, l5, l6, l7, l8, l9, l10, l11, l12, l13, l14, l15, l16, l17] (.long r :: S) H' Q) : W0 rm 175 [l0, l1, l2, l3, l4, l5, l6, l7, l8, l9, l10, l11, l12, l13, l14, l15, l16, l17] (.int a0 :: .ref i :: S) H Q := W.callV (c := 0) (S := S) (as := [.int a0]) (rm' := rm') at_175 (List.mem_of_getElem? (i := 30) rfl) (List.mem_of_getElem? (i := 31) rfl) (List.mem_of_getElem? (i := 33) rfl) (Or.inl rfl) kt (List.mem_of_getElem? (i := 32) rfl) (List.mem_of_getElem? (i := 7) rfl) (List.mem_of_getElem? (i := 34) rfl) (by decide) rfl pd4 rfl rfl hH hM hr (fun _ _ q => by obtain ⟨rfl, rfl⟩ := q; exact h)
theorem s0_175q {rm : Room} {S : List Value} {H : AHeap} {Q : Option Value → AHeap → Prop} {l0 l1 l2 l3 l4 l5 l6 l7 l8 l9 l10 l11 l12 l13 l14 l15 l16 l17 : Slot} {rm' : Room} {Q' : Option Value → AHeap → Prop} {i : Nat} {vs : List Value} {a0 : Value} (hH : H[i]? = some (.inl (0, vs))) (hM : M4 rm' [.ref i, a0] H Q') (hr : rok rm rm' 3 S = true) (h : ∀ v H', Q' v H' → W0 (less rm rm') 178 [l0, l1, l2, l3, l4, l5, l6, l7, l8, l9, l10, l11, l12, l13, l14, l15, l16, l17] (v.toList ++ S) H' Q) : W0 rm 175 [l0, l1, l2, l3, l4, l5, l6, l7, l8, l9, l10, l11, l12, l13, l14, l15, l16, l17] (a0 :: .ref i :: S) H Q := W.callV (c := 0) (S := S) (as := [a0]) (rm' := rm') at_175 (List.mem_of_getElem? (i := 30) rfl) (List.mem_of_getElem? (i := 31) rfl) (List.mem_of_getElem? (i := 33) rfl) (Or.inl rfl) kt (List.mem_of_getElem? (i := 32) rfl) (List.mem_of_getElem? (i := 7) rfl) (List.mem_of_getElem? (i := 34) rfl) (by decide) rfl pd4 rfl rfl hH hM hr h
theorem s0_178 {rm : Room} {S : List Value} {H : AHeap} {Q : Option Value → AHeap → Prop} {l0 l1 l2 l3 l4 l5 l6 l7 l8 l9 l10 l11 l12 l13 l14 l15 l16 l17 : Slot}  (h : W0 rm 179 [l0, l1, l2, l3, l4, l5, l6, l7, l8, l9, l10, l11, l12, l13, l14, l15, l16, l17] (.int 0 :: S) (H) Q) : W0 rm 178 [l0, l1, l2, l3, l4, l5, l6, l7, l8, l9, l10, l11, l12, l13, l14, l15, l16, l17] (S) H Q := W.iconst' at_178 (by decide) h
theorem s0_179 {rm : Room} {S : List Value} {H : AHeap} {Q : Option Value → AHeap → Prop} {l0 l1 l2 l3 l4 l5 l6 l7 l8 l9 l10 l11 l13 l14 l15 l16 l17 : Slot} {x : Int32} (h : W0 rm 181 [l0, l1, l2, l3, l4, l5, l6, l7, l8, l9, l10, l11, .val (.int x), l13, l14, l15, l16, l17] (.int x :: S) (H) Q) : W0 rm 179 [l0, l1, l2, l3, l4, l5, l6, l7, l8, l9, l10, l11, .val (.int x), l13, l14, l15, l16, l17] (S) H Q := W.iload at_179 rfl h
theorem s0_181 {rm : Room} {S : List Value} {H : AHeap} {Q : Option Value → AHeap → Prop} {l0 l1 l2 l3 l4 l5 l6 l7 l8 l9 l11 l12 l13 l14 l15 l16 l17 : Slot} {x : Int32} (h : W0 rm 183 [l0, l1, l2, l3, l4, l5, l6, l7, l8, l9, .val (.int x), l11, l12, l13, l14, l15, l16, l17] (.int x :: S) (H) Q) : W0 rm 181 [l0, l1, l2, l3, l4, l5, l6, l7, l8, l9, .val (.int x), l11, l12, l13, l14, l15, l16, l17] (S) H Q := W.iload at_181 rfl h
theorem s0_183 {rm : Room} {S : List Value} {H : AHeap} {Q : Option Value → AHeap → Prop} {l0 l1 l3 l4 l5 l6 l7 l8 l9 l10 l11 l12 l13 l14 l15 l16 l17 : Slot} {x : Int64} (h : W0 rm 184 [l0, l1, .val (.long x), l3, l4, l5, l6, l7, l8, l9, l10, l11, l12, l13, l14, l15, l16, l17] (.long x :: S) (H) Q) : W0 rm 183 [l0, l1, .val (.long x), l3, l4, l5, l6, l7, l8, l9, l10, l11, l12, l13, l14, l15, l16, l17] (S) H Q := W.lload_n at_183 rfl h
theorem s0_184 {rm : Room} {S : List Value} {H : AHeap} {Q : Option Value → AHeap → Prop} {l0 l1 l2 l3 l4 l5 l6 l7 l8 l9 l10 l11 l12 l14 l15 l16 l17 : Slot} {x : Int32} (h : W0 rm 186 [l0, l1, l2, l3, l4, l5, l6, l7, l8, l9, l10, l11, l12, .val (.int x), l14, l15, l16, l17] (.int x :: S) (H) Q) : W0 rm 184 [l0, l1, l2, l3, l4, l5, l6, l7, l8, l9, l10, l11, l12, .val (.int x), l14, l15, l16, l17] (S) H Q := W.iload at_184 rfl h
theorem s0_186 {rm : Room} {S : List Value} {H : AHeap} {Q : Option Value → AHeap → Prop} {l0 l1 l2 l3 l4 l5 l6 l7 l8 l9 l10 l12 l13 l14 l15 l16 l17 : Slot} {x : Int32} (h : W0 rm 188 [l0, l1, l2, l3, l4, l5, l6, l7, l8, l9, l10, .val (.int x), l12, l13, l14, l15, l16, l17] (.int x :: S) (H) Q) : W0 rm 186 [l0, l1, l2, l3, l4, l5, l6, l7, l8, l9, l10, .val (.int x), l12, l13, l14, l15, l16, l17] (S) H Q := W.iload at_186 rfl h
theorem s0_188 {rm : Room} {S : List Value} {H : AHeap} {Q : Option Value → AHeap → Prop} {l0 l1 l2 l3 l5 l6 l7 l8 l9 l10 l11 l12 l13 l14 l15 l16 l17 : Slot} {x : Int64} (h : W0 rm 190 [l0, l1, l2, l3, .val (.long x), l5, l6, l7, l8, l9, l10, l11, l12, l13, l14, l15, l16, l17] (.long x :: S) (H) Q) : W0 rm 188 [l0, l1, l2, l3, .val (.long x), l5, l6, l7, l8, l9, l10, l11, l12, l13, l14, l15, l16, l17] (S) H Q := W.lload at_188 rfl h
theorem s0_190 {rm : Room} {S : List Value} {H : AHeap} {Q : Option Value → AHeap → Prop} {l0 l1 l2 l3 l4 l5 l6 l7 l8 l9 l10 l11 l12 l13 l14 l15 l16 l17 : Slot} {rm' : Room} {H' : AHeap} {a0 : Int32} {a1 : Int32} {a2 : Int32} {a3 : Int64} {a4 : Int32} {a5 : Int32} {a6 : Int64} {r : Int64} (hM : M5 rm' [.int a0, .int a1, .int a2, .long a3, .int a4, .int a5, .long a6] H (Is (some (.long r)) H')) (hr : rok rm rm' 11 S = true) (h : W0 (less rm rm') 193 [l0, l1, l2, l3, l4, l5, l6, l7, l8, l9, l10, l11, l12, l13, l14, l15, l16, l17] (.long r :: S) H' Q) : W0 rm 190 [l0, l1, l2, l3, l4, l5, l6, l7, l8, l9, l10, l11, l12, l13, l14, l15, l16, l17] (.long a6 :: .int a5 :: .int a4 :: .long a3 :: .int a2 :: .int a1 :: .int a0 :: S) H Q := W.callS (S := S) (as := [.int a0, .int a1, .int a2, .long a3, .int a4, .int a5, .long a6]) (rm' := rm') at_190 (List.mem_of_getElem? (i := 35) rfl) (List.mem_of_getElem? (i := 36) rfl) (List.mem_of_getElem? (i := 3) rfl) (List.mem_of_getElem? (i := 37) rfl) (by decide) pd5 rfl rfl hM hr (fun _ _ q => by obtain ⟨rfl, rfl⟩ := q; exact h)
theorem s0_190q {rm : Room} {S : List Value} {H : AHeap} {Q : Option Value → AHeap → Prop} {l0 l1 l2 l3 l4 l5 l6 l7 l8 l9 l10 l11 l12 l13 l14 l15 l16 l17 : Slot} {rm' : Room} {Q' : Option Value → AHeap → Prop} {a0 a1 a2 a3 a4 a5 a6 : Value} (hM : M5 rm' [a0, a1, a2, a3, a4, a5, a6] H Q') (hr : rok rm rm' 11 S = true) (h : ∀ v H', Q' v H' → W0 (less rm rm') 193 [l0, l1, l2, l3, l4, l5, l6, l7, l8, l9, l10, l11, l12, l13, l14, l15, l16, l17] (v.toList ++ S) H' Q) : W0 rm 190 [l0, l1, l2, l3, l4, l5, l6, l7, l8, l9, l10, l11, l12, l13, l14, l15, l16, l17] (a6 :: a5 :: a4 :: a3 :: a2 :: a1 :: a0 :: S) H Q := W.callS (S := S) (as := [a0, a1, a2, a3, a4, a5, a6]) (rm' := rm') at_190 (List.mem_of_getElem? (i := 35) rfl) (List.mem_of_getElem? (i := 36) rfl) (List.mem_of_getElem? (i := 3) rfl) (List.mem_of_getElem? (i := 37) rfl) (by decide) pd5 rfl rfl hM hr h
theorem s0_194 {rm : Room} {S : List Value} {H : AHeap} {Q : Option Value → AHeap → Prop} {l0 l1 l2 l3 l4 l5 l6 l7 l8 l9 l10 l11 l12 l13 l14 l15 l16 l17 : Slot} {x : Int32} (h1 : ¬ x = 0 → W0 rm 201 [l0, l1, l2, l3, l4, l5, l6, l7, l8, l9, l10, l11, l12, l13, l14, l15, l16, l17] S H Q) (h2 : x = 0 → W0 rm 197 [l0, l1, l2, l3, l4, l5, l6, l7, l8, l9, l10, l11, l12, l13, l14, l15, l16, l17] S H Q) : W0 rm 194 [l0, l1, l2, l3, l4, l5, l6, l7, l8, l9, l10, l11, l12, l13, l14, l15, l16, l17] (.int x :: S) H Q := W.ifc at_194 (by decide) (by decide) h1 h2
theorem s0_193c {rm : Room} {S : List Value} {H : AHeap} {Q : Option Value → AHeap → Prop} {l0 l1 l2 l3 l4 l5 l6 l7 l8 l9 l10 l11 l12 l13 l14 l15 l16 l17 : Slot} {x y : Int64} (h1 : ¬ x = y → W0 rm 201 [l0, l1, l2, l3, l4, l5, l6, l7, l8, l9, l10, l11, l12, l13, l14, l15, l16, l17] S H Q) (h2 : x = y → W0 rm 197 [l0, l1, l2, l3, l4, l5, l6, l7, l8, l9, l10, l11, l12, l13, l14, l15, l16, l17] S H Q) : W0 rm 193 [l0, l1, l2, l3, l4, l5, l6, l7, l8, l9, l10, l11, l12, l13, l14, l15, l16, l17] (.long y :: .long x :: S) H Q := W.lcif at_193 rfl at_194 (by decide) (by decide) h1 h2
theorem s0_197 {rm : Room} {S : List Value} {H : AHeap} {Q : Option Value → AHeap → Prop} {l0 l1 l2 l3 l4 l5 l6 l7 l8 l9 l10 l11 l12 l13 l14 l15 l16 l17 : Slot}  (h : W0 rm 198 [l0, l1, l2, l3, l4, l5, l6, l7, l8, l9, l10, l11, l12, l13, l14, l15, l16, l17] (.int 1 :: S) (H) Q) : W0 rm 197 [l0, l1, l2, l3, l4, l5, l6, l7, l8, l9, l10, l11, l12, l13, l14, l15, l16, l17] (S) H Q := W.iconst' at_197 (by decide) h
theorem s0_198 {rm : Room} {S : List Value} {H : AHeap} {Q : Option Value → AHeap → Prop} {l0 l1 l2 l3 l4 l5 l6 l7 l8 l9 l10 l11 l12 l13 l14 l15 l16 l17 : Slot}  (h : W0 rm 202 [l0, l1, l2, l3, l4, l5, l6, l7, l8, l9, l10, l11, l12, l13, l14, l15, l16, l17] (S) (H) Q) : W0 rm 198 [l0, l1, l2, l3, l4, l5, l6, l7, l8, l9, l10, l11, l12, l13, l14, l15, l16, l17] (S) H Q := W.goto at_198 (by decide) (by decide) h
theorem s0_201 {rm : Room} {S : List Value} {H : AHeap} {Q : Option Value → AHeap → Prop} {l0 l1 l2 l3 l4 l5 l6 l7 l8 l9 l10 l11 l12 l13 l14 l15 l16 l17 : Slot}  (h : W0 rm 202 [l0, l1, l2, l3, l4, l5, l6, l7, l8, l9, l10, l11, l12, l13, l14, l15, l16, l17] (.int 0 :: S) (H) Q) : W0 rm 201 [l0, l1, l2, l3, l4, l5, l6, l7, l8, l9, l10, l11, l12, l13, l14, l15, l16, l17] (S) H Q := W.iconst' at_201 (by decide) h
theorem s0_202 {rm : Room} {S : List Value} {H : AHeap} {Q : Option Value → AHeap → Prop} {l0 l1 l2 l3 l4 l5 l6 l7 l8 l9 l10 l11 l12 l13 l14 l15 l16 l17 : Slot} {x : Int32} (ho : one l15 = true) (h : W0 rm 204 [l0, l1, l2, l3, l4, l5, l6, l7, l8, l9, l10, l11, l12, l13, l14, .val (.int x), l16, l17] (S) (H) Q) : W0 rm 202 [l0, l1, l2, l3, l4, l5, l6, l7, l8, l9, l10, l11, l12, l13, l14, l15, l16, l17] (.int x :: S) H Q := W.istore at_202 rfl ho h
theorem s0_202w {rm : Room} {S : List Value} {H : AHeap} {Q : Option Value → AHeap → Prop} {l0 l1 l2 l3 l4 l5 l6 l7 l8 l9 l10 l11 l12 l13 l14 l16 l17 : Slot} {w : Value} {x : Int32} (ho : w.category = 2) (h : W0 rm 204 [l0, l1, l2, l3, l4, l5, l6, l7, l8, l9, l10, l11, l12, l13, l14, .val (.int x), .unset, l17] (S) (H) Q) : W0 rm 202 [l0, l1, l2, l3, l4, l5, l6, l7, l8, l9, l10, l11, l12, l13, l14, .val w, l16, l17] (.int x :: S) H Q := W.istoreW at_202 rfl ho (Nat.le_of_ble_eq_true rfl) h
theorem s0_202s {rm : Room} {S : List Value} {H : AHeap} {Q : Option Value → AHeap → Prop} {l0 l1 l2 l3 l4 l5 l6 l7 l8 l9 l10 l11 l12 l13 l14 l16 l17 : Slot} {x : Int32} (h : W0 rm 204 [l0, l1, l2, l3, l4, l5, l6, l7, l8, l9, l10, l11, l12, l13, .unset, .val (.int x), l16, l17] (S) (H) Q) : W0 rm 202 [l0, l1, l2, l3, l4, l5, l6, l7, l8, l9, l10, l11, l12, l13, l14, .second, l16, l17] (.int x :: S) H Q := W.istoreS at_202 rfl (by decide) h
theorem s0_204 {rm : Room} {S : List Value} {H : AHeap} {Q : Option Value → AHeap → Prop} {l0 l1 l2 l3 l4 l5 l6 l7 l8 l9 l10 l11 l12 l13 l14 l16 l17 : Slot} {x : Int32} (h : W0 rm 206 [l0, l1, l2, l3, l4, l5, l6, l7, l8, l9, l10, l11, l12, l13, l14, .val (.int x), l16, l17] (.int x :: S) (H) Q) : W0 rm 204 [l0, l1, l2, l3, l4, l5, l6, l7, l8, l9, l10, l11, l12, l13, l14, .val (.int x), l16, l17] (S) H Q := W.iload at_204 rfl h
theorem s0_206 {rm : Room} {S : List Value} {H : AHeap} {Q : Option Value → AHeap → Prop} {l0 l1 l2 l3 l4 l5 l6 l7 l8 l9 l10 l11 l12 l13 l14 l15 l16 l17 : Slot} {x : Int32} (h1 : x = 0 → W0 rm 241 [l0, l1, l2, l3, l4, l5, l6, l7, l8, l9, l10, l11, l12, l13, l14, l15, l16, l17] S H Q) (h2 : ¬ x = 0 → W0 rm 209 [l0, l1, l2, l3, l4, l5, l6, l7, l8, l9, l10, l11, l12, l13, l14, l15, l16, l17] S H Q) : W0 rm 206 [l0, l1, l2, l3, l4, l5, l6, l7, l8, l9, l10, l11, l12, l13, l14, l15, l16, l17] (.int x :: S) H Q := W.ifc at_206 (by decide) (by decide) h1 h2
theorem s0_209 {rm : Room} {S : List Value} {H : AHeap} {Q : Option Value → AHeap → Prop} {l0 l1 l2 l3 l4 l5 l6 l7 l8 l9 l10 l11 l12 l13 l15 l16 l17 : Slot} {i : Nat} (h : W0 rm 211 [l0, l1, l2, l3, l4, l5, l6, l7, l8, l9, l10, l11, l12, l13, .val (.ref i), l15, l16, l17] (.ref i :: S) (H) Q) : W0 rm 209 [l0, l1, l2, l3, l4, l5, l6, l7, l8, l9, l10, l11, l12, l13, .val (.ref i), l15, l16, l17] (S) H Q := W.aload at_209 rfl rfl h
theorem s0_209n {rm : Room} {S : List Value} {H : AHeap} {Q : Option Value → AHeap → Prop} {l0 l1 l2 l3 l4 l5 l6 l7 l8 l9 l10 l11 l12 l13 l15 l16 l17 : Slot}  (h : W0 rm 211 [l0, l1, l2, l3, l4, l5, l6, l7, l8, l9, l10, l11, l12, l13, .val .null, l15, l16, l17] (.null :: S) (H) Q) : W0 rm 209 [l0, l1, l2, l3, l4, l5, l6, l7, l8, l9, l10, l11, l12, l13, .val .null, l15, l16, l17] (S) H Q := W.aload at_209 rfl rfl h
theorem s0_211 {rm : Room} {S : List Value} {H : AHeap} {Q : Option Value → AHeap → Prop} {l0 l1 l2 l3 l4 l5 l6 l7 l8 l10 l11 l12 l13 l14 l15 l16 l17 : Slot} {i : Nat} (h : W0 rm 213 [l0, l1, l2, l3, l4, l5, l6, l7, l8, .val (.ref i), l10, l11, l12, l13, l14, l15, l16, l17] (.ref i :: S) (H) Q) : W0 rm 211 [l0, l1, l2, l3, l4, l5, l6, l7, l8, .val (.ref i), l10, l11, l12, l13, l14, l15, l16, l17] (S) H Q := W.aload at_211 rfl rfl h
theorem s0_211n {rm : Room} {S : List Value} {H : AHeap} {Q : Option Value → AHeap → Prop} {l0 l1 l2 l3 l4 l5 l6 l7 l8 l10 l11 l12 l13 l14 l15 l16 l17 : Slot}  (h : W0 rm 213 [l0, l1, l2, l3, l4, l5, l6, l7, l8, .val .null, l10, l11, l12, l13, l14, l15, l16, l17] (.null :: S) (H) Q) : W0 rm 211 [l0, l1, l2, l3, l4, l5, l6, l7, l8, .val .null, l10, l11, l12, l13, l14, l15, l16, l17] (S) H Q := W.aload at_211 rfl rfl h
theorem s0_213 {rm : Room} {S : List Value} {H : AHeap} {Q : Option Value → AHeap → Prop} {l0 l1 l2 l3 l4 l5 l6 l7 l8 l9 l10 l11 l12 l13 l14 l15 l16 l17 : Slot}  (h : W0 rm 214 [l0, l1, l2, l3, l4, l5, l6, l7, l8, l9, l10, l11, l12, l13, l14, l15, l16, l17] (.int 1 :: S) (H) Q) : W0 rm 213 [l0, l1, l2, l3, l4, l5, l6, l7, l8, l9, l10, l11, l12, l13, l14, l15, l16, l17] (S) H Q := W.iconst' at_213 (by decide) h
theorem s0_214 {rm : Room} {S : List Value} {H : AHeap} {Q : Option Value → AHeap → Prop} {l0 l1 l2 l3 l4 l5 l6 l7 l8 l9 l10 l11 l12 l13 l14 l15 l16 l17 : Slot} {i : Nat} {j : Int32} {vs : List Value} {v : Value} (N : Nat) (hH : H[i]? = some (.inr (.int, vs))) (hj : ix j N) (hv : vs[N]? = some v) (h : W0 rm 215 [l0, l1, l2, l3, l4, l5, l6, l7, l8, l9, l10, l11, l12, l13, l14, l15, l16, l17] (v :: S) (H) Q) : W0 rm 214 [l0, l1, l2, l3, l4, l5, l6, l7, l8, l9, l10, l11, l12, l13, l14, l15, l16, l17] (.int j :: .ref i :: S) H Q := W.xaload (Or.inl ⟨rfl, rfl⟩) at_214 hH hj hv h
theorem s0_215 {rm : Room} {S : List Value} {H : AHeap} {Q : Option Value → AHeap → Prop} {l0 l1 l2 l3 l4 l5 l6 l7 l8 l9 l10 l11 l12 l13 l14 l15 l16 l17 : Slot} {rm' : Room} {H' : AHeap} {i : Nat} {vs : List Value} {a0 : Int32} {r : Int64} (hH : H[i]? = some (.inl (0, vs))) (hM : M4 rm' [.ref i, .int a0] H (Is (some (.long r)) H')) (hr : rok rm rm' 3 S = true) (h : W0 (less rm rm') 218 [l0, l1, l2, l3, l4, l5, l6, l7, l8, l9, l10, l11, l12, l13, l14, l15, l16, l17] (.long r :: S) H' Q) : W0 rm 215 [l0, l1, l2, l3, l4, l5, l6, l7, l8, l9, l10, l11, l12, l13, l14, l15, l16, l17] (.int a0 :: .ref i :: S) H Q := W.callV (c := 0) (S := S) (as := [.int a0]) (rm' := rm') at_215 (List.mem_of_getElem? (i := 30) rfl) (List.mem_of_getElem? (i := 31) rfl) (List.mem_of_getElem? (i := 33) rfl) (Or.inl rfl) kt (List.mem_of_getElem? (i := 32) rfl) (List.mem_of_getElem? (i := 7) rfl) (List.mem_of_getElem? (i := 34) rfl) (by decide) rfl pd4 rfl rfl hH hM hr (fun _ _ q => by obtain ⟨rfl, rfl⟩ := q; exact h)
theorem s0_215q {rm : Room} {S : List Value} {H : AHeap} {Q : Option Value → AHeap → Prop} {l0 l1 l2 l3 l4 l5 l6 l7 l8 l9 l10 l11 l12 l13 l14 l15 l16 l17 : Slot} {rm' : Room} {Q' : Option Value → AHeap → Prop} {i : Nat} {vs : List Value} {a0 : Value} (hH : H[i]? = some (.inl (0, vs))) (hM : M4 rm' [.ref i, a0] H Q') (hr : rok rm rm' 3 S = true) (h : ∀ v H', Q' v H' → W0 (less rm rm') 218 [l0, l1, l2, l3, l4, l5, l6, l7, l8, l9, l10, l11, l12, l13, l14, l15, l16, l17] (v.toList ++ S) H' Q) : W0 rm 215 [l0, l1, l2, l3, l4, l5, l6, l7, l8, l9, l10, l11, l12, l13, l14, l15, l16, l17] (a0 :: .ref i :: S) H Q := W.callV (c := 0) (S := S) (as := [a0]) (rm' := rm') at_215 (List.mem_of_getElem? (i := 30) rfl) (List.mem_of_getElem? (i := 31) rfl) (List.mem_of_getElem? (i := 33) rfl) (Or.inl rfl) kt (List.mem_of_getElem? (i := 32) rfl) (List.mem_of_getElem? (i := 7) rfl) (List.mem_of_getElem? (i := 34) rfl) (by decide) rfl pd4 rfl rfl hH hM hr h
theorem s0_218 {rm : Room} {S : List Value} {H : AHeap} {Q : Option Value → AHeap → Prop} {l0 l1 l2 l3 l4 l5 l6 l7 l8 l9 l10 l11 l12 l13 l14 l15 l16 l17 : Slot}  (h : W0 rm 219 [l0, l1, l2, l3, l4, l5, l6, l7, l8, l9, l10, l11, l12, l13, l14, l15, l16, l17] (.int 1 :: S) (H) Q) : W0 rm 218 [l0, l1, l2, l3, l4, l5, l6, l7, l8, l9, l10, l11, l12, l13, l14, l15, l16, l17] (S) H Q := W.iconst' at_218 (by decide) h
theorem s0_219 {rm : Room} {S : List Value} {H : AHeap} {Q : Option Value → AHeap → Prop} {l0 l1 l2 l3 l4 l5 l6 l7 l8 l9 l10 l11 l13 l14 l15 l16 l17 : Slot} {x : Int32} (h : W0 rm 221 [l0, l1, l2, l3, l4, l5, l6, l7, l8, l9, l10, l11, .val (.int x), l13, l14, l15, l16, l17] (.int x :: S) (H) Q) : W0 rm 219 [l0, l1, l2, l3, l4, l5, l6, l7, l8, l9, l10, l11, .val (.int x), l13, l14, l15, l16, l17] (S) H Q := W.iload at_219 rfl h
theorem s0_221 {rm : Room} {S : List Value} {H : AHeap} {Q : Option Value → AHeap → Prop} {l0 l1 l2 l3 l4 l5 l6 l7 l8 l9 l11 l12 l13 l14 l15 l16 l17 : Slot} {x : Int32} (h : W0 rm 223 [l0, l1, l2, l3, l4, l5, l6, l7, l8, l9, .val (.int x), l11, l12, l13, l14, l15, l16, l17] (.int x :: S) (H) Q) : W0 rm 221 [l0, l1, l2, l3, l4, l5, l6, l7, l8, l9, .val (.int x), l11, l12, l13, l14, l15, l16, l17] (S) H Q := W.iload at_221 rfl h
theorem s0_223 {rm : Room} {S : List Value} {H : AHeap} {Q : Option Value → AHeap → Prop} {l0 l1 l3 l4 l5 l6 l7 l8 l9 l10 l11 l12 l13 l14 l15 l16 l17 : Slot} {x : Int64} (h : W0 rm 224 [l0, l1, .val (.long x), l3, l4, l5, l6, l7, l8, l9, l10, l11, l12, l13, l14, l15, l16, l17] (.long x :: S) (H) Q) : W0 rm 223 [l0, l1, .val (.long x), l3, l4, l5, l6, l7, l8, l9, l10, l11, l12, l13, l14, l15, l16, l17] (S) H Q := W.lload_n at_223 rfl h
theorem s0_224 {rm : Room} {S : List Value} {H : AHeap} {Q : Option Value → AHeap → Prop} {l0 l1 l2 l3 l4 l5 l6 l7 l8 l9 l10 l11 l12 l14 l15 l16 l17 : Slot} {x : Int32} (h : W0 rm 226 [l0, l1, l2, l3, l4, l5, l6, l7, l8, l9, l10, l11, l12, .val (.int x), l14, l15, l16, l17] (.int x :: S) (H) Q) : W0 rm 224 [l0, l1, l2, l3, l4, l5, l6, l7, l8, l9, l10, l11, l12, .val (.int x), l14, l15, l16, l17] (S) H Q := W.iload at_224 rfl h
theorem s0_226 {rm : Room} {S : List Value} {H : AHeap} {Q : Option Value → AHeap → Prop} {l0 l1 l2 l3 l4 l5 l6 l7 l8 l9 l10 l12 l13 l14 l15 l16 l17 : Slot} {x : Int32} (h : W0 rm 228 [l0, l1, l2, l3, l4, l5, l6, l7, l8, l9, l10, .val (.int x), l12, l13, l14, l15, l16, l17] (.int x :: S) (H) Q) : W0 rm 226 [l0, l1, l2, l3, l4, l5, l6, l7, l8, l9, l10, .val (.int x), l12, l13, l14, l15, l16, l17] (S) H Q := W.iload at_226 rfl h
theorem s0_228 {rm : Room} {S : List Value} {H : AHeap} {Q : Option Value → AHeap → Prop} {l0 l1 l2 l3 l5 l6 l7 l8 l9 l10 l11 l12 l13 l14 l15 l16 l17 : Slot} {x : Int64} (h : W0 rm 230 [l0, l1, l2, l3, .val (.long x), l5, l6, l7, l8, l9, l10, l11, l12, l13, l14, l15, l16, l17] (.long x :: S) (H) Q) : W0 rm 228 [l0, l1, l2, l3, .val (.long x), l5, l6, l7, l8, l9, l10, l11, l12, l13, l14, l15, l16, l17] (S) H Q := W.lload at_228 rfl h
theorem s0_230 {rm : Room} {S : List Value} {H : AHeap} {Q : Option Value → AHeap → Prop} {l0 l1 l2 l3 l4 l5 l6 l7 l8 l9 l10 l11 l12 l13 l14 l15 l16 l17 : Slot} {rm' : Room} {H' : AHeap} {a0 : Int32} {a1 : Int32} {a2 : Int32} {a3 : Int64} {a4 : Int32} {a5 : Int32} {a6 : Int64} {r : Int64} (hM : M5 rm' [.int a0, .int a1, .int a2, .long a3, .int a4, .int a5, .long a6] H (Is (some (.long r)) H')) (hr : rok rm rm' 11 S = true) (h : W0 (less rm rm') 233 [l0, l1, l2, l3, l4, l5, l6, l7, l8, l9, l10, l11, l12, l13, l14, l15, l16, l17] (.long r :: S) H' Q) : W0 rm 230 [l0, l1, l2, l3, l4, l5, l6, l7, l8, l9, l10, l11, l12, l13, l14, l15, l16, l17] (.long a6 :: .int a5 :: .int a4 :: .long a3 :: .int a2 :: .int a1 :: .int a0 :: S) H Q := W.callS (S := S) (as := [.int a0, .int a1, .int a2, .long a3, .int a4, .int a5, .long a6]) (rm' := rm') at_230 (List.mem_of_getElem? (i := 35) rfl) (List.mem_of_getElem? (i := 36) rfl) (List.mem_of_getElem? (i := 3) rfl) (List.mem_of_getElem? (i := 37) rfl) (by decide) pd5 rfl rfl hM hr (fun _ _ q => by obtain ⟨rfl, rfl⟩ := q; exact h)
theorem s0_230q {rm : Room} {S : List Value} {H : AHeap} {Q : Option Value → AHeap → Prop} {l0 l1 l2 l3 l4 l5 l6 l7 l8 l9 l10 l11 l12 l13 l14 l15 l16 l17 : Slot} {rm' : Room} {Q' : Option Value → AHeap → Prop} {a0 a1 a2 a3 a4 a5 a6 : Value} (hM : M5 rm' [a0, a1, a2, a3, a4, a5, a6] H Q') (hr : rok rm rm' 11 S = true) (h : ∀ v H', Q' v H' → W0 (less rm rm') 233 [l0, l1, l2, l3, l4, l5, l6, l7, l8, l9, l10, l11, l12, l13, l14, l15, l16, l17] (v.toList ++ S) H' Q) : W0 rm 230 [l0, l1, l2, l3, l4, l5, l6, l7, l8, l9, l10, l11, l12, l13, l14, l15, l16, l17] (a6 :: a5 :: a4 :: a3 :: a2 :: a1 :: a0 :: S) H Q := W.callS (S := S) (as := [a0, a1, a2, a3, a4, a5, a6]) (rm' := rm') at_230 (List.mem_of_getElem? (i := 35) rfl) (List.mem_of_getElem? (i := 36) rfl) (List.mem_of_getElem? (i := 3) rfl) (List.mem_of_getElem? (i := 37) rfl) (by decide) pd5 rfl rfl hM hr h
theorem s0_234 {rm : Room} {S : List Value} {H : AHeap} {Q : Option Value → AHeap → Prop} {l0 l1 l2 l3 l4 l5 l6 l7 l8 l9 l10 l11 l12 l13 l14 l15 l16 l17 : Slot} {x : Int32} (h1 : ¬ x = 0 → W0 rm 241 [l0, l1, l2, l3, l4, l5, l6, l7, l8, l9, l10, l11, l12, l13, l14, l15, l16, l17] S H Q) (h2 : x = 0 → W0 rm 237 [l0, l1, l2, l3, l4, l5, l6, l7, l8, l9, l10, l11, l12, l13, l14, l15, l16, l17] S H Q) : W0 rm 234 [l0, l1, l2, l3, l4, l5, l6, l7, l8, l9, l10, l11, l12, l13, l14, l15, l16, l17] (.int x :: S) H Q := W.ifc at_234 (by decide) (by decide) h1 h2
theorem s0_233c {rm : Room} {S : List Value} {H : AHeap} {Q : Option Value → AHeap → Prop} {l0 l1 l2 l3 l4 l5 l6 l7 l8 l9 l10 l11 l12 l13 l14 l15 l16 l17 : Slot} {x y : Int64} (h1 : ¬ x = y → W0 rm 241 [l0, l1, l2, l3, l4, l5, l6, l7, l8, l9, l10, l11, l12, l13, l14, l15, l16, l17] S H Q) (h2 : x = y → W0 rm 237 [l0, l1, l2, l3, l4, l5, l6, l7, l8, l9, l10, l11, l12, l13, l14, l15, l16, l17] S H Q) : W0 rm 233 [l0, l1, l2, l3, l4, l5, l6, l7, l8, l9, l10, l11, l12, l13, l14, l15, l16, l17] (.long y :: .long x :: S) H Q := W.lcif at_233 rfl at_234 (by decide) (by decide) h1 h2
theorem s0_237 {rm : Room} {S : List Value} {H : AHeap} {Q : Option Value → AHeap → Prop} {l0 l1 l2 l3 l4 l5 l6 l7 l8 l9 l10 l11 l12 l13 l14 l15 l16 l17 : Slot}  (h : W0 rm 238 [l0, l1, l2, l3, l4, l5, l6, l7, l8, l9, l10, l11, l12, l13, l14, l15, l16, l17] (.int 1 :: S) (H) Q) : W0 rm 237 [l0, l1, l2, l3, l4, l5, l6, l7, l8, l9, l10, l11, l12, l13, l14, l15, l16, l17] (S) H Q := W.iconst' at_237 (by decide) h
theorem s0_238 {rm : Room} {S : List Value} {H : AHeap} {Q : Option Value → AHeap → Prop} {l0 l1 l2 l3 l4 l5 l6 l7 l8 l9 l10 l11 l12 l13 l14 l15 l16 l17 : Slot}  (h : W0 rm 242 [l0, l1, l2, l3, l4, l5, l6, l7, l8, l9, l10, l11, l12, l13, l14, l15, l16, l17] (S) (H) Q) : W0 rm 238 [l0, l1, l2, l3, l4, l5, l6, l7, l8, l9, l10, l11, l12, l13, l14, l15, l16, l17] (S) H Q := W.goto at_238 (by decide) (by decide) h
theorem s0_241 {rm : Room} {S : List Value} {H : AHeap} {Q : Option Value → AHeap → Prop} {l0 l1 l2 l3 l4 l5 l6 l7 l8 l9 l10 l11 l12 l13 l14 l15 l16 l17 : Slot}  (h : W0 rm 242 [l0, l1, l2, l3, l4, l5, l6, l7, l8, l9, l10, l11, l12, l13, l14, l15, l16, l17] (.int 0 :: S) (H) Q) : W0 rm 241 [l0, l1, l2, l3, l4, l5, l6, l7, l8, l9, l10, l11, l12, l13, l14, l15, l16, l17] (S) H Q := W.iconst' at_241 (by decide) h
theorem s0_242 {rm : Room} {S : List Value} {H : AHeap} {Q : Option Value → AHeap → Prop} {l0 l1 l2 l3 l4 l5 l6 l7 l8 l9 l10 l11 l12 l13 l14 l15 l16 l17 : Slot} {x : Int32} (ho : one l15 = true) (h : W0 rm 244 [l0, l1, l2, l3, l4, l5, l6, l7, l8, l9, l10, l11, l12, l13, l14, .val (.int x), l16, l17] (S) (H) Q) : W0 rm 242 [l0, l1, l2, l3, l4, l5, l6, l7, l8, l9, l10, l11, l12, l13, l14, l15, l16, l17] (.int x :: S) H Q := W.istore at_242 rfl ho h
theorem s0_242w {rm : Room} {S : List Value} {H : AHeap} {Q : Option Value → AHeap → Prop} {l0 l1 l2 l3 l4 l5 l6 l7 l8 l9 l10 l11 l12 l13 l14 l16 l17 : Slot} {w : Value} {x : Int32} (ho : w.category = 2) (h : W0 rm 244 [l0, l1, l2, l3, l4, l5, l6, l7, l8, l9, l10, l11, l12, l13, l14, .val (.int x), .unset, l17] (S) (H) Q) : W0 rm 242 [l0, l1, l2, l3, l4, l5, l6, l7, l8, l9, l10, l11, l12, l13, l14, .val w, l16, l17] (.int x :: S) H Q := W.istoreW at_242 rfl ho (Nat.le_of_ble_eq_true rfl) h
theorem s0_242s {rm : Room} {S : List Value} {H : AHeap} {Q : Option Value → AHeap → Prop} {l0 l1 l2 l3 l4 l5 l6 l7 l8 l9 l10 l11 l12 l13 l14 l16 l17 : Slot} {x : Int32} (h : W0 rm 244 [l0, l1, l2, l3, l4, l5, l6, l7, l8, l9, l10, l11, l12, l13, .unset, .val (.int x), l16, l17] (S) (H) Q) : W0 rm 242 [l0, l1, l2, l3, l4, l5, l6, l7, l8, l9, l10, l11, l12, l13, l14, .second, l16, l17] (.int x :: S) H Q := W.istoreS at_242 rfl (by decide) h
theorem s0_244 {rm : Room} {S : List Value} {H : AHeap} {Q : Option Value → AHeap → Prop} {l0 l1 l2 l3 l4 l5 l6 l7 l8 l9 l10 l11 l12 l13 l14 l16 l17 : Slot} {x : Int32} (h : W0 rm 246 [l0, l1, l2, l3, l4, l5, l6, l7, l8, l9, l10, l11, l12, l13, l14, .val (.int x), l16, l17] (.int x :: S) (H) Q) : W0 rm 244 [l0, l1, l2, l3, l4, l5, l6, l7, l8, l9, l10, l11, l12, l13, l14, .val (.int x), l16, l17] (S) H Q := W.iload at_244 rfl h
theorem s0_246 {rm : Room} {S : List Value} {H : AHeap} {Q : Option Value → AHeap → Prop} {l0 l1 l2 l3 l4 l5 l6 l7 l8 l9 l10 l11 l12 l13 l14 l15 l16 l17 : Slot} {x : Int32} (h1 : x = 0 → W0 rm 281 [l0, l1, l2, l3, l4, l5, l6, l7, l8, l9, l10, l11, l12, l13, l14, l15, l16, l17] S H Q) (h2 : ¬ x = 0 → W0 rm 249 [l0, l1, l2, l3, l4, l5, l6, l7, l8, l9, l10, l11, l12, l13, l14, l15, l16, l17] S H Q) : W0 rm 246 [l0, l1, l2, l3, l4, l5, l6, l7, l8, l9, l10, l11, l12, l13, l14, l15, l16, l17] (.int x :: S) H Q := W.ifc at_246 (by decide) (by decide) h1 h2
theorem s0_249 {rm : Room} {S : List Value} {H : AHeap} {Q : Option Value → AHeap → Prop} {l0 l1 l2 l3 l4 l5 l6 l7 l8 l9 l10 l11 l12 l13 l15 l16 l17 : Slot} {i : Nat} (h : W0 rm 251 [l0, l1, l2, l3, l4, l5, l6, l7, l8, l9, l10, l11, l12, l13, .val (.ref i), l15, l16, l17] (.ref i :: S) (H) Q) : W0 rm 249 [l0, l1, l2, l3, l4, l5, l6, l7, l8, l9, l10, l11, l12, l13, .val (.ref i), l15, l16, l17] (S) H Q := W.aload at_249 rfl rfl h
theorem s0_249n {rm : Room} {S : List Value} {H : AHeap} {Q : Option Value → AHeap → Prop} {l0 l1 l2 l3 l4 l5 l6 l7 l8 l9 l10 l11 l12 l13 l15 l16 l17 : Slot}  (h : W0 rm 251 [l0, l1, l2, l3, l4, l5, l6, l7, l8, l9, l10, l11, l12, l13, .val .null, l15, l16, l17] (.null :: S) (H) Q) : W0 rm 249 [l0, l1, l2, l3, l4, l5, l6, l7, l8, l9, l10, l11, l12, l13, .val .null, l15, l16, l17] (S) H Q := W.aload at_249 rfl rfl h
theorem s0_251 {rm : Room} {S : List Value} {H : AHeap} {Q : Option Value → AHeap → Prop} {l0 l1 l2 l3 l4 l5 l6 l7 l8 l10 l11 l12 l13 l14 l15 l16 l17 : Slot} {i : Nat} (h : W0 rm 253 [l0, l1, l2, l3, l4, l5, l6, l7, l8, .val (.ref i), l10, l11, l12, l13, l14, l15, l16, l17] (.ref i :: S) (H) Q) : W0 rm 251 [l0, l1, l2, l3, l4, l5, l6, l7, l8, .val (.ref i), l10, l11, l12, l13, l14, l15, l16, l17] (S) H Q := W.aload at_251 rfl rfl h
theorem s0_251n {rm : Room} {S : List Value} {H : AHeap} {Q : Option Value → AHeap → Prop} {l0 l1 l2 l3 l4 l5 l6 l7 l8 l10 l11 l12 l13 l14 l15 l16 l17 : Slot}  (h : W0 rm 253 [l0, l1, l2, l3, l4, l5, l6, l7, l8, .val .null, l10, l11, l12, l13, l14, l15, l16, l17] (.null :: S) (H) Q) : W0 rm 251 [l0, l1, l2, l3, l4, l5, l6, l7, l8, .val .null, l10, l11, l12, l13, l14, l15, l16, l17] (S) H Q := W.aload at_251 rfl rfl h
theorem s0_253 {rm : Room} {S : List Value} {H : AHeap} {Q : Option Value → AHeap → Prop} {l0 l1 l2 l3 l4 l5 l6 l7 l8 l9 l10 l11 l12 l13 l14 l15 l16 l17 : Slot}  (h : W0 rm 254 [l0, l1, l2, l3, l4, l5, l6, l7, l8, l9, l10, l11, l12, l13, l14, l15, l16, l17] (.int 2 :: S) (H) Q) : W0 rm 253 [l0, l1, l2, l3, l4, l5, l6, l7, l8, l9, l10, l11, l12, l13, l14, l15, l16, l17] (S) H Q := W.iconst' at_253 (by decide) h
theorem s0_254 {rm : Room} {S : List Value} {H : AHeap} {Q : Option Value → AHeap → Prop} {l0 l1 l2 l3 l4 l5 l6 l7 l8 l9 l10 l11 l12 l13 l14 l15 l16 l17 : Slot} {i : Nat} {j : Int32} {vs : List Value} {v : Value} (N : Nat) (hH : H[i]? = some (.inr (.int, vs))) (hj : ix j N) (hv : vs[N]? = some v) (h : W0 rm 255 [l0, l1, l2, l3, l4, l5, l6, l7, l8, l9, l10, l11, l12, l13, l14, l15, l16, l17] (v :: S) (H) Q) : W0 rm 254 [l0, l1, l2, l3, l4, l5, l6, l7, l8, l9, l10, l11, l12, l13, l14, l15, l16, l17] (.int j :: .ref i :: S) H Q := W.xaload (Or.inl ⟨rfl, rfl⟩) at_254 hH hj hv h
theorem s0_255 {rm : Room} {S : List Value} {H : AHeap} {Q : Option Value → AHeap → Prop} {l0 l1 l2 l3 l4 l5 l6 l7 l8 l9 l10 l11 l12 l13 l14 l15 l16 l17 : Slot} {rm' : Room} {H' : AHeap} {i : Nat} {vs : List Value} {a0 : Int32} {r : Int64} (hH : H[i]? = some (.inl (0, vs))) (hM : M4 rm' [.ref i, .int a0] H (Is (some (.long r)) H')) (hr : rok rm rm' 3 S = true) (h : W0 (less rm rm') 258 [l0, l1, l2, l3, l4, l5, l6, l7, l8, l9, l10, l11, l12, l13, l14, l15, l16, l17] (.long r :: S) H' Q) : W0 rm 255 [l0, l1, l2, l3, l4, l5, l6, l7, l8, l9, l10, l11, l12, l13, l14, l15, l16, l17] (.int a0 :: .ref i :: S) H Q := W.callV (c := 0) (S := S) (as := [.int a0]) (rm' := rm') at_255 (List.mem_of_getElem? (i := 30) rfl) (List.mem_of_getElem? (i := 31) rfl) (List.mem_of_getElem? (i := 33) rfl) (Or.inl rfl) kt (List.mem_of_getElem? (i := 32) rfl) (List.mem_of_getElem? (i := 7) rfl) (List.mem_of_getElem? (i := 34) rfl) (by decide) rfl pd4 rfl rfl hH hM hr (fun _ _ q => by obtain ⟨rfl, rfl⟩ := q; exact h)
theorem s0_255q {rm : Room} {S : List Value} {H : AHeap} {Q : Option Value → AHeap → Prop} {l0 l1 l2 l3 l4 l5 l6 l7 l8 l9 l10 l11 l12 l13 l14 l15 l16 l17 : Slot} {rm' : Room} {Q' : Option Value → AHeap → Prop} {i : Nat} {vs : List Value} {a0 : Value} (hH : H[i]? = some (.inl (0, vs))) (hM : M4 rm' [.ref i, a0] H Q') (hr : rok rm rm' 3 S = true) (h : ∀ v H', Q' v H' → W0 (less rm rm') 258 [l0, l1, l2, l3, l4, l5, l6, l7, l8, l9, l10, l11, l12, l13, l14, l15, l16, l17] (v.toList ++ S) H' Q) : W0 rm 255 [l0, l1, l2, l3, l4, l5, l6, l7, l8, l9, l10, l11, l12, l13, l14, l15, l16, l17] (a0 :: .ref i :: S) H Q := W.callV (c := 0) (S := S) (as := [a0]) (rm' := rm') at_255 (List.mem_of_getElem? (i := 30) rfl) (List.mem_of_getElem? (i := 31) rfl) (List.mem_of_getElem? (i := 33) rfl) (Or.inl rfl) kt (List.mem_of_getElem? (i := 32) rfl) (List.mem_of_getElem? (i := 7) rfl) (List.mem_of_getElem? (i := 34) rfl) (by decide) rfl pd4 rfl rfl hH hM hr h
theorem s0_258 {rm : Room} {S : List Value} {H : AHeap} {Q : Option Value → AHeap → Prop} {l0 l1 l2 l3 l4 l5 l6 l7 l8 l9 l10 l11 l12 l13 l14 l15 l16 l17 : Slot}  (h : W0 rm 259 [l0, l1, l2, l3, l4, l5, l6, l7, l8, l9, l10, l11, l12, l13, l14, l15, l16, l17] (.int 2 :: S) (H) Q) : W0 rm 258 [l0, l1, l2, l3, l4, l5, l6, l7, l8, l9, l10, l11, l12, l13, l14, l15, l16, l17] (S) H Q := W.iconst' at_258 (by decide) h
theorem s0_259 {rm : Room} {S : List Value} {H : AHeap} {Q : Option Value → AHeap → Prop} {l0 l1 l2 l3 l4 l5 l6 l7 l8 l9 l10 l11 l13 l14 l15 l16 l17 : Slot} {x : Int32} (h : W0 rm 261 [l0, l1, l2, l3, l4, l5, l6, l7, l8, l9, l10, l11, .val (.int x), l13, l14, l15, l16, l17] (.int x :: S) (H) Q) : W0 rm 259 [l0, l1, l2, l3, l4, l5, l6, l7, l8, l9, l10, l11, .val (.int x), l13, l14, l15, l16, l17] (S) H Q := W.iload at_259 rfl h
theorem s0_261 {rm : Room} {S : List Value} {H : AHeap} {Q : Option Value → AHeap → Prop} {l0 l1 l2 l3 l4 l5 l6 l7 l8 l9 l11 l12 l13 l14 l15 l16 l17 : Slot} {x : Int32} (h : W0 rm 263 [l0, l1, l2, l3, l4, l5, l6, l7, l8, l9, .val (.int x), l11, l12, l13, l14, l15, l16, l17] (.int x :: S) (H) Q) : W0 rm 261 [l0, l1, l2, l3, l4, l5, l6, l7, l8, l9, .val (.int x), l11, l12, l13, l14, l15, l16, l17] (S) H Q := W.iload at_261 rfl h
theorem s0_263 {rm : Room} {S : List Value} {H : AHeap} {Q : Option Value → AHeap → Prop} {l0 l1 l3 l4 l5 l6 l7 l8 l9 l10 l11 l12 l13 l14 l15 l16 l17 : Slot} {x : Int64} (h : W0 rm 264 [l0, l1, .val (.long x), l3, l4, l5, l6, l7, l8, l9, l10, l11, l12, l13, l14, l15, l16, l17] (.long x :: S) (H) Q) : W0 rm 263 [l0, l1, .val (.long x), l3, l4, l5, l6, l7, l8, l9, l10, l11, l12, l13, l14, l15, l16, l17] (S) H Q := W.lload_n at_263 rfl h
theorem s0_264 {rm : Room} {S : List Value} {H : AHeap} {Q : Option Value → AHeap → Prop} {l0 l1 l2 l3 l4 l5 l6 l7 l8 l9 l10 l11 l12 l14 l15 l16 l17 : Slot} {x : Int32} (h : W0 rm 266 [l0, l1, l2, l3, l4, l5, l6, l7, l8, l9, l10, l11, l12, .val (.int x), l14, l15, l16, l17] (.int x :: S) (H) Q) : W0 rm 264 [l0, l1, l2, l3, l4, l5, l6, l7, l8, l9, l10, l11, l12, .val (.int x), l14, l15, l16, l17] (S) H Q := W.iload at_264 rfl h
theorem s0_266 {rm : Room} {S : List Value} {H : AHeap} {Q : Option Value → AHeap → Prop} {l0 l1 l2 l3 l4 l5 l6 l7 l8 l9 l10 l12 l13 l14 l15 l16 l17 : Slot} {x : Int32} (h : W0 rm 268 [l0, l1, l2, l3, l4, l5, l6, l7, l8, l9, l10, .val (.int x), l12, l13, l14, l15, l16, l17] (.int x :: S) (H) Q) : W0 rm 266 [l0, l1, l2, l3, l4, l5, l6, l7, l8, l9, l10, .val (.int x), l12, l13, l14, l15, l16, l17] (S) H Q := W.iload at_266 rfl h
theorem s0_268 {rm : Room} {S : List Value} {H : AHeap} {Q : Option Value → AHeap → Prop} {l0 l1 l2 l3 l5 l6 l7 l8 l9 l10 l11 l12 l13 l14 l15 l16 l17 : Slot} {x : Int64} (h : W0 rm 270 [l0, l1, l2, l3, .val (.long x), l5, l6, l7, l8, l9, l10, l11, l12, l13, l14, l15, l16, l17] (.long x :: S) (H) Q) : W0 rm 268 [l0, l1, l2, l3, .val (.long x), l5, l6, l7, l8, l9, l10, l11, l12, l13, l14, l15, l16, l17] (S) H Q := W.lload at_268 rfl h
theorem s0_270 {rm : Room} {S : List Value} {H : AHeap} {Q : Option Value → AHeap → Prop} {l0 l1 l2 l3 l4 l5 l6 l7 l8 l9 l10 l11 l12 l13 l14 l15 l16 l17 : Slot} {rm' : Room} {H' : AHeap} {a0 : Int32} {a1 : Int32} {a2 : Int32} {a3 : Int64} {a4 : Int32} {a5 : Int32} {a6 : Int64} {r : Int64} (hM : M5 rm' [.int a0, .int a1, .int a2, .long a3, .int a4, .int a5, .long a6] H (Is (some (.long r)) H')) (hr : rok rm rm' 11 S = true) (h : W0 (less rm rm') 273 [l0, l1, l2, l3, l4, l5, l6, l7, l8, l9, l10, l11, l12, l13, l14, l15, l16, l17] (.long r :: S) H' Q) : W0 rm 270 [l0, l1, l2, l3, l4, l5, l6, l7, l8, l9, l10, l11, l12, l13, l14, l15, l16, l17] (.long a6 :: .int a5 :: .int a4 :: .long a3 :: .int a2 :: .int a1 :: .int a0 :: S) H Q := W.callS (S := S) (as := [.int a0, .int a1, .int a2, .long a3, .int a4, .int a5, .long a6]) (rm' := rm') at_270 (List.mem_of_getElem? (i := 35) rfl) (List.mem_of_getElem? (i := 36) rfl) (List.mem_of_getElem? (i := 3) rfl) (List.mem_of_getElem? (i := 37) rfl) (by decide) pd5 rfl rfl hM hr (fun _ _ q => by obtain ⟨rfl, rfl⟩ := q; exact h)
theorem s0_270q {rm : Room} {S : List Value} {H : AHeap} {Q : Option Value → AHeap → Prop} {l0 l1 l2 l3 l4 l5 l6 l7 l8 l9 l10 l11 l12 l13 l14 l15 l16 l17 : Slot} {rm' : Room} {Q' : Option Value → AHeap → Prop} {a0 a1 a2 a3 a4 a5 a6 : Value} (hM : M5 rm' [a0, a1, a2, a3, a4, a5, a6] H Q') (hr : rok rm rm' 11 S = true) (h : ∀ v H', Q' v H' → W0 (less rm rm') 273 [l0, l1, l2, l3, l4, l5, l6, l7, l8, l9, l10, l11, l12, l13, l14, l15, l16, l17] (v.toList ++ S) H' Q) : W0 rm 270 [l0, l1, l2, l3, l4, l5, l6, l7, l8, l9, l10, l11, l12, l13, l14, l15, l16, l17] (a6 :: a5 :: a4 :: a3 :: a2 :: a1 :: a0 :: S) H Q := W.callS (S := S) (as := [a0, a1, a2, a3, a4, a5, a6]) (rm' := rm') at_270 (List.mem_of_getElem? (i := 35) rfl) (List.mem_of_getElem? (i := 36) rfl) (List.mem_of_getElem? (i := 3) rfl) (List.mem_of_getElem? (i := 37) rfl) (by decide) pd5 rfl rfl hM hr h
theorem s0_274 {rm : Room} {S : List Value} {H : AHeap} {Q : Option Value → AHeap → Prop} {l0 l1 l2 l3 l4 l5 l6 l7 l8 l9 l10 l11 l12 l13 l14 l15 l16 l17 : Slot} {x : Int32} (h1 : ¬ x = 0 → W0 rm 281 [l0, l1, l2, l3, l4, l5, l6, l7, l8, l9, l10, l11, l12, l13, l14, l15, l16, l17] S H Q) (h2 : x = 0 → W0 rm 277 [l0, l1, l2, l3, l4, l5, l6, l7, l8, l9, l10, l11, l12, l13, l14, l15, l16, l17] S H Q) : W0 rm 274 [l0, l1, l2, l3, l4, l5, l6, l7, l8, l9, l10, l11, l12, l13, l14, l15, l16, l17] (.int x :: S) H Q := W.ifc at_274 (by decide) (by decide) h1 h2
theorem s0_273c {rm : Room} {S : List Value} {H : AHeap} {Q : Option Value → AHeap → Prop} {l0 l1 l2 l3 l4 l5 l6 l7 l8 l9 l10 l11 l12 l13 l14 l15 l16 l17 : Slot} {x y : Int64} (h1 : ¬ x = y → W0 rm 281 [l0, l1, l2, l3, l4, l5, l6, l7, l8, l9, l10, l11, l12, l13, l14, l15, l16, l17] S H Q) (h2 : x = y → W0 rm 277 [l0, l1, l2, l3, l4, l5, l6, l7, l8, l9, l10, l11, l12, l13, l14, l15, l16, l17] S H Q) : W0 rm 273 [l0, l1, l2, l3, l4, l5, l6, l7, l8, l9, l10, l11, l12, l13, l14, l15, l16, l17] (.long y :: .long x :: S) H Q := W.lcif at_273 rfl at_274 (by decide) (by decide) h1 h2
theorem s0_277 {rm : Room} {S : List Value} {H : AHeap} {Q : Option Value → AHeap → Prop} {l0 l1 l2 l3 l4 l5 l6 l7 l8 l9 l10 l11 l12 l13 l14 l15 l16 l17 : Slot}  (h : W0 rm 278 [l0, l1, l2, l3, l4, l5, l6, l7, l8, l9, l10, l11, l12, l13, l14, l15, l16, l17] (.int 1 :: S) (H) Q) : W0 rm 277 [l0, l1, l2, l3, l4, l5, l6, l7, l8, l9, l10, l11, l12, l13, l14, l15, l16, l17] (S) H Q := W.iconst' at_277 (by decide) h
theorem s0_278 {rm : Room} {S : List Value} {H : AHeap} {Q : Option Value → AHeap → Prop} {l0 l1 l2 l3 l4 l5 l6 l7 l8 l9 l10 l11 l12 l13 l14 l15 l16 l17 : Slot}  (h : W0 rm 282 [l0, l1, l2, l3, l4, l5, l6, l7, l8, l9, l10, l11, l12, l13, l14, l15, l16, l17] (S) (H) Q) : W0 rm 278 [l0, l1, l2, l3, l4, l5, l6, l7, l8, l9, l10, l11, l12, l13, l14, l15, l16, l17] (S) H Q := W.goto at_278 (by decide) (by decide) h
theorem s0_281 {rm : Room} {S : List Value} {H : AHeap} {Q : Option Value → AHeap → Prop} {l0 l1 l2 l3 l4 l5 l6 l7 l8 l9 l10 l11 l12 l13 l14 l15 l16 l17 : Slot}  (h : W0 rm 282 [l0, l1, l2, l3, l4, l5, l6, l7, l8, l9, l10, l11, l12, l13, l14, l15, l16, l17] (.int 0 :: S) (H) Q) : W0 rm 281 [l0, l1, l2, l3, l4, l5, l6, l7, l8, l9, l10, l11, l12, l13, l14, l15, l16, l17] (S) H Q := W.iconst' at_281 (by decide) h
theorem s0_282 {rm : Room} {S : List Value} {H : AHeap} {Q : Option Value → AHeap → Prop} {l0 l1 l2 l3 l4 l5 l6 l7 l8 l9 l10 l11 l12 l13 l14 l15 l16 l17 : Slot} {x : Int32} (ho : one l15 = true) (h : W0 rm 284 [l0, l1, l2, l3, l4, l5, l6, l7, l8, l9, l10, l11, l12, l13, l14, .val (.int x), l16, l17] (S) (H) Q) : W0 rm 282 [l0, l1, l2, l3, l4, l5, l6, l7, l8, l9, l10, l11, l12, l13, l14, l15, l16, l17] (.int x :: S) H Q := W.istore at_282 rfl ho h
theorem s0_282w {rm : Room} {S : List Value} {H : AHeap} {Q : Option Value → AHeap → Prop} {l0 l1 l2 l3 l4 l5 l6 l7 l8 l9 l10 l11 l12 l13 l14 l16 l17 : Slot} {w : Value} {x : Int32} (ho : w.category = 2) (h : W0 rm 284 [l0, l1, l2, l3, l4, l5, l6, l7, l8, l9, l10, l11, l12, l13, l14, .val (.int x), .unset, l17] (S) (H) Q) : W0 rm 282 [l0, l1, l2, l3, l4, l5, l6, l7, l8, l9, l10, l11, l12, l13, l14, .val w, l16, l17] (.int x :: S) H Q := W.istoreW at_282 rfl ho (Nat.le_of_ble_eq_true rfl) h
theorem s0_282s {rm : Room} {S : List Value} {H : AHeap} {Q : Option Value → AHeap → Prop} {l0 l1 l2 l3 l4 l5 l6 l7 l8 l9 l10 l11 l12 l13 l14 l16 l17 : Slot} {x : Int32} (h : W0 rm 284 [l0, l1, l2, l3, l4, l5, l6, l7, l8, l9, l10, l11, l12, l13, .unset, .val (.int x), l16, l17] (S) (H) Q) : W0 rm 282 [l0, l1, l2, l3, l4, l5, l6, l7, l8, l9, l10, l11, l12, l13, l14, .second, l16, l17] (.int x :: S) H Q := W.istoreS at_282 rfl (by decide) h
theorem s0_284 {rm : Room} {S : List Value} {H : AHeap} {Q : Option Value → AHeap → Prop} {l0 l1 l2 l3 l4 l5 l6 l7 l8 l9 l10 l11 l12 l13 l14 l15 l16 l17 : Slot}  (h : W0 rm 285 [l0, l1, l2, l3, l4, l5, l6, l7, l8, l9, l10, l11, l12, l13, l14, l15, l16, l17] (.int 3 :: S) (H) Q) : W0 rm 284 [l0, l1, l2, l3, l4, l5, l6, l7, l8, l9, l10, l11, l12, l13, l14, l15, l16, l17] (S) H Q := W.iconst' at_284 (by decide) h
theorem s0_285 {rm : Room} {S : List Value} {H : AHeap} {Q : Option Value → AHeap → Prop} {l0 l1 l2 l3 l4 l5 l6 l7 l8 l9 l10 l11 l13 l14 l15 l16 l17 : Slot} {x : Int32} (h : W0 rm 287 [l0, l1, l2, l3, l4, l5, l6, l7, l8, l9, l10, l11, .val (.int x), l13, l14, l15, l16, l17] (.int x :: S) (H) Q) : W0 rm 285 [l0, l1, l2, l3, l4, l5, l6, l7, l8, l9, l10, l11, .val (.int x), l13, l14, l15, l16, l17] (S) H Q := W.iload at_285 rfl h
theorem s0_287 {rm : Room} {S : List Value} {H : AHeap} {Q : Option Value → AHeap → Prop} {l0 l1 l2 l3 l4 l5 l6 l7 l8 l9 l11 l12 l13 l14 l15 l16 l17 : Slot} {x : Int32} (h : W0 rm 289 [l0, l1, l2, l3, l4, l5, l6, l7, l8, l9, .val (.int x), l11, l12, l13, l14, l15, l16, l17] (.int x :: S) (H) Q) : W0 rm 287 [l0, l1, l2, l3, l4, l5, l6, l7, l8, l9, .val (.int x), l11, l12, l13, l14, l15, l16, l17] (S) H Q := W.iload at_287 rfl h
theorem s0_289 {rm : Room} {S : List Value} {H : AHeap} {Q : Option Value → AHeap → Prop} {l0 l1 l3 l4 l5 l6 l7 l8 l9 l10 l11 l12 l13 l14 l15 l16 l17 : Slot} {x : Int64} (h : W0 rm 290 [l0, l1, .val (.long x), l3, l4, l5, l6, l7, l8, l9, l10, l11, l12, l13, l14, l15, l16, l17] (.long x :: S) (H) Q) : W0 rm 289 [l0, l1, .val (.long x), l3, l4, l5, l6, l7, l8, l9, l10, l11, l12, l13, l14, l15, l16, l17] (S) H Q := W.lload_n at_289 rfl h
theorem s0_290 {rm : Room} {S : List Value} {H : AHeap} {Q : Option Value → AHeap → Prop} {l0 l1 l2 l3 l4 l5 l6 l7 l8 l9 l10 l11 l12 l14 l15 l16 l17 : Slot} {x : Int32} (h : W0 rm 292 [l0, l1, l2, l3, l4, l5, l6, l7, l8, l9, l10, l11, l12, .val (.int x), l14, l15, l16, l17] (.int x :: S) (H) Q) : W0 rm 290 [l0, l1, l2, l3, l4, l5, l6, l7, l8, l9, l10, l11, l12, .val (.int x), l14, l15, l16, l17] (S) H Q := W.iload at_290 rfl h
theorem s0_292 {rm : Room} {S : List Value} {H : AHeap} {Q : Option Value → AHeap → Prop} {l0 l1 l2 l3 l4 l5 l6 l7 l8 l9 l10 l12 l13 l14 l15 l16 l17 : Slot} {x : Int32} (h : W0 rm 294 [l0, l1, l2, l3, l4, l5, l6, l7, l8, l9, l10, .val (.int x), l12, l13, l14, l15, l16, l17] (.int x :: S) (H) Q) : W0 rm 292 [l0, l1, l2, l3, l4, l5, l6, l7, l8, l9, l10, .val (.int x), l12, l13, l14, l15, l16, l17] (S) H Q := W.iload at_292 rfl h
theorem s0_294 {rm : Room} {S : List Value} {H : AHeap} {Q : Option Value → AHeap → Prop} {l0 l1 l2 l3 l5 l6 l7 l8 l9 l10 l11 l12 l13 l14 l15 l16 l17 : Slot} {x : Int64} (h : W0 rm 296 [l0, l1, l2, l3, .val (.long x), l5, l6, l7, l8, l9, l10, l11, l12, l13, l14, l15, l16, l17] (.long x :: S) (H) Q) : W0 rm 294 [l0, l1, l2, l3, .val (.long x), l5, l6, l7, l8, l9, l10, l11, l12, l13, l14, l15, l16, l17] (S) H Q := W.lload at_294 rfl h
theorem s0_296 {rm : Room} {S : List Value} {H : AHeap} {Q : Option Value → AHeap → Prop} {l0 l1 l2 l3 l4 l5 l6 l7 l8 l9 l10 l11 l12 l13 l14 l15 l16 l17 : Slot} {rm' : Room} {H' : AHeap} {a0 : Int32} {a1 : Int32} {a2 : Int32} {a3 : Int64} {a4 : Int32} {a5 : Int32} {a6 : Int64} {r : Int64} (hM : M5 rm' [.int a0, .int a1, .int a2, .long a3, .int a4, .int a5, .long a6] H (Is (some (.long r)) H')) (hr : rok rm rm' 11 S = true) (h : W0 (less rm rm') 299 [l0, l1, l2, l3, l4, l5, l6, l7, l8, l9, l10, l11, l12, l13, l14, l15, l16, l17] (.long r :: S) H' Q) : W0 rm 296 [l0, l1, l2, l3, l4, l5, l6, l7, l8, l9, l10, l11, l12, l13, l14, l15, l16, l17] (.long a6 :: .int a5 :: .int a4 :: .long a3 :: .int a2 :: .int a1 :: .int a0 :: S) H Q := W.callS (S := S) (as := [.int a0, .int a1, .int a2, .long a3, .int a4, .int a5, .long a6]) (rm' := rm') at_296 (List.mem_of_getElem? (i := 35) rfl) (List.mem_of_getElem? (i := 36) rfl) (List.mem_of_getElem? (i := 3) rfl) (List.mem_of_getElem? (i := 37) rfl) (by decide) pd5 rfl rfl hM hr (fun _ _ q => by obtain ⟨rfl, rfl⟩ := q; exact h)
theorem s0_296q {rm : Room} {S : List Value} {H : AHeap} {Q : Option Value → AHeap → Prop} {l0 l1 l2 l3 l4 l5 l6 l7 l8 l9 l10 l11 l12 l13 l14 l15 l16 l17 : Slot} {rm' : Room} {Q' : Option Value → AHeap → Prop} {a0 a1 a2 a3 a4 a5 a6 : Value} (hM : M5 rm' [a0, a1, a2, a3, a4, a5, a6] H Q') (hr : rok rm rm' 11 S = true) (h : ∀ v H', Q' v H' → W0 (less rm rm') 299 [l0, l1, l2, l3, l4, l5, l6, l7, l8, l9, l10, l11, l12, l13, l14, l15, l16, l17] (v.toList ++ S) H' Q) : W0 rm 296 [l0, l1, l2, l3, l4, l5, l6, l7, l8, l9, l10, l11, l12, l13, l14, l15, l16, l17] (a6 :: a5 :: a4 :: a3 :: a2 :: a1 :: a0 :: S) H Q := W.callS (S := S) (as := [a0, a1, a2, a3, a4, a5, a6]) (rm' := rm') at_296 (List.mem_of_getElem? (i := 35) rfl) (List.mem_of_getElem? (i := 36) rfl) (List.mem_of_getElem? (i := 3) rfl) (List.mem_of_getElem? (i := 37) rfl) (by decide) pd5 rfl rfl hM hr h
theorem s0_299 {rm : Room} {S : List Value} {H : AHeap} {Q : Option Value → AHeap → Prop} {l0 l1 l2 l3 l4 l5 l6 l7 l8 l9 l10 l11 l12 l13 l14 l15 l16 l17 : Slot} {x : Int64} (ho : two l16 l17 = true) (h : W0 rm 301 [l0, l1, l2, l3, l4, l5, l6, l7, l8, l9, l10, l11, l12, l13, l14, l15, .val (.long x), .second] (S) (H) Q) : W0 rm 299 [l0, l1, l2, l3, l4, l5, l6, l7, l8, l9, l10, l11, l12, l13, l14, l15, l16, l17] (.long x :: S) H Q := W.lstore at_299 rfl rfl ho h
theorem s0_301 {rm : Room} {S : List Value} {H : AHeap} {Q : Option Value → AHeap → Prop} {l0 l1 l2 l3 l4 l5 l6 l7 l8 l9 l10 l11 l12 l13 l14 l16 l17 : Slot} {x : Int32} (h : W0 rm 303 [l0, l1, l2, l3, l4, l5, l6, l7, l8, l9, l10, l11, l12, l13, l14, .val (.int x), l16, l17] (.int x :: S) (H) Q) : W0 rm 301 [l0, l1, l2, l3, l4, l5, l6, l7, l8, l9, l10, l11, l12, l13, l14, .val (.int x), l16, l17] (S) H Q := W.iload at_301 rfl h
theorem s0_303 {rm : Room} {S : List Value} {H : AHeap} {Q : Option Value → AHeap → Prop} {l0 l1 l2 l3 l4 l5 l6 l7 l8 l9 l10 l11 l12 l13 l14 l15 l16 l17 : Slot} {x : Int32} (h1 : x = 0 → W0 rm 325 [l0, l1, l2, l3, l4, l5, l6, l7, l8, l9, l10, l11, l12, l13, l14, l15, l16, l17] S H Q) (h2 : ¬ x = 0 → W0 rm 306 [l0, l1, l2, l3, l4, l5, l6, l7, l8, l9, l10, l11, l12, l13, l14, l15, l16, l17] S H Q) : W0 rm 303 [l0, l1, l2, l3, l4, l5, l6, l7, l8, l9, l10, l11, l12, l13, l14, l15, l16, l17] (.int x :: S) H Q := W.ifc at_303 (by decide) (by decide) h1 h2
theorem s0_306 {rm : Room} {S : List Value} {H : AHeap} {Q : Option Value → AHeap → Prop} {l0 l1 l2 l3 l4 l5 l6 l7 l8 l9 l10 l11 l12 l13 l15 l16 l17 : Slot} {i : Nat} (h : W0 rm 308 [l0, l1, l2, l3, l4, l5, l6, l7, l8, l9, l10, l11, l12, l13, .val (.ref i), l15, l16, l17] (.ref i :: S) (H) Q) : W0 rm 306 [l0, l1, l2, l3, l4, l5, l6, l7, l8, l9, l10, l11, l12, l13, .val (.ref i), l15, l16, l17] (S) H Q := W.aload at_306 rfl rfl h
theorem s0_306n {rm : Room} {S : List Value} {H : AHeap} {Q : Option Value → AHeap → Prop} {l0 l1 l2 l3 l4 l5 l6 l7 l8 l9 l10 l11 l12 l13 l15 l16 l17 : Slot}  (h : W0 rm 308 [l0, l1, l2, l3, l4, l5, l6, l7, l8, l9, l10, l11, l12, l13, .val .null, l15, l16, l17] (.null :: S) (H) Q) : W0 rm 306 [l0, l1, l2, l3, l4, l5, l6, l7, l8, l9, l10, l11, l12, l13, .val .null, l15, l16, l17] (S) H Q := W.aload at_306 rfl rfl h
theorem s0_308 {rm : Room} {S : List Value} {H : AHeap} {Q : Option Value → AHeap → Prop} {l0 l1 l2 l3 l4 l5 l6 l7 l8 l10 l11 l12 l13 l14 l15 l16 l17 : Slot} {i : Nat} (h : W0 rm 310 [l0, l1, l2, l3, l4, l5, l6, l7, l8, .val (.ref i), l10, l11, l12, l13, l14, l15, l16, l17] (.ref i :: S) (H) Q) : W0 rm 308 [l0, l1, l2, l3, l4, l5, l6, l7, l8, .val (.ref i), l10, l11, l12, l13, l14, l15, l16, l17] (S) H Q := W.aload at_308 rfl rfl h
theorem s0_308n {rm : Room} {S : List Value} {H : AHeap} {Q : Option Value → AHeap → Prop} {l0 l1 l2 l3 l4 l5 l6 l7 l8 l10 l11 l12 l13 l14 l15 l16 l17 : Slot}  (h : W0 rm 310 [l0, l1, l2, l3, l4, l5, l6, l7, l8, .val .null, l10, l11, l12, l13, l14, l15, l16, l17] (.null :: S) (H) Q) : W0 rm 308 [l0, l1, l2, l3, l4, l5, l6, l7, l8, .val .null, l10, l11, l12, l13, l14, l15, l16, l17] (S) H Q := W.aload at_308 rfl rfl h
theorem s0_310 {rm : Room} {S : List Value} {H : AHeap} {Q : Option Value → AHeap → Prop} {l0 l1 l2 l3 l4 l5 l6 l7 l8 l9 l10 l11 l12 l13 l14 l15 l16 l17 : Slot}  (h : W0 rm 311 [l0, l1, l2, l3, l4, l5, l6, l7, l8, l9, l10, l11, l12, l13, l14, l15, l16, l17] (.int 3 :: S) (H) Q) : W0 rm 310 [l0, l1, l2, l3, l4, l5, l6, l7, l8, l9, l10, l11, l12, l13, l14, l15, l16, l17] (S) H Q := W.iconst' at_310 (by decide) h
theorem s0_311 {rm : Room} {S : List Value} {H : AHeap} {Q : Option Value → AHeap → Prop} {l0 l1 l2 l3 l4 l5 l6 l7 l8 l9 l10 l11 l12 l13 l14 l15 l16 l17 : Slot} {i : Nat} {j : Int32} {vs : List Value} {v : Value} (N : Nat) (hH : H[i]? = some (.inr (.int, vs))) (hj : ix j N) (hv : vs[N]? = some v) (h : W0 rm 312 [l0, l1, l2, l3, l4, l5, l6, l7, l8, l9, l10, l11, l12, l13, l14, l15, l16, l17] (v :: S) (H) Q) : W0 rm 311 [l0, l1, l2, l3, l4, l5, l6, l7, l8, l9, l10, l11, l12, l13, l14, l15, l16, l17] (.int j :: .ref i :: S) H Q := W.xaload (Or.inl ⟨rfl, rfl⟩) at_311 hH hj hv h
theorem s0_312 {rm : Room} {S : List Value} {H : AHeap} {Q : Option Value → AHeap → Prop} {l0 l1 l2 l3 l4 l5 l6 l7 l8 l9 l10 l11 l12 l13 l14 l15 l16 l17 : Slot} {rm' : Room} {H' : AHeap} {i : Nat} {vs : List Value} {a0 : Int32} {r : Int64} (hH : H[i]? = some (.inl (0, vs))) (hM : M4 rm' [.ref i, .int a0] H (Is (some (.long r)) H')) (hr : rok rm rm' 3 S = true) (h : W0 (less rm rm') 315 [l0, l1, l2, l3, l4, l5, l6, l7, l8, l9, l10, l11, l12, l13, l14, l15, l16, l17] (.long r :: S) H' Q) : W0 rm 312 [l0, l1, l2, l3, l4, l5, l6, l7, l8, l9, l10, l11, l12, l13, l14, l15, l16, l17] (.int a0 :: .ref i :: S) H Q := W.callV (c := 0) (S := S) (as := [.int a0]) (rm' := rm') at_312 (List.mem_of_getElem? (i := 30) rfl) (List.mem_of_getElem? (i := 31) rfl) (List.mem_of_getElem? (i := 33) rfl) (Or.inl rfl) kt (List.mem_of_getElem? (i := 32) rfl) (List.mem_of_getElem? (i := 7) rfl) (List.mem_of_getElem? (i := 34) rfl) (by decide) rfl pd4 rfl rfl hH hM hr (fun _ _ q => by obtain ⟨rfl, rfl⟩ := q; exact h)
theorem s0_312q {rm : Room} {S : List Value} {H : AHeap} {Q : Option Value → AHeap → Prop} {l0 l1 l2 l3 l4 l5 l6 l7 l8 l9 l10 l11 l12 l13 l14 l15 l16 l17 : Slot} {rm' : Room} {Q' : Option Value → AHeap → Prop} {i : Nat} {vs : List Value} {a0 : Value} (hH : H[i]? = some (.inl (0, vs))) (hM : M4 rm' [.ref i, a0] H Q') (hr : rok rm rm' 3 S = true) (h : ∀ v H', Q' v H' → W0 (less rm rm') 315 [l0, l1, l2, l3, l4, l5, l6, l7, l8, l9, l10, l11, l12, l13, l14, l15, l16, l17] (v.toList ++ S) H' Q) : W0 rm 312 [l0, l1, l2, l3, l4, l5, l6, l7, l8, l9, l10, l11, l12, l13, l14, l15, l16, l17] (a0 :: .ref i :: S) H Q := W.callV (c := 0) (S := S) (as := [a0]) (rm' := rm') at_312 (List.mem_of_getElem? (i := 30) rfl) (List.mem_of_getElem? (i := 31) rfl) (List.mem_of_getElem? (i := 33) rfl) (Or.inl rfl) kt (List.mem_of_getElem? (i := 32) rfl) (List.mem_of_getElem? (i := 7) rfl) (List.mem_of_getElem? (i := 34) rfl) (by decide) rfl pd4 rfl rfl hH hM hr h
theorem s0_315 {rm : Room} {S : List Value} {H : AHeap} {Q : Option Value → AHeap → Prop} {l0 l1 l2 l3 l4 l5 l6 l7 l8 l9 l10 l11 l12 l13 l14 l15 l17 : Slot} {x : Int64} (h : W0 rm 317 [l0, l1, l2, l3, l4, l5, l6, l7, l8, l9, l10, l11, l12, l13, l14, l15, .val (.long x), l17] (.long x :: S) (H) Q) : W0 rm 315 [l0, l1, l2, l3, l4, l5, l6, l7, l8, l9, l10, l11, l12, l13, l14, l15, .val (.long x), l17] (S) H Q := W.lload at_315 rfl h
theorem s0_318 {rm : Room} {S : List Value} {H : AHeap} {Q : Option Value → AHeap → Prop} {l0 l1 l2 l3 l4 l5 l6 l7 l8 l9 l10 l11 l12 l13 l14 l15 l16 l17 : Slot} {x : Int32} (h1 : ¬ x = 0 → W0 rm 325 [l0, l1, l2, l3, l4, l5, l6, l7, l8, l9, l10, l11, l12, l13, l14, l15, l16, l17] S H Q) (h2 : x = 0 → W0 rm 321 [l0, l1, l2, l3, l4, l5, l6, l7, l8, l9, l10, l11, l12, l13, l14, l15, l16, l17] S H Q) : W0 rm 318 [l0, l1, l2, l3, l4, l5, l6, l7, l8, l9, l10, l11, l12, l13, l14, l15, l16, l17] (.int x :: S) H Q := W.ifc at_318 (by decide) (by decide) h1 h2
theorem s0_317c {rm : Room} {S : List Value} {H : AHeap} {Q : Option Value → AHeap → Prop} {l0 l1 l2 l3 l4 l5 l6 l7 l8 l9 l10 l11 l12 l13 l14 l15 l16 l17 : Slot} {x y : Int64} (h1 : ¬ x = y → W0 rm 325 [l0, l1, l2, l3, l4, l5, l6, l7, l8, l9, l10, l11, l12, l13, l14, l15, l16, l17] S H Q) (h2 : x = y → W0 rm 321 [l0, l1, l2, l3, l4, l5, l6, l7, l8, l9, l10, l11, l12, l13, l14, l15, l16, l17] S H Q) : W0 rm 317 [l0, l1, l2, l3, l4, l5, l6, l7, l8, l9, l10, l11, l12, l13, l14, l15, l16, l17] (.long y :: .long x :: S) H Q := W.lcif at_317 rfl at_318 (by decide) (by decide) h1 h2
theorem s0_321 {rm : Room} {S : List Value} {H : AHeap} {Q : Option Value → AHeap → Prop} {l0 l1 l2 l3 l4 l5 l6 l7 l8 l9 l10 l11 l12 l13 l14 l15 l16 l17 : Slot}  (h : W0 rm 322 [l0, l1, l2, l3, l4, l5, l6, l7, l8, l9, l10, l11, l12, l13, l14, l15, l16, l17] (.int 1 :: S) (H) Q) : W0 rm 321 [l0, l1, l2, l3, l4, l5, l6, l7, l8, l9, l10, l11, l12, l13, l14, l15, l16, l17] (S) H Q := W.iconst' at_321 (by decide) h
theorem s0_322 {rm : Room} {S : List Value} {H : AHeap} {Q : Option Value → AHeap → Prop} {l0 l1 l2 l3 l4 l5 l6 l7 l8 l9 l10 l11 l12 l13 l14 l15 l16 l17 : Slot}  (h : W0 rm 326 [l0, l1, l2, l3, l4, l5, l6, l7, l8, l9, l10, l11, l12, l13, l14, l15, l16, l17] (S) (H) Q) : W0 rm 322 [l0, l1, l2, l3, l4, l5, l6, l7, l8, l9, l10, l11, l12, l13, l14, l15, l16, l17] (S) H Q := W.goto at_322 (by decide) (by decide) h
theorem s0_325 {rm : Room} {S : List Value} {H : AHeap} {Q : Option Value → AHeap → Prop} {l0 l1 l2 l3 l4 l5 l6 l7 l8 l9 l10 l11 l12 l13 l14 l15 l16 l17 : Slot}  (h : W0 rm 326 [l0, l1, l2, l3, l4, l5, l6, l7, l8, l9, l10, l11, l12, l13, l14, l15, l16, l17] (.int 0 :: S) (H) Q) : W0 rm 325 [l0, l1, l2, l3, l4, l5, l6, l7, l8, l9, l10, l11, l12, l13, l14, l15, l16, l17] (S) H Q := W.iconst' at_325 (by decide) h
theorem s0_326 {rm : Room} {S : List Value} {H : AHeap} {Q : Option Value → AHeap → Prop} {l0 l1 l2 l3 l4 l5 l6 l7 l8 l9 l10 l11 l12 l13 l14 l15 l16 l17 : Slot} {x : Int32} (ho : one l15 = true) (h : W0 rm 328 [l0, l1, l2, l3, l4, l5, l6, l7, l8, l9, l10, l11, l12, l13, l14, .val (.int x), l16, l17] (S) (H) Q) : W0 rm 326 [l0, l1, l2, l3, l4, l5, l6, l7, l8, l9, l10, l11, l12, l13, l14, l15, l16, l17] (.int x :: S) H Q := W.istore at_326 rfl ho h
theorem s0_326w {rm : Room} {S : List Value} {H : AHeap} {Q : Option Value → AHeap → Prop} {l0 l1 l2 l3 l4 l5 l6 l7 l8 l9 l10 l11 l12 l13 l14 l16 l17 : Slot} {w : Value} {x : Int32} (ho : w.category = 2) (h : W0 rm 328 [l0, l1, l2, l3, l4, l5, l6, l7, l8, l9, l10, l11, l12, l13, l14, .val (.int x), .unset, l17] (S) (H) Q) : W0 rm 326 [l0, l1, l2, l3, l4, l5, l6, l7, l8, l9, l10, l11, l12, l13, l14, .val w, l16, l17] (.int x :: S) H Q := W.istoreW at_326 rfl ho (Nat.le_of_ble_eq_true rfl) h
theorem s0_326s {rm : Room} {S : List Value} {H : AHeap} {Q : Option Value → AHeap → Prop} {l0 l1 l2 l3 l4 l5 l6 l7 l8 l9 l10 l11 l12 l13 l14 l16 l17 : Slot} {x : Int32} (h : W0 rm 328 [l0, l1, l2, l3, l4, l5, l6, l7, l8, l9, l10, l11, l12, l13, .unset, .val (.int x), l16, l17] (S) (H) Q) : W0 rm 326 [l0, l1, l2, l3, l4, l5, l6, l7, l8, l9, l10, l11, l12, l13, l14, .second, l16, l17] (.int x :: S) H Q := W.istoreS at_326 rfl (by decide) h
theorem s0_328 {rm : Room} {S : List Value} {H : AHeap} {Q : Option Value → AHeap → Prop} {l0 l1 l2 l3 l4 l5 l6 l7 l8 l9 l10 l11 l12 l13 l14 l16 l17 : Slot} {x : Int32} (h : W0 rm 330 [l0, l1, l2, l3, l4, l5, l6, l7, l8, l9, l10, l11, l12, l13, l14, .val (.int x), l16, l17] (.int x :: S) (H) Q) : W0 rm 328 [l0, l1, l2, l3, l4, l5, l6, l7, l8, l9, l10, l11, l12, l13, l14, .val (.int x), l16, l17] (S) H Q := W.iload at_328 rfl h
theorem s0_330 {rm : Room} {S : List Value} {H : AHeap} {Q : Option Value → AHeap → Prop} {l0 l1 l2 l3 l4 l5 l6 l7 l8 l9 l10 l11 l12 l13 l14 l15 l16 l17 : Slot} {x : Int32} (h1 : x = 0 → W0 rm 351 [l0, l1, l2, l3, l4, l5, l6, l7, l8, l9, l10, l11, l12, l13, l14, l15, l16, l17] S H Q) (h2 : ¬ x = 0 → W0 rm 333 [l0, l1, l2, l3, l4, l5, l6, l7, l8, l9, l10, l11, l12, l13, l14, l15, l16, l17] S H Q) : W0 rm 330 [l0, l1, l2, l3, l4, l5, l6, l7, l8, l9, l10, l11, l12, l13, l14, l15, l16, l17] (.int x :: S) H Q := W.ifc at_330 (by decide) (by decide) h1 h2
theorem s0_333 {rm : Room} {S : List Value} {H : AHeap} {Q : Option Value → AHeap → Prop} {l0 l1 l2 l3 l4 l5 l6 l7 l8 l9 l10 l11 l12 l13 l15 l16 l17 : Slot} {i : Nat} (h : W0 rm 335 [l0, l1, l2, l3, l4, l5, l6, l7, l8, l9, l10, l11, l12, l13, .val (.ref i), l15, l16, l17] (.ref i :: S) (H) Q) : W0 rm 333 [l0, l1, l2, l3, l4, l5, l6, l7, l8, l9, l10, l11, l12, l13, .val (.ref i), l15, l16, l17] (S) H Q := W.aload at_333 rfl rfl h
theorem s0_333n {rm : Room} {S : List Value} {H : AHeap} {Q : Option Value → AHeap → Prop} {l0 l1 l2 l3 l4 l5 l6 l7 l8 l9 l10 l11 l12 l13 l15 l16 l17 : Slot}  (h : W0 rm 335 [l0, l1, l2, l3, l4, l5, l6, l7, l8, l9, l10, l11, l12, l13, .val .null, l15, l16, l17] (.null :: S) (H) Q) : W0 rm 333 [l0, l1, l2, l3, l4, l5, l6, l7, l8, l9, l10, l11, l12, l13, .val .null, l15, l16, l17] (S) H Q := W.aload at_333 rfl rfl h
theorem s0_335 {rm : Room} {S : List Value} {H : AHeap} {Q : Option Value → AHeap → Prop} {l0 l1 l2 l3 l4 l5 l6 l7 l8 l9 l10 l11 l12 l13 l14 l15 l17 : Slot} {x : Int64} (h : W0 rm 337 [l0, l1, l2, l3, l4, l5, l6, l7, l8, l9, l10, l11, l12, l13, l14, l15, .val (.long x), l17] (.long x :: S) (H) Q) : W0 rm 335 [l0, l1, l2, l3, l4, l5, l6, l7, l8, l9, l10, l11, l12, l13, l14, l15, .val (.long x), l17] (S) H Q := W.lload at_335 rfl h
theorem s0_337 {rm : Room} {S : List Value} {H : AHeap} {Q : Option Value → AHeap → Prop} {l0 l1 l2 l3 l4 l5 l6 l7 l8 l9 l10 l11 l12 l13 l14 l15 l16 l17 : Slot} {rm' : Room} {H' : AHeap} {i : Nat} {vs : List Value} {a0 : Int64} {r : Int32} (hH : H[i]? = some (.inl (0, vs))) (hM : M6 rm' [.ref i, .long a0] H (Is (some (.int r)) H')) (hr : rok rm rm' 5 S = true) (h : W0 (less rm rm') 340 [l0, l1, l2, l3, l4, l5, l6, l7, l8, l9, l10, l11, l12, l13, l14, l15, l16, l17] (.int r :: S) H' Q) : W0 rm 337 [l0, l1, l2, l3, l4, l5, l6, l7, l8, l9, l10, l11, l12, l13, l14, l15, l16, l17] (.long a0 :: .ref i :: S) H Q := W.callV (c := 0) (S := S) (as := [.long a0]) (rm' := rm') at_337 (List.mem_of_getElem? (i := 38) rfl) (List.mem_of_getElem? (i := 39) rfl) (List.mem_of_getElem? (i := 41) rfl) (Or.inl rfl) kt (List.mem_of_getElem? (i := 40) rfl) (List.mem_of_getElem? (i := 7) rfl) (List.mem_of_getElem? (i := 42) rfl) (by decide) rfl pd6 rfl rfl hH hM hr (fun _ _ q => by obtain ⟨rfl, rfl⟩ := q; exact h)
theorem s0_337q {rm : Room} {S : List Value} {H : AHeap} {Q : Option Value → AHeap → Prop} {l0 l1 l2 l3 l4 l5 l6 l7 l8 l9 l10 l11 l12 l13 l14 l15 l16 l17 : Slot} {rm' : Room} {Q' : Option Value → AHeap → Prop} {i : Nat} {vs : List Value} {a0 : Value} (hH : H[i]? = some (.inl (0, vs))) (hM : M6 rm' [.ref i, a0] H Q') (hr : rok rm rm' 5 S = true) (h : ∀ v H', Q' v H' → W0 (less rm rm') 340 [l0, l1, l2, l3, l4, l5, l6, l7, l8, l9, l10, l11, l12, l13, l14, l15, l16, l17] (v.toList ++ S) H' Q) : W0 rm 337 [l0, l1, l2, l3, l4, l5, l6, l7, l8, l9, l10, l11, l12, l13, l14, l15, l16, l17] (a0 :: .ref i :: S) H Q := W.callV (c := 0) (S := S) (as := [a0]) (rm' := rm') at_337 (List.mem_of_getElem? (i := 38) rfl) (List.mem_of_getElem? (i := 39) rfl) (List.mem_of_getElem? (i := 41) rfl) (Or.inl rfl) kt (List.mem_of_getElem? (i := 40) rfl) (List.mem_of_getElem? (i := 7) rfl) (List.mem_of_getElem? (i := 42) rfl) (by decide) rfl pd6 rfl rfl hH hM hr h
theorem s0_340 {rm : Room} {S : List Value} {H : AHeap} {Q : Option Value → AHeap → Prop} {l0 l1 l2 l3 l4 l5 l6 l7 l8 l10 l11 l12 l13 l14 l15 l16 l17 : Slot} {i : Nat} (h : W0 rm 342 [l0, l1, l2, l3, l4, l5, l6, l7, l8, .val (.ref i), l10, l11, l12, l13, l14, l15, l16, l17] (.ref i :: S) (H) Q) : W0 rm 340 [l0, l1, l2, l3, l4, l5, l6, l7, l8, .val (.ref i), l10, l11, l12, l13, l14, l15, l16, l17] (S) H Q := W.aload at_340 rfl rfl h
theorem s0_340n {rm : Room} {S : List Value} {H : AHeap} {Q : Option Value → AHeap → Prop} {l0 l1 l2 l3 l4 l5 l6 l7 l8 l10 l11 l12 l13 l14 l15 l16 l17 : Slot}  (h : W0 rm 342 [l0, l1, l2, l3, l4, l5, l6, l7, l8, .val .null, l10, l11, l12, l13, l14, l15, l16, l17] (.null :: S) (H) Q) : W0 rm 340 [l0, l1, l2, l3, l4, l5, l6, l7, l8, .val .null, l10, l11, l12, l13, l14, l15, l16, l17] (S) H Q := W.aload at_340 rfl rfl h
theorem s0_342 {rm : Room} {S : List Value} {H : AHeap} {Q : Option Value → AHeap → Prop} {l0 l1 l2 l3 l4 l5 l6 l7 l8 l9 l10 l11 l12 l13 l14 l15 l16 l17 : Slot}  (h : W0 rm 343 [l0, l1, l2, l3, l4, l5, l6, l7, l8, l9, l10, l11, l12, l13, l14, l15, l16, l17] (.int 3 :: S) (H) Q) : W0 rm 342 [l0, l1, l2, l3, l4, l5, l6, l7, l8, l9, l10, l11, l12, l13, l14, l15, l16, l17] (S) H Q := W.iconst' at_342 (by decide) h
theorem s0_343 {rm : Room} {S : List Value} {H : AHeap} {Q : Option Value → AHeap → Prop} {l0 l1 l2 l3 l4 l5 l6 l7 l8 l9 l10 l11 l12 l13 l14 l15 l16 l17 : Slot} {i : Nat} {j : Int32} {vs : List Value} {v : Value} (N : Nat) (hH : H[i]? = some (.inr (.int, vs))) (hj : ix j N) (hv : vs[N]? = some v) (h : W0 rm 344 [l0, l1, l2, l3, l4, l5, l6, l7, l8, l9, l10, l11, l12, l13, l14, l15, l16, l17] (v :: S) (H) Q) : W0 rm 343 [l0, l1, l2, l3, l4, l5, l6, l7, l8, l9, l10, l11, l12, l13, l14, l15, l16, l17] (.int j :: .ref i :: S) H Q := W.xaload (Or.inl ⟨rfl, rfl⟩) at_343 hH hj hv h
theorem s0_344 {rm : Room} {S : List Value} {H : AHeap} {Q : Option Value → AHeap → Prop} {l0 l1 l2 l3 l4 l5 l6 l7 l8 l9 l10 l11 l12 l13 l14 l15 l16 l17 : Slot} {x y : Int32} (h1 : ¬ x = y → W0 rm 351 [l0, l1, l2, l3, l4, l5, l6, l7, l8, l9, l10, l11, l12, l13, l14, l15, l16, l17] S H Q) (h2 : x = y → W0 rm 347 [l0, l1, l2, l3, l4, l5, l6, l7, l8, l9, l10, l11, l12, l13, l14, l15, l16, l17] S H Q) : W0 rm 344 [l0, l1, l2, l3, l4, l5, l6, l7, l8, l9, l10, l11, l12, l13, l14, l15, l16, l17] (.int y :: .int x :: S) H Q := W.icmp at_344 (by decide) (by decide) h1 h2
theorem s0_347 {rm : Room} {S : List Value} {H : AHeap} {Q : Option Value → AHeap → Prop} {l0 l1 l2 l3 l4 l5 l6 l7 l8 l9 l10 l11 l12 l13 l14 l15 l16 l17 : Slot}  (h : W0 rm 348 [l0, l1, l2, l3, l4, l5, l6, l7, l8, l9, l10, l11, l12, l13, l14, l15, l16, l17] (.int 1 :: S) (H) Q) : W0 rm 347 [l0, l1, l2, l3, l4, l5, l6, l7, l8, l9, l10, l11, l12, l13, l14, l15, l16, l17] (S) H Q := W.iconst' at_347 (by decide) h
theorem s0_348 {rm : Room} {S : List Value} {H : AHeap} {Q : Option Value → AHeap → Prop} {l0 l1 l2 l3 l4 l5 l6 l7 l8 l9 l10 l11 l12 l13 l14 l15 l16 l17 : Slot}  (h : W0 rm 352 [l0, l1, l2, l3, l4, l5, l6, l7, l8, l9, l10, l11, l12, l13, l14, l15, l16, l17] (S) (H) Q) : W0 rm 348 [l0, l1, l2, l3, l4, l5, l6, l7, l8, l9, l10, l11, l12, l13, l14, l15, l16, l17] (S) H Q := W.goto at_348 (by decide) (by decide) h
theorem s0_351 {rm : Room} {S : List Value} {H : AHeap} {Q : Option Value → AHeap → Prop} {l0 l1 l2 l3 l4 l5 l6 l7 l8 l9 l10 l11 l12 l13 l14 l15 l16 l17 : Slot}  (h : W0 rm 352 [l0, l1, l2, l3, l4, l5, l6, l7, l8, l9, l10, l11, l12, l13, l14, l15, l16, l17] (.int 0 :: S) (H) Q) : W0 rm 351 [l0, l1, l2, l3, l4, l5, l6, l7, l8, l9, l10, l11, l12, l13, l14, l15, l16, l17] (S) H Q := W.iconst' at_351 (by decide) h
theorem s0_352 {rm : Room} {S : List Value} {H : AHeap} {Q : Option Value → AHeap → Prop} {l0 l1 l2 l3 l4 l5 l6 l7 l8 l9 l10 l11 l12 l13 l14 l15 l16 l17 : Slot} {x : Int32} (ho : one l15 = true) (h : W0 rm 354 [l0, l1, l2, l3, l4, l5, l6, l7, l8, l9, l10, l11, l12, l13, l14, .val (.int x), l16, l17] (S) (H) Q) : W0 rm 352 [l0, l1, l2, l3, l4, l5, l6, l7, l8, l9, l10, l11, l12, l13, l14, l15, l16, l17] (.int x :: S) H Q := W.istore at_352 rfl ho h
theorem s0_352w {rm : Room} {S : List Value} {H : AHeap} {Q : Option Value → AHeap → Prop} {l0 l1 l2 l3 l4 l5 l6 l7 l8 l9 l10 l11 l12 l13 l14 l16 l17 : Slot} {w : Value} {x : Int32} (ho : w.category = 2) (h : W0 rm 354 [l0, l1, l2, l3, l4, l5, l6, l7, l8, l9, l10, l11, l12, l13, l14, .val (.int x), .unset, l17] (S) (H) Q) : W0 rm 352 [l0, l1, l2, l3, l4, l5, l6, l7, l8, l9, l10, l11, l12, l13, l14, .val w, l16, l17] (.int x :: S) H Q := W.istoreW at_352 rfl ho (Nat.le_of_ble_eq_true rfl) h
theorem s0_352s {rm : Room} {S : List Value} {H : AHeap} {Q : Option Value → AHeap → Prop} {l0 l1 l2 l3 l4 l5 l6 l7 l8 l9 l10 l11 l12 l13 l14 l16 l17 : Slot} {x : Int32} (h : W0 rm 354 [l0, l1, l2, l3, l4, l5, l6, l7, l8, l9, l10, l11, l12, l13, .unset, .val (.int x), l16, l17] (S) (H) Q) : W0 rm 352 [l0, l1, l2, l3, l4, l5, l6, l7, l8, l9, l10, l11, l12, l13, l14, .second, l16, l17] (.int x :: S) H Q := W.istoreS at_352 rfl (by decide) h
theorem s0_354 {rm : Room} {S : List Value} {H : AHeap} {Q : Option Value → AHeap → Prop} {l0 l1 l2 l3 l4 l5 l6 l7 l8 l9 l10 l11 l12 l13 l14 l16 l17 : Slot} {x : Int32} (h : W0 rm 356 [l0, l1, l2, l3, l4, l5, l6, l7, l8, l9, l10, l11, l12, l13, l14, .val (.int x), l16, l17] (.int x :: S) (H) Q) : W0 rm 354 [l0, l1, l2, l3, l4, l5, l6, l7, l8, l9, l10, l11, l12, l13, l14, .val (.int x), l16, l17] (S) H Q := W.iload at_354 rfl h
theorem s0_356 {rm : Room} {S : List Value} {H : AHeap} {Q : Option Value → AHeap → Prop} {l0 l1 l2 l3 l4 l5 l6 l7 l8 l9 l10 l11 l12 l13 l14 l15 l16 l17 : Slot} {x : Int32} (h1 : x = 0 → W0 rm 376 [l0, l1, l2, l3, l4, l5, l6, l7, l8, l9, l10, l11, l12, l13, l14, l15, l16, l17] S H Q) (h2 : ¬ x = 0 → W0 rm 359 [l0, l1, l2, l3, l4, l5, l6, l7, l8, l9, l10, l11, l12, l13, l14, l15, l16, l17] S H Q) : W0 rm 356 [l0, l1, l2, l3, l4, l5, l6, l7, l8, l9, l10, l11, l12, l13, l14, l15, l16, l17] (.int x :: S) H Q := W.ifc at_356 (by decide) (by decide) h1 h2
theorem s0_359 {rm : Room} {S : List Value} {H : AHeap} {Q : Option Value → AHeap → Prop} {l0 l1 l2 l3 l4 l5 l6 l7 l8 l9 l10 l11 l12 l13 l15 l16 l17 : Slot} {i : Nat} (h : W0 rm 361 [l0, l1, l2, l3, l4, l5, l6, l7, l8, l9, l10, l11, l12, l13, .val (.ref i), l15, l16, l17] (.ref i :: S) (H) Q) : W0 rm 359 [l0, l1, l2, l3, l4, l5, l6, l7, l8, l9, l10, l11, l12, l13, .val (.ref i), l15, l16, l17] (S) H Q := W.aload at_359 rfl rfl h
theorem s0_359n {rm : Room} {S : List Value} {H : AHeap} {Q : Option Value → AHeap → Prop} {l0 l1 l2 l3 l4 l5 l6 l7 l8 l9 l10 l11 l12 l13 l15 l16 l17 : Slot}  (h : W0 rm 361 [l0, l1, l2, l3, l4, l5, l6, l7, l8, l9, l10, l11, l12, l13, .val .null, l15, l16, l17] (.null :: S) (H) Q) : W0 rm 359 [l0, l1, l2, l3, l4, l5, l6, l7, l8, l9, l10, l11, l12, l13, .val .null, l15, l16, l17] (S) H Q := W.aload at_359 rfl rfl h
theorem s0_361 {rm : Room} {S : List Value} {H : AHeap} {Q : Option Value → AHeap → Prop} {l0 l1 l2 l3 l4 l5 l6 l7 l8 l9 l10 l11 l12 l13 l14 l15 l17 : Slot} {x : Int64} (h : W0 rm 363 [l0, l1, l2, l3, l4, l5, l6, l7, l8, l9, l10, l11, l12, l13, l14, l15, .val (.long x), l17] (.long x :: S) (H) Q) : W0 rm 361 [l0, l1, l2, l3, l4, l5, l6, l7, l8, l9, l10, l11, l12, l13, l14, l15, .val (.long x), l17] (S) H Q := W.lload at_361 rfl h
theorem s0_363 {rm : Room} {S : List Value} {H : AHeap} {Q : Option Value → AHeap → Prop} {l0 l1 l2 l3 l4 l5 l6 l7 l8 l9 l10 l11 l12 l13 l14 l15 l16 l17 : Slot}  (h : W0 rm 364 [l0, l1, l2, l3, l4, l5, l6, l7, l8, l9, l10, l11, l12, l13, l14, l15, l16, l17] (.long 1 :: S) (H) Q) : W0 rm 363 [l0, l1, l2, l3, l4, l5, l6, l7, l8, l9, l10, l11, l12, l13, l14, l15, l16, l17] (S) H Q := W.lconst' at_363 (by decide) h
theorem s0_364 {rm : Room} {S : List Value} {H : AHeap} {Q : Option Value → AHeap → Prop} {l0 l1 l2 l3 l4 l5 l6 l7 l8 l9 l10 l11 l12 l13 l14 l15 l16 l17 : Slot} {x y : Int64} (h : W0 rm 365 [l0, l1, l2, l3, l4, l5, l6, l7, l8, l9, l10, l11, l12, l13, l14, l15, l16, l17] (.long (x + y) :: S) (H) Q) : W0 rm 364 [l0, l1, l2, l3, l4, l5, l6, l7, l8, l9, l10, l11, l12, l13, l14, l15, l16, l17] (.long y :: .long x :: S) H Q := W.ladd at_364 h
theorem s0_365 {rm : Room} {S : List Value} {H : AHeap} {Q : Option Value → AHeap → Prop} {l0 l1 l2 l3 l4 l5 l6 l7 l8 l9 l10 l11 l12 l13 l14 l15 l16 l17 : Slot} {rm' : Room} {H' : AHeap} {i : Nat} {vs : List Value} {a0 : Int64} {r : Int32} (hH : H[i]? = some (.inl (0, vs))) (hM : M6 rm' [.ref i, .long a0] H (Is (some (.int r)) H')) (hr : rok rm rm' 5 S = true) (h : W0 (less rm rm') 368 [l0, l1, l2, l3, l4, l5, l6, l7, l8, l9, l10, l11, l12, l13, l14, l15, l16, l17] (.int r :: S) H' Q) : W0 rm 365 [l0, l1, l2, l3, l4, l5, l6, l7, l8, l9, l10, l11, l12, l13, l14, l15, l16, l17] (.long a0 :: .ref i :: S) H Q := W.callV (c := 0) (S := S) (as := [.long a0]) (rm' := rm') at_365 (List.mem_of_getElem? (i := 38) rfl) (List.mem_of_getElem? (i := 39) rfl) (List.mem_of_getElem? (i := 41) rfl) (Or.inl rfl) kt (List.mem_of_getElem? (i := 40) rfl) (List.mem_of_getElem? (i := 7) rfl) (List.mem_of_getElem? (i := 42) rfl) (by decide) rfl pd6 rfl rfl hH hM hr (fun _ _ q => by obtain ⟨rfl, rfl⟩ := q; exact h)
theorem s0_365q {rm : Room} {S : List Value} {H : AHeap} {Q : Option Value → AHeap → Prop} {l0 l1 l2 l3 l4 l5 l6 l7 l8 l9 l10 l11 l12 l13 l14 l15 l16 l17 : Slot} {rm' : Room} {Q' : Option Value → AHeap → Prop} {i : Nat} {vs : List Value} {a0 : Value} (hH : H[i]? = some (.inl (0, vs))) (hM : M6 rm' [.ref i, a0] H Q') (hr : rok rm rm' 5 S = true) (h : ∀ v H', Q' v H' → W0 (less rm rm') 368 [l0, l1, l2, l3, l4, l5, l6, l7, l8, l9, l10, l11, l12, l13, l14, l15, l16, l17] (v.toList ++ S) H' Q) : W0 rm 365 [l0, l1, l2, l3, l4, l5, l6, l7, l8, l9, l10, l11, l12, l13, l14, l15, l16, l17] (a0 :: .ref i :: S) H Q := W.callV (c := 0) (S := S) (as := [a0]) (rm' := rm') at_365 (List.mem_of_getElem? (i := 38) rfl) (List.mem_of_getElem? (i := 39) rfl) (List.mem_of_getElem? (i := 41) rfl) (Or.inl rfl) kt (List.mem_of_getElem? (i := 40) rfl) (List.mem_of_getElem? (i := 7) rfl) (List.mem_of_getElem? (i := 42) rfl) (by decide) rfl pd6 rfl rfl hH hM hr h
theorem s0_368 {rm : Room} {S : List Value} {H : AHeap} {Q : Option Value → AHeap → Prop} {l0 l1 l2 l3 l4 l5 l6 l7 l8 l9 l10 l11 l12 l13 l14 l15 l16 l17 : Slot}  (h : W0 rm 369 [l0, l1, l2, l3, l4, l5, l6, l7, l8, l9, l10, l11, l12, l13, l14, l15, l16, l17] (.int (-1) :: S) (H) Q) : W0 rm 368 [l0, l1, l2, l3, l4, l5, l6, l7, l8, l9, l10, l11, l12, l13, l14, l15, l16, l17] (S) H Q := W.iconst' at_368 (by decide) h
theorem s0_369 {rm : Room} {S : List Value} {H : AHeap} {Q : Option Value → AHeap → Prop} {l0 l1 l2 l3 l4 l5 l6 l7 l8 l9 l10 l11 l12 l13 l14 l15 l16 l17 : Slot} {x y : Int32} (h1 : ¬ x = y → W0 rm 376 [l0, l1, l2, l3, l4, l5, l6, l7, l8, l9, l10, l11, l12, l13, l14, l15, l16, l17] S H Q) (h2 : x = y → W0 rm 372 [l0, l1, l2, l3, l4, l5, l6, l7, l8, l9, l10, l11, l12, l13, l14, l15, l16, l17] S H Q) : W0 rm 369 [l0, l1, l2, l3, l4, l5, l6, l7, l8, l9, l10, l11, l12, l13, l14, l15, l16, l17] (.int y :: .int x :: S) H Q := W.icmp at_369 (by decide) (by decide) h1 h2
theorem s0_372 {rm : Room} {S : List Value} {H : AHeap} {Q : Option Value → AHeap → Prop} {l0 l1 l2 l3 l4 l5 l6 l7 l8 l9 l10 l11 l12 l13 l14 l15 l16 l17 : Slot}  (h : W0 rm 373 [l0, l1, l2, l3, l4, l5, l6, l7, l8, l9, l10, l11, l12, l13, l14, l15, l16, l17] (.int 1 :: S) (H) Q) : W0 rm 372 [l0, l1, l2, l3, l4, l5, l6, l7, l8, l9, l10, l11, l12, l13, l14, l15, l16, l17] (S) H Q := W.iconst' at_372 (by decide) h
theorem s0_373 {rm : Room} {S : List Value} {H : AHeap} {Q : Option Value → AHeap → Prop} {l0 l1 l2 l3 l4 l5 l6 l7 l8 l9 l10 l11 l12 l13 l14 l15 l16 l17 : Slot}  (h : W0 rm 377 [l0, l1, l2, l3, l4, l5, l6, l7, l8, l9, l10, l11, l12, l13, l14, l15, l16, l17] (S) (H) Q) : W0 rm 373 [l0, l1, l2, l3, l4, l5, l6, l7, l8, l9, l10, l11, l12, l13, l14, l15, l16, l17] (S) H Q := W.goto at_373 (by decide) (by decide) h
theorem s0_376 {rm : Room} {S : List Value} {H : AHeap} {Q : Option Value → AHeap → Prop} {l0 l1 l2 l3 l4 l5 l6 l7 l8 l9 l10 l11 l12 l13 l14 l15 l16 l17 : Slot}  (h : W0 rm 377 [l0, l1, l2, l3, l4, l5, l6, l7, l8, l9, l10, l11, l12, l13, l14, l15, l16, l17] (.int 0 :: S) (H) Q) : W0 rm 376 [l0, l1, l2, l3, l4, l5, l6, l7, l8, l9, l10, l11, l12, l13, l14, l15, l16, l17] (S) H Q := W.iconst' at_376 (by decide) h
theorem s0_377 {rm : Room} {S : List Value} {H : AHeap} {Q : Option Value → AHeap → Prop} {l0 l1 l2 l3 l4 l5 l6 l7 l8 l9 l10 l11 l12 l13 l14 l15 l16 l17 : Slot} {x : Int32} (ho : one l15 = true) (h : W0 rm 379 [l0, l1, l2, l3, l4, l5, l6, l7, l8, l9, l10, l11, l12, l13, l14, .val (.int x), l16, l17] (S) (H) Q) : W0 rm 377 [l0, l1, l2, l3, l4, l5, l6, l7, l8, l9, l10, l11, l12, l13, l14, l15, l16, l17] (.int x :: S) H Q := W.istore at_377 rfl ho h
theorem s0_377w {rm : Room} {S : List Value} {H : AHeap} {Q : Option Value → AHeap → Prop} {l0 l1 l2 l3 l4 l5 l6 l7 l8 l9 l10 l11 l12 l13 l14 l16 l17 : Slot} {w : Value} {x : Int32} (ho : w.category = 2) (h : W0 rm 379 [l0, l1, l2, l3, l4, l5, l6, l7, l8, l9, l10, l11, l12, l13, l14, .val (.int x), .unset, l17] (S) (H) Q) : W0 rm 377 [l0, l1, l2, l3, l4, l5, l6, l7, l8, l9, l10, l11, l12, l13, l14, .val w, l16, l17] (.int x :: S) H Q := W.istoreW at_377 rfl ho (Nat.le_of_ble_eq_true rfl) h
theorem s0_377s {rm : Room} {S : List Value} {H : AHeap} {Q : Option Value → AHeap → Prop} {l0 l1 l2 l3 l4 l5 l6 l7 l8 l9 l10 l11 l12 l13 l14 l16 l17 : Slot} {x : Int32} (h : W0 rm 379 [l0, l1, l2, l3, l4, l5, l6, l7, l8, l9, l10, l11, l12, l13, .unset, .val (.int x), l16, l17] (S) (H) Q) : W0 rm 377 [l0, l1, l2, l3, l4, l5, l6, l7, l8, l9, l10, l11, l12, l13, l14, .second, l16, l17] (.int x :: S) H Q := W.istoreS at_377 rfl (by decide) h
theorem s0_379 {rm : Room} {S : List Value} {H : AHeap} {Q : Option Value → AHeap → Prop} {l0 l1 l2 l3 l4 l5 l6 l7 l8 l9 l10 l11 l12 l13 l14 l16 l17 : Slot} {x : Int32} (h : W0 rm 381 [l0, l1, l2, l3, l4, l5, l6, l7, l8, l9, l10, l11, l12, l13, l14, .val (.int x), l16, l17] (.int x :: S) (H) Q) : W0 rm 379 [l0, l1, l2, l3, l4, l5, l6, l7, l8, l9, l10, l11, l12, l13, l14, .val (.int x), l16, l17] (S) H Q := W.iload at_379 rfl h
theorem s0_381 {rm : Room} {S : List Value} {H : AHeap} {Q : Option Value → AHeap → Prop} {l0 l1 l2 l3 l4 l5 l6 l7 l8 l9 l10 l11 l12 l13 l14 l15 l16 l17 : Slot} {x : Int32} (hQ : Q (some (.int (x &&& 1))) H) : W0 rm 381 [l0, l1, l2, l3, l4, l5, l6, l7, l8, l9, l10, l11, l12, l13, l14, l15, l16, l17] (.int x :: S) H Q := W.ireturnZ at_381 rfl hQ
theorem e1 {rm : Room} {H : AHeap} {Q : Option Value → AHeap → Prop} {a0 : Int32} {a1 : Int32} {a2 : Int32} (h : W1 rm 0 [.val (.int a0), .val (.int a1), .val (.int a2)] [] H Q) : M1 rm [.int a0, .int a1, .int a2] H Q := M.of pf1 rfl rfl h
theorem e1L {rm : Room} {H : AHeap} {Q : Option Value → AHeap → Prop} {L : List Slot} {as : List Value} (h : W1 rm 0 L [] H Q) (hl : ent as ++ List.replicate (3 - (ent as).length) .unset = L := by rfl) (hn : L.length = 3 := by rfl) : M1 rm as H Q := M.of pf1 hl hn h
theorem d1_0 : decode method_2_code 0 = .ok (.iload_n 2, 1) := by decide +kernel
theorem s1_0 {rm : Room} {S : List Value} {H : AHeap} {Q : Option Value → AHeap → Prop} {l0 l1 : Slot} {x : Int32} (h : W1 rm 1 [l0, l1, .val (.int x)] (.int x :: S) (H) Q) : W1 rm 0 [l0, l1, .val (.int x)] (S) H Q := W.iload_n d1_0 rfl h
theorem d1_1 : decode method_2_code 1 = .ok (.ifCond .eq 11, 3) := by decide +kernel
theorem s1_1 {rm : Room} {S : List Value} {H : AHeap} {Q : Option Value → AHeap → Prop} {l0 l1 l2 : Slot} {x : Int32} (h1 : x = 0 → W1 rm 12 [l0, l1, l2] S H Q) (h2 : ¬ x = 0 → W1 rm 4 [l0, l1, l2] S H Q) : W1 rm 1 [l0, l1, l2] (.int x :: S) H Q := W.ifc d1_1 (by decide) (by decide) h1 h2
theorem d1_4 : decode method_2_code 4 = .ok (.iload_n 1, 1) := by decide +kernel
theorem s1_4 {rm : Room} {S : List Value} {H : AHeap} {Q : Option Value → AHeap → Prop} {l0 l2 : Slot} {x : Int32} (h : W1 rm 5 [l0, .val (.int x), l2] (.int x :: S) (H) Q) : W1 rm 4 [l0, .val (.int x), l2] (S) H Q := W.iload_n d1_4 rfl h
theorem d1_5 : decode method_2_code 5 = .ok (.iload_n 0, 1) := by decide +kernel
theorem s1_5 {rm : Room} {S : List Value} {H : AHeap} {Q : Option Value → AHeap → Prop} {l1 l2 : Slot} {x : Int32} (h : W1 rm 6 [.val (.int x), l1, l2] (.int x :: S) (H) Q) : W1 rm 5 [.val (.int x), l1, l2] (S) H Q := W.iload_n d1_5 rfl h
theorem d1_6 : decode method_2_code 6 = .ok (.isub, 1) := by decide +kernel
theorem s1_6 {rm : Room} {S : List Value} {H : AHeap} {Q : Option Value → AHeap → Prop} {l0 l1 l2 : Slot} {x y : Int32} (h : W1 rm 7 [l0, l1, l2] (.int (x - y) :: S) (H) Q) : W1 rm 6 [l0, l1, l2] (.int y :: .int x :: S) H Q := W.isub d1_6 h
theorem d1_7 : decode method_2_code 7 = .ok (.iconst 3, 1) := by decide +kernel
theorem s1_7 {rm : Room} {S : List Value} {H : AHeap} {Q : Option Value → AHeap → Prop} {l0 l1 l2 : Slot}  (h : W1 rm 8 [l0, l1, l2] (.int 3 :: S) (H) Q) : W1 rm 7 [l0, l1, l2] (S) H Q := W.iconst' d1_7 (by decide) h
theorem d1_8 : decode method_2_code 8 = .ok (.iand, 1) := by decide +kernel
theorem s1_8 {rm : Room} {S : List Value} {H : AHeap} {Q : Option Value → AHeap → Prop} {l0 l1 l2 : Slot} {x y : Int32} (h : W1 rm 9 [l0, l1, l2] (.int (x &&& y) :: S) (H) Q) : W1 rm 8 [l0, l1, l2] (.int y :: .int x :: S) H Q := W.iand d1_8 h
theorem d1_9 : decode method_2_code 9 = .ok (.goto 8, 3) := by decide +kernel
theorem s1_9 {rm : Room} {S : List Value} {H : AHeap} {Q : Option Value → AHeap → Prop} {l0 l1 l2 : Slot}  (h : W1 rm 17 [l0, l1, l2] (S) (H) Q) : W1 rm 9 [l0, l1, l2] (S) H Q := W.goto d1_9 (by decide) (by decide) h
theorem d1_12 : decode method_2_code 12 = .ok (.iload_n 0, 1) := by decide +kernel
theorem s1_12 {rm : Room} {S : List Value} {H : AHeap} {Q : Option Value → AHeap → Prop} {l1 l2 : Slot} {x : Int32} (h : W1 rm 13 [.val (.int x), l1, l2] (.int x :: S) (H) Q) : W1 rm 12 [.val (.int x), l1, l2] (S) H Q := W.iload_n d1_12 rfl h
theorem d1_13 : decode method_2_code 13 = .ok (.iload_n 1, 1) := by decide +kernel
theorem s1_13 {rm : Room} {S : List Value} {H : AHeap} {Q : Option Value → AHeap → Prop} {l0 l2 : Slot} {x : Int32} (h : W1 rm 14 [l0, .val (.int x), l2] (.int x :: S) (H) Q) : W1 rm 13 [l0, .val (.int x), l2] (S) H Q := W.iload_n d1_13 rfl h
theorem d1_14 : decode method_2_code 14 = .ok (.iadd, 1) := by decide +kernel
theorem s1_14 {rm : Room} {S : List Value} {H : AHeap} {Q : Option Value → AHeap → Prop} {l0 l1 l2 : Slot} {x y : Int32} (h : W1 rm 15 [l0, l1, l2] (.int (x + y) :: S) (H) Q) : W1 rm 14 [l0, l1, l2] (.int y :: .int x :: S) H Q := W.iadd d1_14 h
theorem d1_15 : decode method_2_code 15 = .ok (.iconst 3, 1) := by decide +kernel
theorem s1_15 {rm : Room} {S : List Value} {H : AHeap} {Q : Option Value → AHeap → Prop} {l0 l1 l2 : Slot}  (h : W1 rm 16 [l0, l1, l2] (.int 3 :: S) (H) Q) : W1 rm 15 [l0, l1, l2] (S) H Q := W.iconst' d1_15 (by decide) h
theorem d1_16 : decode method_2_code 16 = .ok (.iand, 1) := by decide +kernel
theorem s1_16 {rm : Room} {S : List Value} {H : AHeap} {Q : Option Value → AHeap → Prop} {l0 l1 l2 : Slot} {x y : Int32} (h : W1 rm 17 [l0, l1, l2] (.int (x &&& y) :: S) (H) Q) : W1 rm 16 [l0, l1, l2] (.int y :: .int x :: S) H Q := W.iand d1_16 h
theorem d1_17 : decode method_2_code 17 = .ok (.ireturn, 1) := by decide +kernel
theorem s1_17 {rm : Room} {S : List Value} {H : AHeap} {Q : Option Value → AHeap → Prop} {l0 l1 l2 : Slot} {x : Int32} (hQ : Q (some (.int x)) H) : W1 rm 17 [l0, l1, l2] (.int x :: S) H Q := W.ireturn d1_17 rfl hQ
theorem e2 {rm : Room} {H : AHeap} {Q : Option Value → AHeap → Prop} {a0 : Nat} {a1 : Nat} (h : W2 rm 0 [.val (.ref a0), .val (.ref a1), .unset] [] H Q) : M2 rm [.ref a0, .ref a1] H Q := M.of pf2 rfl rfl h
theorem e2L {rm : Room} {H : AHeap} {Q : Option Value → AHeap → Prop} {L : List Slot} {as : List Value} (h : W2 rm 0 L [] H Q) (hl : ent as ++ List.replicate (3 - (ent as).length) .unset = L := by rfl) (hn : L.length = 3 := by rfl) : M2 rm as H Q := M.of pf2 hl hn h
theorem d2_0 : decode prog_12_method_1_code 0 = .ok (.aload_n 0, 1) := by decide +kernel
theorem s2_0 {rm : Room} {S : List Value} {H : AHeap} {Q : Option Value → AHeap → Prop} {l1 l2 : Slot} {i : Nat} (h : W2 rm 1 [.val (.ref i), l1, l2] (.ref i :: S) (H) Q) : W2 rm 0 [.val (.ref i), l1, l2] (S) H Q := W.aload_n d2_0 rfl rfl h
theorem s2_0n {rm : Room} {S : List Value} {H : AHeap} {Q : Option Value → AHeap → Prop} {l1 l2 : Slot}  (h : W2 rm 1 [.val .null, l1, l2] (.null :: S) (H) Q) : W2 rm 0 [.val .null, l1, l2] (S) H Q := W.aload_n d2_0 rfl rfl h
theorem d2_1 : decode prog_12_method_1_code 1 = .ok (.invokespecial 1, 3) := by decide +kernel
theorem s2_1 {rm : Room} {S : List Value} {H : AHeap} {Q : Option Value → AHeap → Prop} {l0 l1 l2 : Slot} {i : Nat} (hr : iok rm S = true) (h : W2 rm 4 [l0, l1, l2] (S) (H) Q) : W2 rm 1 [l0, l1, l2] (.ref i :: S) H Q := W.initO d2_1 (List.mem_of_getElem? (i := 11) rfl) (List.mem_of_getElem? (i := 12) rfl) (List.mem_of_getElem? (i := 13) rfl) hr h
theorem d2_4 : decode prog_12_method_1_code 4 = .ok (.aload_n 0, 1) := by decide +kernel
theorem s2_4 {rm : Room} {S : List Value} {H : AHeap} {Q : Option Value → AHeap → Prop} {l1 l2 : Slot} {i : Nat} (h : W2 rm 5 [.val (.ref i), l1, l2] (.ref i :: S) (H) Q) : W2 rm 4 [.val (.ref i), l1, l2] (S) H Q := W.aload_n d2_4 rfl rfl h
theorem s2_4n {rm : Room} {S : List Value} {H : AHeap} {Q : Option Value → AHeap → Prop} {l1 l2 : Slot}  (h : W2 rm 5 [.val .null, l1, l2] (.null :: S) (H) Q) : W2 rm 4 [.val .null, l1, l2] (S) H Q := W.aload_n d2_4 rfl rfl h
theorem d2_5 : decode prog_12_method_1_code 5 = .ok (.iconst (-1), 1) := by decide +kernel
theorem s2_5 {rm : Room} {S : List Value} {H : AHeap} {Q : Option Value → AHeap → Prop} {l0 l1 l2 : Slot}  (h : W2 rm 6 [l0, l1, l2] (.int (-1) :: S) (H) Q) : W2 rm 5 [l0, l1, l2] (S) H Q := W.iconst' d2_5 (by decide) h
theorem d2_6 : decode prog_12_method_1_code 6 = .ok (.putfield 7, 3) := by decide +kernel
theorem s2_6 {rm : Room} {S : List Value} {H : AHeap} {Q : Option Value → AHeap → Prop} {l0 l1 l2 : Slot} {i : Nat} {f0 f1 f2 f3 f4 : Value} {x : Int32} (hH : H[i]? = some (.inl (0, [f0, f1, f2, f3, f4]))) (h : W2 rm 9 [l0, l1, l2] (S) (H.set i (.inl (0, [.int x, f1, f2, f3, f4]))) Q) : W2 rm 6 [l0, l1, l2] (.int x :: .ref i :: S) H Q := W.putF (c := 0) (j := 0) kt d2_6 (host := "") (Or.inl (List.mem_of_getElem? (i := 14) rfl)) (Or.inl rfl) rfl rfl (Or.inl (List.mem_of_getElem? (i := 15) rfl)) rfl rfl hH h
theorem d2_9 : decode prog_12_method_1_code 9 = .ok (.aload_n 0, 1) := by decide +kernel
theorem s2_9 {rm : Room} {S : List Value} {H : AHeap} {Q : Option Value → AHeap → Prop} {l1 l2 : Slot} {i : Nat} (h : W2 rm 10 [.val (.ref i), l1, l2] (.ref i :: S) (H) Q) : W2 rm 9 [.val (.ref i), l1, l2] (S) H Q := W.aload_n d2_9 rfl rfl h
theorem s2_9n {rm : Room} {S : List Value} {H : AHeap} {Q : Option Value → AHeap → Prop} {l1 l2 : Slot}  (h : W2 rm 10 [.val .null, l1, l2] (.null :: S) (H) Q) : W2 rm 9 [.val .null, l1, l2] (S) H Q := W.aload_n d2_9 rfl rfl h
theorem d2_10 : decode prog_12_method_1_code 10 = .ok (.aload_n 1, 1) := by decide +kernel
theorem s2_10 {rm : Room} {S : List Value} {H : AHeap} {Q : Option Value → AHeap → Prop} {l0 l2 : Slot} {i : Nat} (h : W2 rm 11 [l0, .val (.ref i), l2] (.ref i :: S) (H) Q) : W2 rm 10 [l0, .val (.ref i), l2] (S) H Q := W.aload_n d2_10 rfl rfl h
theorem s2_10n {rm : Room} {S : List Value} {H : AHeap} {Q : Option Value → AHeap → Prop} {l0 l2 : Slot}  (h : W2 rm 11 [l0, .val .null, l2] (.null :: S) (H) Q) : W2 rm 10 [l0, .val .null, l2] (S) H Q := W.aload_n d2_10 rfl rfl h
theorem d2_11 : decode prog_12_method_1_code 11 = .ok (.putfield 13, 3) := by decide +kernel
theorem s2_11 {rm : Room} {S : List Value} {H : AHeap} {Q : Option Value → AHeap → Prop} {l0 l1 l2 : Slot} {i : Nat} {f0 f1 f2 f3 f4 : Value} {x : Nat} (hH : H[i]? = some (.inl (0, [f0, f1, f2, f3, f4]))) (h : W2 rm 14 [l0, l1, l2] (S) (H.set i (.inl (0, [f0, .ref x, f2, f3, f4]))) Q) : W2 rm 11 [l0, l1, l2] (.ref x :: .ref i :: S) H Q := W.putF (c := 0) (j := 1) kt d2_11 (host := "") (Or.inl (List.mem_of_getElem? (i := 16) rfl)) (Or.inl rfl) rfl rfl (Or.inr ⟨(List.mem_of_getElem? (i := 17) rfl), rfl, rfl⟩) rfl rfl hH h
theorem d2_14 : decode prog_12_method_1_code 14 = .ok (.aload_n 0, 1) := by decide +kernel
theorem s2_14 {rm : Room} {S : List Value} {H : AHeap} {Q : Option Value → AHeap → Prop} {l1 l2 : Slot} {i : Nat} (h : W2 rm 15 [.val (.ref i), l1, l2] (.ref i :: S) (H) Q) : W2 rm 14 [.val (.ref i), l1, l2] (S) H Q := W.aload_n d2_14 rfl rfl h
theorem s2_14n {rm : Room} {S : List Value} {H : AHeap} {Q : Option Value → AHeap → Prop} {l1 l2 : Slot}  (h : W2 rm 15 [.val .null, l1, l2] (.null :: S) (H) Q) : W2 rm 14 [.val .null, l1, l2] (S) H Q := W.aload_n d2_14 rfl rfl h
theorem d2_15 : decode prog_12_method_1_code 15 = .ok (.aload_n 1, 1) := by decide +kernel
theorem s2_15 {rm : Room} {S : List Value} {H : AHeap} {Q : Option Value → AHeap → Prop} {l0 l2 : Slot} {i : Nat} (h : W2 rm 16 [l0, .val (.ref i), l2] (.ref i :: S) (H) Q) : W2 rm 15 [l0, .val (.ref i), l2] (S) H Q := W.aload_n d2_15 rfl rfl h
theorem s2_15n {rm : Room} {S : List Value} {H : AHeap} {Q : Option Value → AHeap → Prop} {l0 l2 : Slot}  (h : W2 rm 16 [l0, .val .null, l2] (.null :: S) (H) Q) : W2 rm 15 [l0, .val .null, l2] (S) H Q := W.aload_n d2_15 rfl rfl h
theorem d2_16 : decode prog_12_method_1_code 16 = .ok (.arraylength, 1) := by decide +kernel
theorem s2_16 {rm : Room} {S : List Value} {H : AHeap} {Q : Option Value → AHeap → Prop} {l0 l1 l2 : Slot} {i : Nat} {ty : FieldType} {vs : List Value} (hH : H[i]? = some (.inr (ty, vs))) (h : W2 rm 17 [l0, l1, l2] (.int (Int32.ofNat vs.length) :: S) (H) Q) : W2 rm 16 [l0, l1, l2] (.ref i :: S) H Q := W.arraylength d2_16 hH h
theorem s2_16k {rm : Room} {S : List Value} {H : AHeap} {Q : Option Value → AHeap → Prop} {l0 l1 l2 : Slot} {i : Nat} {ty : FieldType} {vs : List Value} (n : Int32) (hH : H[i]? = some (.inr (ty, vs))) (hn : Int32.ofNat vs.length = n) (h : W2 rm 17 [l0, l1, l2] (.int n :: S) (H) Q) : W2 rm 16 [l0, l1, l2] (.ref i :: S) H Q := W.arraylength d2_16 hH (by rw [hn]; exact h)
theorem d2_17 : decode prog_12_method_1_code 17 = .ok (.newarray .int, 2) := by decide +kernel
theorem s2_17 {rm : Room} {S : List Value} {H : AHeap} {Q : Option Value → AHeap → Prop} {l0 l1 l2 : Slot} {n : Int32} (i N : Nat) (hn : ix n N) (hi : H.length = i) (hr : nok rm N = true) (h : W2 ⟨rm.frames, rm.cells - 1, rm.slots - N, rm.locals⟩ 19 [l0, l1, l2] (.ref i :: S) (H ++ [.inr (.int, List.replicate N (.int 0))]) Q) : W2 rm 17 [l0, l1, l2] (.int n :: S) H Q := W.newarray (ty := .int) (d := .int 0) d2_17 rfl (List.mem_of_getElem? (i := 0) rfl) rfl hn hi hr h
theorem d2_19 : decode prog_12_method_1_code 19 = .ok (.putfield 17, 3) := by decide +kernel
theorem s2_19 {rm : Room} {S : List Value} {H : AHeap} {Q : Option Value → AHeap → Prop} {l0 l1 l2 : Slot} {i : Nat} {f0 f1 f2 f3 f4 : Value} {x : Nat} (hH : H[i]? = some (.inl (0, [f0, f1, f2, f3, f4]))) (h : W2 rm 22 [l0, l1, l2] (S) (H.set i (.inl (0, [f0, f1, .ref x, f3, f4]))) Q) : W2 rm 19 [l0, l1, l2] (.ref x :: .ref i :: S) H Q := W.putF (c := 0) (j := 2) kt d2_19 (host := "") (Or.inl (List.mem_of_getElem? (i := 18) rfl)) (Or.inl rfl) rfl rfl (Or.inr ⟨(List.mem_of_getElem? (i := 19) rfl), rfl, rfl⟩) rfl rfl hH h
theorem d2_22 : decode prog_12_method_1_code 22 = .ok (.iconst 0, 1) := by decide +kernel
theorem s2_22 {rm : Room} {S : List Value} {H : AHeap} {Q : Option Value → AHeap → Prop} {l0 l1 l2 : Slot}  (h : W2 rm 23 [l0, l1, l2] (.int 0 :: S) (H) Q) : W2 rm 22 [l0, l1, l2] (S) H Q := W.iconst' d2_22 (by decide) h
theorem d2_23 : decode prog_12_method_1_code 23 = .ok (.istore_n 2, 1) := by decide +kernel
theorem s2_23 {rm : Room} {S : List Value} {H : AHeap} {Q : Option Value → AHeap → Prop} {l0 l1 l2 : Slot} {x : Int32} (ho : one l2 = true) (h : W2 rm 24 [l0, l1, .val (.int x)] (S) (H) Q) : W2 rm 23 [l0, l1, l2] (.int x :: S) H Q := W.istore_n d2_23 rfl ho h
theorem s2_23s {rm : Room} {S : List Value} {H : AHeap} {Q : Option Value → AHeap → Prop} {l0 l1 : Slot} {x : Int32} (h : W2 rm 24 [l0, .unset, .val (.int x)] (S) (H) Q) : W2 rm 23 [l0, l1, .second] (.int x :: S) H Q := W.istore_nS d2_23 rfl (by decide) h
theorem d2_24 : decode prog_12_method_1_code 24 = .ok (.iload_n 2, 1) := by decide +kernel
theorem s2_24 {rm : Room} {S : List Value} {H : AHeap} {Q : Option Value → AHeap → Prop} {l0 l1 : Slot} {x : Int32} (h : W2 rm 25 [l0, l1, .val (.int x)] (.int x :: S) (H) Q) : W2 rm 24 [l0, l1, .val (.int x)] (S) H Q := W.iload_n d2_24 rfl h
theorem d2_25 : decode prog_12_method_1_code 25 = .ok (.aload_n 1, 1) := by decide +kernel
theorem s2_25 {rm : Room} {S : List Value} {H : AHeap} {Q : Option Value → AHeap → Prop} {l0 l2 : Slot} {i : Nat} (h : W2 rm 26 [l0, .val (.ref i), l2] (.ref i :: S) (H) Q) : W2 rm 25 [l0, .val (.ref i), l2] (S) H Q := W.aload_n d2_25 rfl rfl h
theorem s2_25n {rm : Room} {S : List Value} {H : AHeap} {Q : Option Value → AHeap → Prop} {l0 l2 : Slot}  (h : W2 rm 26 [l0, .val .null, l2] (.null :: S) (H) Q) : W2 rm 25 [l0, .val .null, l2] (S) H Q := W.aload_n d2_25 rfl rfl h
theorem d2_26 : decode prog_12_method_1_code 26 = .ok (.arraylength, 1) := by decide +kernel
theorem s2_26 {rm : Room} {S : List Value} {H : AHeap} {Q : Option Value → AHeap → Prop} {l0 l1 l2 : Slot} {i : Nat} {ty : FieldType} {vs : List Value} (hH : H[i]? = some (.inr (ty, vs))) (h : W2 rm 27 [l0, l1, l2] (.int (Int32.ofNat vs.length) :: S) (H) Q) : W2 rm 26 [l0, l1, l2] (.ref i :: S) H Q := W.arraylength d2_26 hH h
theorem s2_26k {rm : Room} {S : List Value} {H : AHeap} {Q : Option Value → AHeap → Prop} {l0 l1 l2 : Slot} {i : Nat} {ty : FieldType} {vs : List Value} (n : Int32) (hH : H[i]? = some (.inr (ty, vs))) (hn : Int32.ofNat vs.length = n) (h : W2 rm 27 [l0, l1, l2] (.int n :: S) (H) Q) : W2 rm 26 [l0, l1, l2] (.ref i :: S) H Q := W.arraylength d2_26 hH (by rw [hn]; exact h)
theorem d2_27 : decode prog_12_method_1_code 27 = .ok (.if_icmp .ge 18, 3) := by decide +kernel
theorem s2_27 {rm : Room} {S : List Value} {H : AHeap} {Q : Option Value → AHeap → Prop} {l0 l1 l2 : Slot} {x y : Int32} (h1 : ¬ x < y → W2 rm 45 [l0, l1, l2] S H Q) (h2 : x < y → W2 rm 30 [l0, l1, l2] S H Q) : W2 rm 27 [l0, l1, l2] (.int y :: .int x :: S) H Q := W.icmp d2_27 (by decide) (by decide) h1 h2
theorem d2_30 : decode prog_12_method_1_code 30 = .ok (.aload_n 0, 1) := by decide +kernel
theorem s2_30 {rm : Room} {S : List Value} {H : AHeap} {Q : Option Value → AHeap → Prop} {l1 l2 : Slot} {i : Nat} (h : W2 rm 31 [.val (.ref i), l1, l2] (.ref i :: S) (H) Q) : W2 rm 30 [.val (.ref i), l1, l2] (S) H Q := W.aload_n d2_30 rfl rfl h
theorem s2_30n {rm : Room} {S : List Value} {H : AHeap} {Q : Option Value → AHeap → Prop} {l1 l2 : Slot}  (h : W2 rm 31 [.val .null, l1, l2] (.null :: S) (H) Q) : W2 rm 30 [.val .null, l1, l2] (S) H Q := W.aload_n d2_30 rfl rfl h
theorem d2_31 : decode prog_12_method_1_code 31 = .ok (.getfield 17, 3) := by decide +kernel
theorem s2_31 {rm : Room} {S : List Value} {H : AHeap} {Q : Option Value → AHeap → Prop} {l0 l1 l2 : Slot} {i : Nat} {f0 f1 f2 f3 f4 : Value} (hH : H[i]? = some (.inl (0, [f0, f1, f2, f3, f4]))) (h : W2 rm 34 [l0, l1, l2] (f2 :: S) (H) Q) : W2 rm 31 [l0, l1, l2] (.ref i :: S) H Q := W.getF (c := 0) (j := 2) d2_31 (host := "") (Or.inl (List.mem_of_getElem? (i := 18) rfl)) (Or.inl rfl) rfl rfl hH rfl h
theorem d2_34 : decode prog_12_method_1_code 34 = .ok (.aload_n 1, 1) := by decide +kernel
theorem s2_34 {rm : Room} {S : List Value} {H : AHeap} {Q : Option Value → AHeap → Prop} {l0 l2 : Slot} {i : Nat} (h : W2 rm 35 [l0, .val (.ref i), l2] (.ref i :: S) (H) Q) : W2 rm 34 [l0, .val (.ref i), l2] (S) H Q := W.aload_n d2_34 rfl rfl h
theorem s2_34n {rm : Room} {S : List Value} {H : AHeap} {Q : Option Value → AHeap → Prop} {l0 l2 : Slot}  (h : W2 rm 35 [l0, .val .null, l2] (.null :: S) (H) Q) : W2 rm 34 [l0, .val .null, l2] (S) H Q := W.aload_n d2_34 rfl rfl h
theorem d2_35 : decode prog_12_method_1_code 35 = .ok (.iload_n 2, 1) := by decide +kernel
theorem s2_35 {rm : Room} {S : List Value} {H : AHeap} {Q : Option Value → AHeap → Prop} {l0 l1 : Slot} {x : Int32} (h : W2 rm 36 [l0, l1, .val (.int x)] (.int x :: S) (H) Q) : W2 rm 35 [l0, l1, .val (.int x)] (S) H Q := W.iload_n d2_35 rfl h
theorem d2_36 : decode prog_12_method_1_code 36 = .ok (.iaload, 1) := by decide +kernel
theorem s2_36 {rm : Room} {S : List Value} {H : AHeap} {Q : Option Value → AHeap → Prop} {l0 l1 l2 : Slot} {i : Nat} {j : Int32} {vs : List Value} {v : Value} (N : Nat) (hH : H[i]? = some (.inr (.int, vs))) (hj : ix j N) (hv : vs[N]? = some v) (h : W2 rm 37 [l0, l1, l2] (v :: S) (H) Q) : W2 rm 36 [l0, l1, l2] (.int j :: .ref i :: S) H Q := W.xaload (Or.inl ⟨rfl, rfl⟩) d2_36 hH hj hv h
theorem d2_37 : decode prog_12_method_1_code 37 = .ok (.iload_n 2, 1) := by decide +kernel
theorem s2_37 {rm : Room} {S : List Value} {H : AHeap} {Q : Option Value → AHeap → Prop} {l0 l1 : Slot} {x : Int32} (h : W2 rm 38 [l0, l1, .val (.int x)] (.int x :: S) (H) Q) : W2 rm 37 [l0, l1, .val (.int x)] (S) H Q := W.iload_n d2_37 rfl h
theorem d2_38 : decode prog_12_method_1_code 38 = .ok (.iastore, 1) := by decide +kernel
theorem s2_38 {rm : Room} {S : List Value} {H : AHeap} {Q : Option Value → AHeap → Prop} {l0 l1 l2 : Slot} {i : Nat} {j : Int32} {x : Int32} {vs : List Value} (N : Nat) (hH : H[i]? = some (.inr (.int, vs))) (hj : ix j N) (hl : Nat.blt N vs.length = true) (h : W2 rm 39 [l0, l1, l2] (S) (H.set i (.inr (.int, vs.set N (.int x)))) Q) : W2 rm 38 [l0, l1, l2] (.int x :: .int j :: .ref i :: S) H Q := W.iastore d2_38 hH hj hl h
theorem d2_39 : decode prog_12_method_1_code 39 = .ok (.iinc 2 1, 3) := by decide +kernel
theorem s2_39 {rm : Room} {S : List Value} {H : AHeap} {Q : Option Value → AHeap → Prop} {l0 l1 : Slot} {x : Int32} (h : W2 rm 42 [l0, l1, .val (.int (x + 1))] (S) (H) Q) : W2 rm 39 [l0, l1, .val (.int x)] (S) H Q := W.iinc d2_39 (by decide) rfl h
theorem d2_42 : decode prog_12_method_1_code 42 = .ok (.goto (-18), 3) := by decide +kernel
theorem s2_42 {rm : Room} {S : List Value} {H : AHeap} {Q : Option Value → AHeap → Prop} {l0 l1 l2 : Slot}  (h : W2 rm 24 [l0, l1, l2] (S) (H) Q) : W2 rm 42 [l0, l1, l2] (S) H Q := W.goto d2_42 (by decide) (by decide) h
theorem d2_45 : decode prog_12_method_1_code 45 = .ok (.aload_n 0, 1) := by decide +kernel
theorem s2_45 {rm : Room} {S : List Value} {H : AHeap} {Q : Option Value → AHeap → Prop} {l1 l2 : Slot} {i : Nat} (h : W2 rm 46 [.val (.ref i), l1, l2] (.ref i :: S) (H) Q) : W2 rm 45 [.val (.ref i), l1, l2] (S) H Q := W.aload_n d2_45 rfl rfl h
theorem s2_45n {rm : Room} {S : List Value} {H : AHeap} {Q : Option Value → AHeap → Prop} {l1 l2 : Slot}  (h : W2 rm 46 [.val .null, l1, l2] (.null :: S) (H) Q) : W2 rm 45 [.val .null, l1, l2] (S) H Q := W.aload_n d2_45 rfl rfl h
theorem d2_46 : decode prog_12_method_1_code 46 = .ok (.aload_n 1, 1) := by decide +kernel
theorem s2_46 {rm : Room} {S : List Value} {H : AHeap} {Q : Option Value → AHeap → Prop} {l0 l2 : Slot} {i : Nat} (h : W2 rm 47 [l0, .val (.ref i), l2] (.ref i :: S) (H) Q) : W2 rm 46 [l0, .val (.ref i), l2] (S) H Q := W.aload_n d2_46 rfl rfl h
theorem s2_46n {rm : Room} {S : List Value} {H : AHeap} {Q : Option Value → AHeap → Prop} {l0 l2 : Slot}  (h : W2 rm 47 [l0, .val .null, l2] (.null :: S) (H) Q) : W2 rm 46 [l0, .val .null, l2] (S) H Q := W.aload_n d2_46 rfl rfl h
theorem d2_47 : decode prog_12_method_1_code 47 = .ok (.arraylength, 1) := by decide +kernel
theorem s2_47 {rm : Room} {S : List Value} {H : AHeap} {Q : Option Value → AHeap → Prop} {l0 l1 l2 : Slot} {i : Nat} {ty : FieldType} {vs : List Value} (hH : H[i]? = some (.inr (ty, vs))) (h : W2 rm 48 [l0, l1, l2] (.int (Int32.ofNat vs.length) :: S) (H) Q) : W2 rm 47 [l0, l1, l2] (.ref i :: S) H Q := W.arraylength d2_47 hH h
theorem s2_47k {rm : Room} {S : List Value} {H : AHeap} {Q : Option Value → AHeap → Prop} {l0 l1 l2 : Slot} {i : Nat} {ty : FieldType} {vs : List Value} (n : Int32) (hH : H[i]? = some (.inr (ty, vs))) (hn : Int32.ofNat vs.length = n) (h : W2 rm 48 [l0, l1, l2] (.int n :: S) (H) Q) : W2 rm 47 [l0, l1, l2] (.ref i :: S) H Q := W.arraylength d2_47 hH (by rw [hn]; exact h)
theorem d2_48 : decode prog_12_method_1_code 48 = .ok (.newarray .long, 2) := by decide +kernel
theorem s2_48 {rm : Room} {S : List Value} {H : AHeap} {Q : Option Value → AHeap → Prop} {l0 l1 l2 : Slot} {n : Int32} (i N : Nat) (hn : ix n N) (hi : H.length = i) (hr : nok rm N = true) (h : W2 ⟨rm.frames, rm.cells - 1, rm.slots - N, rm.locals⟩ 50 [l0, l1, l2] (.ref i :: S) (H ++ [.inr (.long, List.replicate N (.long 0))]) Q) : W2 rm 48 [l0, l1, l2] (.int n :: S) H Q := W.newarray (ty := .long) (d := .long 0) d2_48 rfl (List.mem_of_getElem? (i := 20) rfl) rfl hn hi hr h
theorem d2_50 : decode prog_12_method_1_code 50 = .ok (.putfield 20, 3) := by decide +kernel
theorem s2_50 {rm : Room} {S : List Value} {H : AHeap} {Q : Option Value → AHeap → Prop} {l0 l1 l2 : Slot} {i : Nat} {f0 f1 f2 f3 f4 : Value} {x : Nat} (hH : H[i]? = some (.inl (0, [f0, f1, f2, f3, f4]))) (h : W2 rm 53 [l0, l1, l2] (S) (H.set i (.inl (0, [f0, f1, f2, .ref x, f4]))) Q) : W2 rm 50 [l0, l1, l2] (.ref x :: .ref i :: S) H Q := W.putF (c := 0) (j := 3) kt d2_50 (host := "") (Or.inl (List.mem_of_getElem? (i := 21) rfl)) (Or.inl rfl) rfl rfl (Or.inr ⟨(List.mem_of_getElem? (i := 22) rfl), rfl, rfl⟩) rfl rfl hH h
theorem d2_53 : decode prog_12_method_1_code 53 = .ok (.return_, 1) := by decide +kernel
theorem s2_53 {rm : Room} {H : AHeap} {Q : Option Value → AHeap → Prop} {l0 l1 l2 : Slot} (hQ : Q none H) : W2 rm 53 [l0, l1, l2] [] H Q := W.ret_ d2_53 rfl hQ
theorem e3 {rm : Room} {H : AHeap} {Q : Option Value → AHeap → Prop} {a0 : Nat} {a1 : Int32} {a2 : Int64} (h : W3 rm 0 [.val (.ref a0), .val (.int a1), .val (.long a2), .second, .unset, .unset] [] H Q) : M3 rm [.ref a0, .int a1, .long a2] H Q := M.of pf3 rfl rfl h
theorem e3L {rm : Room} {H : AHeap} {Q : Option Value → AHeap → Prop} {L : List Slot} {as : List Value} (h : W3 rm 0 L [] H Q) (hl : ent as ++ List.replicate (6 - (ent as).length) .unset = L := by rfl) (hn : L.length = 6 := by rfl) : M3 rm as H Q := M.of pf3 hl hn h
theorem d3_0 : decode prog_12_method_6_code 0 = .ok (.aload_n 0, 1) := by decide +kernel
theorem s3_0 {rm : Room} {S : List Value} {H : AHeap} {Q : Option Value → AHeap → Prop} {l1 l2 l3 l4 l5 : Slot} {i : Nat} (h : W3 rm 1 [.val (.ref i), l1, l2, l3, l4, l5] (.ref i :: S) (H) Q) : W3 rm 0 [.val (.ref i), l1, l2, l3, l4, l5] (S) H Q := W.aload_n d3_0 rfl rfl h
theorem s3_0n {rm : Room} {S : List Value} {H : AHeap} {Q : Option Value → AHeap → Prop} {l1 l2 l3 l4 l5 : Slot}  (h : W3 rm 1 [.val .null, l1, l2, l3, l4, l5] (.null :: S) (H) Q) : W3 rm 0 [.val .null, l1, l2, l3, l4, l5] (S) H Q := W.aload_n d3_0 rfl rfl h
theorem d3_1 : decode prog_12_method_6_code 1 = .ok (.getfield 17, 3) := by decide +kernel
theorem s3_1 {rm : Room} {S : List Value} {H : AHeap} {Q : Option Value → AHeap → Prop} {l0 l1 l2 l3 l4 l5 : Slot} {i : Nat} {f0 f1 f2 f3 f4 : Value} (hH : H[i]? = some (.inl (0, [f0, f1, f2, f3, f4]))) (h : W3 rm 4 [l0, l1, l2, l3, l4, l5] (f2 :: S) (H) Q) : W3 rm 1 [l0, l1, l2, l3, l4, l5] (.ref i :: S) H Q := W.getF (c := 0) (j := 2) d3_1 (host := "") (Or.inl (List.mem_of_getElem? (i := 18) rfl)) (Or.inl rfl) rfl rfl hH rfl h
theorem d3_4 : decode prog_12_method_6_code 4 = .ok (.iload_n 1, 1) := by decide +kernel
theorem s3_4 {rm : Room} {S : List Value} {H : AHeap} {Q : Option Value → AHeap → Prop} {l0 l2 l3 l4 l5 : Slot} {x : Int32} (h : W3 rm 5 [l0, .val (.int x), l2, l3, l4, l5] (.int x :: S) (H) Q) : W3 rm 4 [l0, .val (.int x), l2, l3, l4, l5] (S) H Q := W.iload_n d3_4 rfl h
theorem d3_5 : decode prog_12_method_6_code 5 = .ok (.iaload, 1) := by decide +kernel
theorem s3_5 {rm : Room} {S : List Value} {H : AHeap} {Q : Option Value → AHeap → Prop} {l0 l1 l2 l3 l4 l5 : Slot} {i : Nat} {j : Int32} {vs : List Value} {v : Value} (N : Nat) (hH : H[i]? = some (.inr (.int, vs))) (hj : ix j N) (hv : vs[N]? = some v) (h : W3 rm 6 [l0, l1, l2, l3, l4, l5] (v :: S) (H) Q) : W3 rm 5 [l0, l1, l2, l3, l4, l5] (.int j :: .ref i :: S) H Q := W.xaload (Or.inl ⟨rfl, rfl⟩) d3_5 hH hj hv h
theorem d3_6 : decode prog_12_method_6_code 6 = .ok (.istore 4, 2) := by decide +kernel
theorem s3_6 {rm : Room} {S : List Value} {H : AHeap} {Q : Option Value → AHeap → Prop} {l0 l1 l2 l3 l4 l5 : Slot} {x : Int32} (ho : one l4 = true) (h : W3 rm 8 [l0, l1, l2, l3, .val (.int x), l5] (S) (H) Q) : W3 rm 6 [l0, l1, l2, l3, l4, l5] (.int x :: S) H Q := W.istore d3_6 rfl ho h
theorem s3_6w {rm : Room} {S : List Value} {H : AHeap} {Q : Option Value → AHeap → Prop} {l0 l1 l2 l3 l5 : Slot} {w : Value} {x : Int32} (ho : w.category = 2) (h : W3 rm 8 [l0, l1, l2, l3, .val (.int x), .unset] (S) (H) Q) : W3 rm 6 [l0, l1, l2, l3, .val w, l5] (.int x :: S) H Q := W.istoreW d3_6 rfl ho (Nat.le_of_ble_eq_true rfl) h
theorem s3_6s {rm : Room} {S : List Value} {H : AHeap} {Q : Option Value → AHeap → Prop} {l0 l1 l2 l3 l5 : Slot} {x : Int32} (h : W3 rm 8 [l0, l1, l2, .unset, .val (.int x), l5] (S) (H) Q) : W3 rm 6 [l0, l1, l2, l3, .second, l5] (.int x :: S) H Q := W.istoreS d3_6 rfl (by decide) h
theorem d3_8 : decode prog_12_method_6_code 8 = .ok (.aload_n 0, 1) := by decide +kernel
theorem s3_8 {rm : Room} {S : List Value} {H : AHeap} {Q : Option Value → AHeap → Prop} {l1 l2 l3 l4 l5 : Slot} {i : Nat} (h : W3 rm 9 [.val (.ref i), l1, l2, l3, l4, l5] (.ref i :: S) (H) Q) : W3 rm 8 [.val (.ref i), l1, l2, l3, l4, l5] (S) H Q := W.aload_n d3_8 rfl rfl h
theorem s3_8n {rm : Room} {S : List Value} {H : AHeap} {Q : Option Value → AHeap → Prop} {l1 l2 l3 l4 l5 : Slot}  (h : W3 rm 9 [.val .null, l1, l2, l3, l4, l5] (.null :: S) (H) Q) : W3 rm 8 [.val .null, l1, l2, l3, l4, l5] (S) H Q := W.aload_n d3_8 rfl rfl h
theorem d3_9 : decode prog_12_method_6_code 9 = .ok (.getfield 7, 3) := by decide +kernel
theorem s3_9 {rm : Room} {S : List Value} {H : AHeap} {Q : Option Value → AHeap → Prop} {l0 l1 l2 l3 l4 l5 : Slot} {i : Nat} {f0 f1 f2 f3 f4 : Value} (hH : H[i]? = some (.inl (0, [f0, f1, f2, f3, f4]))) (h : W3 rm 12 [l0, l1, l2, l3, l4, l5] (f0 :: S) (H) Q) : W3 rm 9 [l0, l1, l2, l3, l4, l5] (.ref i :: S) H Q := W.getF (c := 0) (j := 0) d3_9 (host := "") (Or.inl (List.mem_of_getElem? (i := 14) rfl)) (Or.inl rfl) rfl rfl hH rfl h
theorem d3_12 : decode prog_12_method_6_code 12 = .ok (.iconst 1, 1) := by decide +kernel
theorem s3_12 {rm : Room} {S : List Value} {H : AHeap} {Q : Option Value → AHeap → Prop} {l0 l1 l2 l3 l4 l5 : Slot}  (h : W3 rm 13 [l0, l1, l2, l3, l4, l5] (.int 1 :: S) (H) Q) : W3 rm 12 [l0, l1, l2, l3, l4, l5] (S) H Q := W.iconst' d3_12 (by decide) h
theorem d3_13 : decode prog_12_method_6_code 13 = .ok (.iadd, 1) := by decide +kernel
theorem s3_13 {rm : Room} {S : List Value} {H : AHeap} {Q : Option Value → AHeap → Prop} {l0 l1 l2 l3 l4 l5 : Slot} {x y : Int32} (h : W3 rm 14 [l0, l1, l2, l3, l4, l5] (.int (x + y) :: S) (H) Q) : W3 rm 13 [l0, l1, l2, l3, l4, l5] (.int y :: .int x :: S) H Q := W.iadd d3_13 h
theorem d3_14 : decode prog_12_method_6_code 14 = .ok (.istore 5, 2) := by decide +kernel
theorem s3_14 {rm : Room} {S : List Value} {H : AHeap} {Q : Option Value → AHeap → Prop} {l0 l1 l2 l3 l4 l5 : Slot} {x : Int32} (ho : one l5 = true) (h : W3 rm 16 [l0, l1, l2, l3, l4, .val (.int x)] (S) (H) Q) : W3 rm 14 [l0, l1, l2, l3, l4, l5] (.int x :: S) H Q := W.istore d3_14 rfl ho h
theorem s3_14s {rm : Room} {S : List Value} {H : AHeap} {Q : Option Value → AHeap → Prop} {l0 l1 l2 l3 l4 : Slot} {x : Int32} (h : W3 rm 16 [l0, l1, l2, l3, .unset, .val (.int x)] (S) (H) Q) : W3 rm 14 [l0, l1, l2, l3, l4, .second] (.int x :: S) H Q := W.istoreS d3_14 rfl (by decide) h
theorem d3_16 : decode prog_12_method_6_code 16 = .ok (.iload 5, 2) := by decide +kernel
theorem s3_16 {rm : Room} {S : List Value} {H : AHeap} {Q : Option Value → AHeap → Prop} {l0 l1 l2 l3 l4 : Slot} {x : Int32} (h : W3 rm 18 [l0, l1, l2, l3, l4, .val (.int x)] (.int x :: S) (H) Q) : W3 rm 16 [l0, l1, l2, l3, l4, .val (.int x)] (S) H Q := W.iload d3_16 rfl h
theorem d3_18 : decode prog_12_method_6_code 18 = .ok (.iload 4, 2) := by decide +kernel
theorem s3_18 {rm : Room} {S : List Value} {H : AHeap} {Q : Option Value → AHeap → Prop} {l0 l1 l2 l3 l5 : Slot} {x : Int32} (h : W3 rm 20 [l0, l1, l2, l3, .val (.int x), l5] (.int x :: S) (H) Q) : W3 rm 18 [l0, l1, l2, l3, .val (.int x), l5] (S) H Q := W.iload d3_18 rfl h
theorem d3_20 : decode prog_12_method_6_code 20 = .ok (.if_icmp .ge 20, 3) := by decide +kernel
theorem s3_20 {rm : Room} {S : List Value} {H : AHeap} {Q : Option Value → AHeap → Prop} {l0 l1 l2 l3 l4 l5 : Slot} {x y : Int32} (h1 : ¬ x < y → W3 rm 40 [l0, l1, l2, l3, l4, l5] S H Q) (h2 : x < y → W3 rm 23 [l0, l1, l2, l3, l4, l5] S H Q) : W3 rm 20 [l0, l1, l2, l3, l4, l5] (.int y :: .int x :: S) H Q := W.icmp d3_20 (by decide) (by decide) h1 h2
theorem d3_23 : decode prog_12_method_6_code 23 = .ok (.aload_n 0, 1) := by decide +kernel
theorem s3_23 {rm : Room} {S : List Value} {H : AHeap} {Q : Option Value → AHeap → Prop} {l1 l2 l3 l4 l5 : Slot} {i : Nat} (h : W3 rm 24 [.val (.ref i), l1, l2, l3, l4, l5] (.ref i :: S) (H) Q) : W3 rm 23 [.val (.ref i), l1, l2, l3, l4, l5] (S) H Q := W.aload_n d3_23 rfl rfl h
theorem s3_23n {rm : Room} {S : List Value} {H : AHeap} {Q : Option Value → AHeap → Prop} {l1 l2 l3 l4 l5 : Slot}  (h : W3 rm 24 [.val .null, l1, l2, l3, l4, l5] (.null :: S) (H) Q) : W3 rm 23 [.val .null, l1, l2, l3, l4, l5] (S) H Q := W.aload_n d3_23 rfl rfl h
theorem d3_24 : decode prog_12_method_6_code 24 = .ok (.getfield 20, 3) := by decide +kernel
theorem s3_24 {rm : Room} {S : List Value} {H : AHeap} {Q : Option Value → AHeap → Prop} {l0 l1 l2 l3 l4 l5 : Slot} {i : Nat} {f0 f1 f2 f3 f4 : Value} (hH : H[i]? = some (.inl (0, [f0, f1, f2, f3, f4]))) (h : W3 rm 27 [l0, l1, l2, l3, l4, l5] (f3 :: S) (H) Q) : W3 rm 24 [l0, l1, l2, l3, l4, l5] (.ref i :: S) H Q := W.getF (c := 0) (j := 3) d3_24 (host := "") (Or.inl (List.mem_of_getElem? (i := 21) rfl)) (Or.inl rfl) rfl rfl hH rfl h
theorem d3_27 : decode prog_12_method_6_code 27 = .ok (.iload 5, 2) := by decide +kernel
theorem s3_27 {rm : Room} {S : List Value} {H : AHeap} {Q : Option Value → AHeap → Prop} {l0 l1 l2 l3 l4 : Slot} {x : Int32} (h : W3 rm 29 [l0, l1, l2, l3, l4, .val (.int x)] (.int x :: S) (H) Q) : W3 rm 27 [l0, l1, l2, l3, l4, .val (.int x)] (S) H Q := W.iload d3_27 rfl h
theorem d3_29 : decode prog_12_method_6_code 29 = .ok (.aload_n 0, 1) := by decide +kernel
theorem s3_29 {rm : Room} {S : List Value} {H : AHeap} {Q : Option Value → AHeap → Prop} {l1 l2 l3 l4 l5 : Slot} {i : Nat} (h : W3 rm 30 [.val (.ref i), l1, l2, l3, l4, l5] (.ref i :: S) (H) Q) : W3 rm 29 [.val (.ref i), l1, l2, l3, l4, l5] (S) H Q := W.aload_n d3_29 rfl rfl h
theorem s3_29n {rm : Room} {S : List Value} {H : AHeap} {Q : Option Value → AHeap → Prop} {l1 l2 l3 l4 l5 : Slot}  (h : W3 rm 30 [.val .null, l1, l2, l3, l4, l5] (.null :: S) (H) Q) : W3 rm 29 [.val .null, l1, l2, l3, l4, l5] (S) H Q := W.aload_n d3_29 rfl rfl h
theorem d3_30 : decode prog_12_method_6_code 30 = .ok (.getfield 24, 3) := by decide +kernel
theorem s3_30 {rm : Room} {S : List Value} {H : AHeap} {Q : Option Value → AHeap → Prop} {l0 l1 l2 l3 l4 l5 : Slot} {i : Nat} {f0 f1 f2 f3 f4 : Value} (hH : H[i]? = some (.inl (0, [f0, f1, f2, f3, f4]))) (h : W3 rm 33 [l0, l1, l2, l3, l4, l5] (f4 :: S) (H) Q) : W3 rm 30 [l0, l1, l2, l3, l4, l5] (.ref i :: S) H Q := W.getF (c := 0) (j := 4) d3_30 (host := "") (Or.inl (List.mem_of_getElem? (i := 28) rfl)) (Or.inl rfl) rfl rfl hH rfl h
theorem d3_33 : decode prog_12_method_6_code 33 = .ok (.lastore, 1) := by decide +kernel
theorem s3_33 {rm : Room} {S : List Value} {H : AHeap} {Q : Option Value → AHeap → Prop} {l0 l1 l2 l3 l4 l5 : Slot} {i : Nat} {j : Int32} {x : Int64} {vs : List Value} (N : Nat) (hH : H[i]? = some (.inr (.long, vs))) (hj : ix j N) (hl : Nat.blt N vs.length = true) (h : W3 rm 34 [l0, l1, l2, l3, l4, l5] (S) (H.set i (.inr (.long, vs.set N (.long x)))) Q) : W3 rm 33 [l0, l1, l2, l3, l4, l5] (.long x :: .int j :: .ref i :: S) H Q := W.lastore d3_33 hH hj hl h
theorem d3_34 : decode prog_12_method_6_code 34 = .ok (.iinc 5 1, 3) := by decide +kernel
theorem s3_34 {rm : Room} {S : List Value} {H : AHeap} {Q : Option Value → AHeap → Prop} {l0 l1 l2 l3 l4 : Slot} {x : Int32} (h : W3 rm 37 [l0, l1, l2, l3, l4, .val (.int (x + 1))] (S) (H) Q) : W3 rm 34 [l0, l1, l2, l3, l4, .val (.int x)] (S) H Q := W.iinc d3_34 (by decide) rfl h
theorem d3_37 : decode prog_12_method_6_code 37 = .ok (.goto (-21), 3) := by decide +kernel
theorem s3_37 {rm : Room} {S : List Value} {H : AHeap} {Q : Option Value → AHeap → Prop} {l0 l1 l2 l3 l4 l5 : Slot}  (h : W3 rm 16 [l0, l1, l2, l3, l4, l5] (S) (H) Q) : W3 rm 37 [l0, l1, l2, l3, l4, l5] (S) H Q := W.goto d3_37 (by decide) (by decide) h
theorem d3_40 : decode prog_12_method_6_code 40 = .ok (.aload_n 0, 1) := by decide +kernel
theorem s3_40 {rm : Room} {S : List Value} {H : AHeap} {Q : Option Value → AHeap → Prop} {l1 l2 l3 l4 l5 : Slot} {i : Nat} (h : W3 rm 41 [.val (.ref i), l1, l2, l3, l4, l5] (.ref i :: S) (H) Q) : W3 rm 40 [.val (.ref i), l1, l2, l3, l4, l5] (S) H Q := W.aload_n d3_40 rfl rfl h
theorem s3_40n {rm : Room} {S : List Value} {H : AHeap} {Q : Option Value → AHeap → Prop} {l1 l2 l3 l4 l5 : Slot}  (h : W3 rm 41 [.val .null, l1, l2, l3, l4, l5] (.null :: S) (H) Q) : W3 rm 40 [.val .null, l1, l2, l3, l4, l5] (S) H Q := W.aload_n d3_40 rfl rfl h
theorem d3_41 : decode prog_12_method_6_code 41 = .ok (.iload 4, 2) := by decide +kernel
theorem s3_41 {rm : Room} {S : List Value} {H : AHeap} {Q : Option Value → AHeap → Prop} {l0 l1 l2 l3 l5 : Slot} {x : Int32} (h : W3 rm 43 [l0, l1, l2, l3, .val (.int x), l5] (.int x :: S) (H) Q) : W3 rm 41 [l0, l1, l2, l3, .val (.int x), l5] (S) H Q := W.iload d3_41 rfl h
theorem d3_43 : decode prog_12_method_6_code 43 = .ok (.iconst 1, 1) := by decide +kernel
theorem s3_43 {rm : Room} {S : List Value} {H : AHeap} {Q : Option Value → AHeap → Prop} {l0 l1 l2 l3 l4 l5 : Slot}  (h : W3 rm 44 [l0, l1, l2, l3, l4, l5] (.int 1 :: S) (H) Q) : W3 rm 43 [l0, l1, l2, l3, l4, l5] (S) H Q := W.iconst' d3_43 (by decide) h
theorem d3_44 : decode prog_12_method_6_code 44 = .ok (.isub, 1) := by decide +kernel
theorem s3_44 {rm : Room} {S : List Value} {H : AHeap} {Q : Option Value → AHeap → Prop} {l0 l1 l2 l3 l4 l5 : Slot} {x y : Int32} (h : W3 rm 45 [l0, l1, l2, l3, l4, l5] (.int (x - y) :: S) (H) Q) : W3 rm 44 [l0, l1, l2, l3, l4, l5] (.int y :: .int x :: S) H Q := W.isub d3_44 h
theorem d3_45 : decode prog_12_method_6_code 45 = .ok (.putfield 7, 3) := by decide +kernel
theorem s3_45 {rm : Room} {S : List Value} {H : AHeap} {Q : Option Value → AHeap → Prop} {l0 l1 l2 l3 l4 l5 : Slot} {i : Nat} {f0 f1 f2 f3 f4 : Value} {x : Int32} (hH : H[i]? = some (.inl (0, [f0, f1, f2, f3, f4]))) (h : W3 rm 48 [l0, l1, l2, l3, l4, l5] (S) (H.set i (.inl (0, [.int x, f1, f2, f3, f4]))) Q) : W3 rm 45 [l0, l1, l2, l3, l4, l5] (.int x :: .ref i :: S) H Q := W.putF (c := 0) (j := 0) kt d3_45 (host := "") (Or.inl (List.mem_of_getElem? (i := 14) rfl)) (Or.inl rfl) rfl rfl (Or.inl (List.mem_of_getElem? (i := 15) rfl)) rfl rfl hH h
theorem d3_48 : decode prog_12_method_6_code 48 = .ok (.aload_n 0, 1) := by decide +kernel
theorem s3_48 {rm : Room} {S : List Value} {H : AHeap} {Q : Option Value → AHeap → Prop} {l1 l2 l3 l4 l5 : Slot} {i : Nat} (h : W3 rm 49 [.val (.ref i), l1, l2, l3, l4, l5] (.ref i :: S) (H) Q) : W3 rm 48 [.val (.ref i), l1, l2, l3, l4, l5] (S) H Q := W.aload_n d3_48 rfl rfl h
theorem s3_48n {rm : Room} {S : List Value} {H : AHeap} {Q : Option Value → AHeap → Prop} {l1 l2 l3 l4 l5 : Slot}  (h : W3 rm 49 [.val .null, l1, l2, l3, l4, l5] (.null :: S) (H) Q) : W3 rm 48 [.val .null, l1, l2, l3, l4, l5] (S) H Q := W.aload_n d3_48 rfl rfl h
theorem d3_49 : decode prog_12_method_6_code 49 = .ok (.dup, 1) := by decide +kernel
theorem s3_49 {rm : Room} {S : List Value} {H : AHeap} {Q : Option Value → AHeap → Prop} {l0 l1 l2 l3 l4 l5 : Slot} {v : Value} (hc : v.category = 1) (h : W3 rm 50 [l0, l1, l2, l3, l4, l5] (v :: v :: S) (H) Q) : W3 rm 49 [l0, l1, l2, l3, l4, l5] (v :: S) H Q := W.dup d3_49 hc h
theorem d3_50 : decode prog_12_method_6_code 50 = .ok (.getfield 24, 3) := by decide +kernel
theorem s3_50 {rm : Room} {S : List Value} {H : AHeap} {Q : Option Value → AHeap → Prop} {l0 l1 l2 l3 l4 l5 : Slot} {i : Nat} {f0 f1 f2 f3 f4 : Value} (hH : H[i]? = some (.inl (0, [f0, f1, f2, f3, f4]))) (h : W3 rm 53 [l0, l1, l2, l3, l4, l5] (f4 :: S) (H) Q) : W3 rm 50 [l0, l1, l2, l3, l4, l5] (.ref i :: S) H Q := W.getF (c := 0) (j := 4) d3_50 (host := "") (Or.inl (List.mem_of_getElem? (i := 28) rfl)) (Or.inl rfl) rfl rfl hH rfl h
theorem d3_53 : decode prog_12_method_6_code 53 = .ok (.lload_n 2, 1) := by decide +kernel
theorem s3_53 {rm : Room} {S : List Value} {H : AHeap} {Q : Option Value → AHeap → Prop} {l0 l1 l3 l4 l5 : Slot} {x : Int64} (h : W3 rm 54 [l0, l1, .val (.long x), l3, l4, l5] (.long x :: S) (H) Q) : W3 rm 53 [l0, l1, .val (.long x), l3, l4, l5] (S) H Q := W.lload_n d3_53 rfl h
theorem d3_54 : decode prog_12_method_6_code 54 = .ok (.ladd, 1) := by decide +kernel
theorem s3_54 {rm : Room} {S : List Value} {H : AHeap} {Q : Option Value → AHeap → Prop} {l0 l1 l2 l3 l4 l5 : Slot} {x y : Int64} (h : W3 rm 55 [l0, l1, l2, l3, l4, l5] (.long (x + y) :: S) (H) Q) : W3 rm 54 [l0, l1, l2, l3, l4, l5] (.long y :: .long x :: S) H Q := W.ladd d3_54 h
theorem d3_55 : decode prog_12_method_6_code 55 = .ok (.putfield 24, 3) := by decide +kernel
theorem s3_55 {rm : Room} {S : List Value} {H : AHeap} {Q : Option Value → AHeap → Prop} {l0 l1 l2 l3 l4 l5 : Slot} {i : Nat} {f0 f1 f2 f3 f4 : Value} {x : Int64} (hH : H[i]? = some (.inl (0, [f0, f1, f2, f3, f4]))) (h : W3 rm 58 [l0, l1, l2, l3, l4, l5] (S) (H.set i (.inl (0, [f0, f1, f2, f3, .long x]))) Q) : W3 rm 55 [l0, l1, l2, l3, l4, l5] (.long x :: .ref i :: S) H Q := W.putF (c := 0) (j := 4) kt d3_55 (host := "") (Or.inl (List.mem_of_getElem? (i := 28) rfl)) (Or.inl rfl) rfl rfl (Or.inl (List.mem_of_getElem? (i := 29) rfl)) rfl rfl hH h
theorem d3_58 : decode prog_12_method_6_code 58 = .ok (.return_, 1) := by decide +kernel
theorem s3_58 {rm : Room} {H : AHeap} {Q : Option Value → AHeap → Prop} {l0 l1 l2 l3 l4 l5 : Slot} (hQ : Q none H) : W3 rm 58 [l0, l1, l2, l3, l4, l5] [] H Q := W.ret_ d3_58 rfl hQ
theorem e4 {rm : Room} {H : AHeap} {Q : Option Value → AHeap → Prop} {a0 : Nat} {a1 : Int32} (h : W4 rm 0 [.val (.ref a0), .val (.int a1), .unset] [] H Q) : M4 rm [.ref a0, .int a1] H Q := M.of pf4 rfl rfl h
theorem e4L {rm : Room} {H : AHeap} {Q : Option Value → AHeap → Prop} {L : List Slot} {as : List Value} (h : W4 rm 0 L [] H Q) (hl : ent as ++ List.replicate (3 - (ent as).length) .unset = L := by rfl) (hn : L.length = 3 := by rfl) : M4 rm as H Q := M.of pf4 hl hn h
theorem d4_0 : decode prog_12_method_4_code 0 = .ok (.aload_n 0, 1) := by decide +kernel
theorem s4_0 {rm : Room} {S : List Value} {H : AHeap} {Q : Option Value → AHeap → Prop} {l1 l2 : Slot} {i : Nat} (h : W4 rm 1 [.val (.ref i), l1, l2] (.ref i :: S) (H) Q) : W4 rm 0 [.val (.ref i), l1, l2] (S) H Q := W.aload_n d4_0 rfl rfl h
theorem s4_0n {rm : Room} {S : List Value} {H : AHeap} {Q : Option Value → AHeap → Prop} {l1 l2 : Slot}  (h : W4 rm 1 [.val .null, l1, l2] (.null :: S) (H) Q) : W4 rm 0 [.val .null, l1, l2] (S) H Q := W.aload_n d4_0 rfl rfl h
theorem d4_1 : decode prog_12_method_4_code 1 = .ok (.getfield 17, 3) := by decide +kernel
theorem s4_1 {rm : Room} {S : List Value} {H : AHeap} {Q : Option Value → AHeap → Prop} {l0 l1 l2 : Slot} {i : Nat} {f0 f1 f2 f3 f4 : Value} (hH : H[i]? = some (.inl (0, [f0, f1, f2, f3, f4]))) (h : W4 rm 4 [l0, l1, l2] (f2 :: S) (H) Q) : W4 rm 1 [l0, l1, l2] (.ref i :: S) H Q := W.getF (c := 0) (j := 2) d4_1 (host := "") (Or.inl (List.mem_of_getElem? (i := 18) rfl)) (Or.inl rfl) rfl rfl hH rfl h
theorem d4_4 : decode prog_12_method_4_code 4 = .ok (.iload_n 1, 1) := by decide +kernel
theorem s4_4 {rm : Room} {S : List Value} {H : AHeap} {Q : Option Value → AHeap → Prop} {l0 l2 : Slot} {x : Int32} (h : W4 rm 5 [l0, .val (.int x), l2] (.int x :: S) (H) Q) : W4 rm 4 [l0, .val (.int x), l2] (S) H Q := W.iload_n d4_4 rfl h
theorem d4_5 : decode prog_12_method_4_code 5 = .ok (.iaload, 1) := by decide +kernel
theorem s4_5 {rm : Room} {S : List Value} {H : AHeap} {Q : Option Value → AHeap → Prop} {l0 l1 l2 : Slot} {i : Nat} {j : Int32} {vs : List Value} {v : Value} (N : Nat) (hH : H[i]? = some (.inr (.int, vs))) (hj : ix j N) (hv : vs[N]? = some v) (h : W4 rm 6 [l0, l1, l2] (v :: S) (H) Q) : W4 rm 5 [l0, l1, l2] (.int j :: .ref i :: S) H Q := W.xaload (Or.inl ⟨rfl, rfl⟩) d4_5 hH hj hv h
theorem d4_6 : decode prog_12_method_4_code 6 = .ok (.istore_n 2, 1) := by decide +kernel
theorem s4_6 {rm : Room} {S : List Value} {H : AHeap} {Q : Option Value → AHeap → Prop} {l0 l1 l2 : Slot} {x : Int32} (ho : one l2 = true) (h : W4 rm 7 [l0, l1, .val (.int x)] (S) (H) Q) : W4 rm 6 [l0, l1, l2] (.int x :: S) H Q := W.istore_n d4_6 rfl ho h
theorem s4_6s {rm : Room} {S : List Value} {H : AHeap} {Q : Option Value → AHeap → Prop} {l0 l1 : Slot} {x : Int32} (h : W4 rm 7 [l0, .unset, .val (.int x)] (S) (H) Q) : W4 rm 6 [l0, l1, .second] (.int x :: S) H Q := W.istore_nS d4_6 rfl (by decide) h
theorem d4_7 : decode prog_12_method_4_code 7 = .ok (.iload_n 2, 1) := by decide +kernel
theorem s4_7 {rm : Room} {S : List Value} {H : AHeap} {Q : Option Value → AHeap → Prop} {l0 l1 : Slot} {x : Int32} (h : W4 rm 8 [l0, l1, .val (.int x)] (.int x :: S) (H) Q) : W4 rm 7 [l0, l1, .val (.int x)] (S) H Q := W.iload_n d4_7 rfl h
theorem d4_8 : decode prog_12_method_4_code 8 = .ok (.iconst 1, 1) := by decide +kernel
theorem s4_8 {rm : Room} {S : List Value} {H : AHeap} {Q : Option Value → AHeap → Prop} {l0 l1 l2 : Slot}  (h : W4 rm 9 [l0, l1, l2] (.int 1 :: S) (H) Q) : W4 rm 8 [l0, l1, l2] (S) H Q := W.iconst' d4_8 (by decide) h
theorem d4_9 : decode prog_12_method_4_code 9 = .ok (.iadd, 1) := by decide +kernel
theorem s4_9 {rm : Room} {S : List Value} {H : AHeap} {Q : Option Value → AHeap → Prop} {l0 l1 l2 : Slot} {x y : Int32} (h : W4 rm 10 [l0, l1, l2] (.int (x + y) :: S) (H) Q) : W4 rm 9 [l0, l1, l2] (.int y :: .int x :: S) H Q := W.iadd d4_9 h
theorem d4_10 : decode prog_12_method_4_code 10 = .ok (.i2l, 1) := by decide +kernel
theorem s4_10 {rm : Room} {S : List Value} {H : AHeap} {Q : Option Value → AHeap → Prop} {l0 l1 l2 : Slot} {x : Int32} (h : W4 rm 11 [l0, l1, l2] (.long x.toInt64 :: S) (H) Q) : W4 rm 10 [l0, l1, l2] (.int x :: S) H Q := W.i2l d4_10 h
theorem d4_11 : decode prog_12_method_4_code 11 = .ok (.iload_n 2, 1) := by decide +kernel
theorem s4_11 {rm : Room} {S : List Value} {H : AHeap} {Q : Option Value → AHeap → Prop} {l0 l1 : Slot} {x : Int32} (h : W4 rm 12 [l0, l1, .val (.int x)] (.int x :: S) (H) Q) : W4 rm 11 [l0, l1, .val (.int x)] (S) H Q := W.iload_n d4_11 rfl h
theorem d4_12 : decode prog_12_method_4_code 12 = .ok (.aload_n 0, 1) := by decide +kernel
theorem s4_12 {rm : Room} {S : List Value} {H : AHeap} {Q : Option Value → AHeap → Prop} {l1 l2 : Slot} {i : Nat} (h : W4 rm 13 [.val (.ref i), l1, l2] (.ref i :: S) (H) Q) : W4 rm 12 [.val (.ref i), l1, l2] (S) H Q := W.aload_n d4_12 rfl rfl h
theorem s4_12n {rm : Room} {S : List Value} {H : AHeap} {Q : Option Value → AHeap → Prop} {l1 l2 : Slot}  (h : W4 rm 13 [.val .null, l1, l2] (.null :: S) (H) Q) : W4 rm 12 [.val .null, l1, l2] (S) H Q := W.aload_n d4_12 rfl rfl h
theorem d4_13 : decode prog_12_method_4_code 13 = .ok (.getfield 7, 3) := by decide +kernel
theorem s4_13 {rm : Room} {S : List Value} {H : AHeap} {Q : Option Value → AHeap → Prop} {l0 l1 l2 : Slot} {i : Nat} {f0 f1 f2 f3 f4 : Value} (hH : H[i]? = some (.inl (0, [f0, f1, f2, f3, f4]))) (h : W4 rm 16 [l0, l1, l2] (f0 :: S) (H) Q) : W4 rm 13 [l0, l1, l2] (.ref i :: S) H Q := W.getF (c := 0) (j := 0) d4_13 (host := "") (Or.inl (List.mem_of_getElem? (i := 14) rfl)) (Or.inl rfl) rfl rfl hH rfl h
theorem d4_16 : decode prog_12_method_4_code 16 = .ok (.if_icmp .gt 12, 3) := by decide +kernel
theorem s4_16 {rm : Room} {S : List Value} {H : AHeap} {Q : Option Value → AHeap → Prop} {l0 l1 l2 : Slot} {x y : Int32} (h1 : y < x → W4 rm 28 [l0, l1, l2] S H Q) (h2 : ¬ y < x → W4 rm 19 [l0, l1, l2] S H Q) : W4 rm 16 [l0, l1, l2] (.int y :: .int x :: S) H Q := W.icmp d4_16 (by decide) (by decide) h1 h2
theorem d4_19 : decode prog_12_method_4_code 19 = .ok (.aload_n 0, 1) := by decide +kernel
theorem s4_19 {rm : Room} {S : List Value} {H : AHeap} {Q : Option Value → AHeap → Prop} {l1 l2 : Slot} {i : Nat} (h : W4 rm 20 [.val (.ref i), l1, l2] (.ref i :: S) (H) Q) : W4 rm 19 [.val (.ref i), l1, l2] (S) H Q := W.aload_n d4_19 rfl rfl h
theorem s4_19n {rm : Room} {S : List Value} {H : AHeap} {Q : Option Value → AHeap → Prop} {l1 l2 : Slot}  (h : W4 rm 20 [.val .null, l1, l2] (.null :: S) (H) Q) : W4 rm 19 [.val .null, l1, l2] (S) H Q := W.aload_n d4_19 rfl rfl h
theorem d4_20 : decode prog_12_method_4_code 20 = .ok (.getfield 20, 3) := by decide +kernel
theorem s4_20 {rm : Room} {S : List Value} {H : AHeap} {Q : Option Value → AHeap → Prop} {l0 l1 l2 : Slot} {i : Nat} {f0 f1 f2 f3 f4 : Value} (hH : H[i]? = some (.inl (0, [f0, f1, f2, f3, f4]))) (h : W4 rm 23 [l0, l1, l2] (f3 :: S) (H) Q) : W4 rm 20 [l0, l1, l2] (.ref i :: S) H Q := W.getF (c := 0) (j := 3) d4_20 (host := "") (Or.inl (List.mem_of_getElem? (i := 21) rfl)) (Or.inl rfl) rfl rfl hH rfl h
theorem d4_23 : decode prog_12_method_4_code 23 = .ok (.iload_n 2, 1) := by decide +kernel
theorem s4_23 {rm : Room} {S : List Value} {H : AHeap} {Q : Option Value → AHeap → Prop} {l0 l1 : Slot} {x : Int32} (h : W4 rm 24 [l0, l1, .val (.int x)] (.int x :: S) (H) Q) : W4 rm 23 [l0, l1, .val (.int x)] (S) H Q := W.iload_n d4_23 rfl h
theorem d4_24 : decode prog_12_method_4_code 24 = .ok (.laload, 1) := by decide +kernel
theorem s4_24 {rm : Room} {S : List Value} {H : AHeap} {Q : Option Value → AHeap → Prop} {l0 l1 l2 : Slot} {i : Nat} {j : Int32} {vs : List Value} {v : Value} (N : Nat) (hH : H[i]? = some (.inr (.long, vs))) (hj : ix j N) (hv : vs[N]? = some v) (h : W4 rm 25 [l0, l1, l2] (v :: S) (H) Q) : W4 rm 24 [l0, l1, l2] (.int j :: .ref i :: S) H Q := W.xaload (Or.inr (Or.inl ⟨rfl, rfl⟩)) d4_24 hH hj hv h
theorem d4_25 : decode prog_12_method_4_code 25 = .ok (.goto 7, 3) := by decide +kernel
theorem s4_25 {rm : Room} {S : List Value} {H : AHeap} {Q : Option Value → AHeap → Prop} {l0 l1 l2 : Slot}  (h : W4 rm 32 [l0, l1, l2] (S) (H) Q) : W4 rm 25 [l0, l1, l2] (S) H Q := W.goto d4_25 (by decide) (by decide) h
theorem d4_28 : decode prog_12_method_4_code 28 = .ok (.aload_n 0, 1) := by decide +kernel
theorem s4_28 {rm : Room} {S : List Value} {H : AHeap} {Q : Option Value → AHeap → Prop} {l1 l2 : Slot} {i : Nat} (h : W4 rm 29 [.val (.ref i), l1, l2] (.ref i :: S) (H) Q) : W4 rm 28 [.val (.ref i), l1, l2] (S) H Q := W.aload_n d4_28 rfl rfl h
theorem s4_28n {rm : Room} {S : List Value} {H : AHeap} {Q : Option Value → AHeap → Prop} {l1 l2 : Slot}  (h : W4 rm 29 [.val .null, l1, l2] (.null :: S) (H) Q) : W4 rm 28 [.val .null, l1, l2] (S) H Q := W.aload_n d4_28 rfl rfl h
theorem d4_29 : decode prog_12_method_4_code 29 = .ok (.getfield 24, 3) := by decide +kernel
theorem s4_29 {rm : Room} {S : List Value} {H : AHeap} {Q : Option Value → AHeap → Prop} {l0 l1 l2 : Slot} {i : Nat} {f0 f1 f2 f3 f4 : Value} (hH : H[i]? = some (.inl (0, [f0, f1, f2, f3, f4]))) (h : W4 rm 32 [l0, l1, l2] (f4 :: S) (H) Q) : W4 rm 29 [l0, l1, l2] (.ref i :: S) H Q := W.getF (c := 0) (j := 4) d4_29 (host := "") (Or.inl (List.mem_of_getElem? (i := 28) rfl)) (Or.inl rfl) rfl rfl hH rfl h
theorem d4_32 : decode prog_12_method_4_code 32 = .ok (.ladd, 1) := by decide +kernel
theorem s4_32 {rm : Room} {S : List Value} {H : AHeap} {Q : Option Value → AHeap → Prop} {l0 l1 l2 : Slot} {x y : Int64} (h : W4 rm 33 [l0, l1, l2] (.long (x + y) :: S) (H) Q) : W4 rm 32 [l0, l1, l2] (.long y :: .long x :: S) H Q := W.ladd d4_32 h
theorem d4_33 : decode prog_12_method_4_code 33 = .ok (.lreturn, 1) := by decide +kernel
theorem s4_33 {rm : Room} {S : List Value} {H : AHeap} {Q : Option Value → AHeap → Prop} {l0 l1 l2 : Slot} {x : Int64} (hQ : Q (some (.long x)) H) : W4 rm 33 [l0, l1, l2] (.long x :: S) H Q := W.lreturn d4_33 rfl hQ
theorem e5 {rm : Room} {H : AHeap} {Q : Option Value → AHeap → Prop} {a0 : Int32} {a1 : Int32} {a2 : Int32} {a3 : Int64} {a4 : Int32} {a5 : Int32} {a6 : Int64} (h : W5 rm 0 [.val (.int a0), .val (.int a1), .val (.int a2), .val (.long a3), .second, .val (.int a4), .val (.int a5), .val (.long a6), .second, .unset, .unset] [] H Q) : M5 rm [.int a0, .int a1, .int a2, .long a3, .int a4, .int a5, .long a6] H Q := M.of pf5 rfl rfl h
theorem e5L {rm : Room} {H : AHeap} {Q : Option Value → AHeap → Prop} {L : List Slot} {as : List Value} (h : W5 rm 0 L [] H Q) (hl : ent as ++ List.replicate (11 - (ent as).length) .unset = L := by rfl) (hn : L.length = 11 := by rfl) : M5 rm as H Q := M.of pf5 hl hn h
theorem d5_0 : decode method_3_code 0 = .ok (.iload_n 0, 1) := by decide +kernel
theorem s5_0 {rm : Room} {S : List Value} {H : AHeap} {Q : Option Value → AHeap → Prop} {l1 l2 l3 l4 l5 l6 l7 l8 l9 l10 : Slot} {x : Int32} (h : W5 rm 1 [.val (.int x), l1, l2, l3, l4, l5, l6, l7, l8, l9, l10] (.int x :: S) (H) Q) : W5 rm 0 [.val (.int x), l1, l2, l3, l4, l5, l6, l7, l8, l9, l10] (S) H Q := W.iload_n d5_0 rfl h
theorem d5_1 : decode method_3_code 1 = .ok (.iconst 1, 1) := by decide +kernel
theorem s5_1 {rm : Room} {S : List Value} {H : AHeap} {Q : Option Value → AHeap → Prop} {l0 l1 l2 l3 l4 l5 l6 l7 l8 l9 l10 : Slot}  (h : W5 rm 2 [l0, l1, l2, l3, l4, l5, l6, l7, l8, l9, l10] (.int 1 :: S) (H) Q) : W5 rm 1 [l0, l1, l2, l3, l4, l5, l6, l7, l8, l9, l10] (S) H Q := W.iconst' d5_1 (by decide) h
theorem d5_2 : decode method_3_code 2 = .ok (.iadd, 1) := by decide +kernel
theorem s5_2 {rm : Room} {S : List Value} {H : AHeap} {Q : Option Value → AHeap → Prop} {l0 l1 l2 l3 l4 l5 l6 l7 l8 l9 l10 : Slot} {x y : Int32} (h : W5 rm 3 [l0, l1, l2, l3, l4, l5, l6, l7, l8, l9, l10] (.int (x + y) :: S) (H) Q) : W5 rm 2 [l0, l1, l2, l3, l4, l5, l6, l7, l8, l9, l10] (.int y :: .int x :: S) H Q := W.iadd d5_2 h
theorem d5_3 : decode method_3_code 3 = .ok (.i2l, 1) := by decide +kernel
theorem s5_3 {rm : Room} {S : List Value} {H : AHeap} {Q : Option Value → AHeap → Prop} {l0 l1 l2 l3 l4 l5 l6 l7 l8 l9 l10 : Slot} {x : Int32} (h : W5 rm 4 [l0, l1, l2, l3, l4, l5, l6, l7, l8, l9, l10] (.long x.toInt64 :: S) (H) Q) : W5 rm 3 [l0, l1, l2, l3, l4, l5, l6, l7, l8, l9, l10] (.int x :: S) H Q := W.i2l d5_3 h
theorem d5_4 : decode method_3_code 4 = .ok (.lstore 9, 2) := by decide +kernel
theorem s5_4 {rm : Room} {S : List Value} {H : AHeap} {Q : Option Value → AHeap → Prop} {l0 l1 l2 l3 l4 l5 l6 l7 l8 l9 l10 : Slot} {x : Int64} (ho : two l9 l10 = true) (h : W5 rm 6 [l0, l1, l2, l3, l4, l5, l6, l7, l8, .val (.long x), .second] (S) (H) Q) : W5 rm 4 [l0, l1, l2, l3, l4, l5, l6, l7, l8, l9, l10] (.long x :: S) H Q := W.lstore d5_4 rfl rfl ho h
theorem d5_6 : decode method_3_code 6 = .ok (.iload_n 1, 1) := by decide +kernel
theorem s5_6 {rm : Room} {S : List Value} {H : AHeap} {Q : Option Value → AHeap → Prop} {l0 l2 l3 l4 l5 l6 l7 l8 l9 l10 : Slot} {x : Int32} (h : W5 rm 7 [l0, .val (.int x), l2, l3, l4, l5, l6, l7, l8, l9, l10] (.int x :: S) (H) Q) : W5 rm 6 [l0, .val (.int x), l2, l3, l4, l5, l6, l7, l8, l9, l10] (S) H Q := W.iload_n d5_6 rfl h
theorem d5_7 : decode method_3_code 7 = .ok (.ifCond .eq 14, 3) := by decide +kernel
theorem s5_7 {rm : Room} {S : List Value} {H : AHeap} {Q : Option Value → AHeap → Prop} {l0 l1 l2 l3 l4 l5 l6 l7 l8 l9 l10 : Slot} {x : Int32} (h1 : x = 0 → W5 rm 21 [l0, l1, l2, l3, l4, l5, l6, l7, l8, l9, l10] S H Q) (h2 : ¬ x = 0 → W5 rm 10 [l0, l1, l2, l3, l4, l5, l6, l7, l8, l9, l10] S H Q) : W5 rm 7 [l0, l1, l2, l3, l4, l5, l6, l7, l8, l9, l10] (.int x :: S) H Q := W.ifc d5_7 (by decide) (by decide) h1 h2
theorem d5_10 : decode method_3_code 10 = .ok (.iload_n 0, 1) := by decide +kernel
theorem s5_10 {rm : Room} {S : List Value} {H : AHeap} {Q : Option Value → AHeap → Prop} {l1 l2 l3 l4 l5 l6 l7 l8 l9 l10 : Slot} {x : Int32} (h : W5 rm 11 [.val (.int x), l1, l2, l3, l4, l5, l6, l7, l8, l9, l10] (.int x :: S) (H) Q) : W5 rm 10 [.val (.int x), l1, l2, l3, l4, l5, l6, l7, l8, l9, l10] (S) H Q := W.iload_n d5_10 rfl h
theorem d5_11 : decode method_3_code 11 = .ok (.iload_n 2, 1) := by decide +kernel
theorem s5_11 {rm : Room} {S : List Value} {H : AHeap} {Q : Option Value → AHeap → Prop} {l0 l1 l3 l4 l5 l6 l7 l8 l9 l10 : Slot} {x : Int32} (h : W5 rm 12 [l0, l1, .val (.int x), l3, l4, l5, l6, l7, l8, l9, l10] (.int x :: S) (H) Q) : W5 rm 11 [l0, l1, .val (.int x), l3, l4, l5, l6, l7, l8, l9, l10] (S) H Q := W.iload_n d5_11 rfl h
theorem d5_12 : decode method_3_code 12 = .ok (.if_icmp .lt 9, 3) := by decide +kernel
theorem s5_12 {rm : Room} {S : List Value} {H : AHeap} {Q : Option Value → AHeap → Prop} {l0 l1 l2 l3 l4 l5 l6 l7 l8 l9 l10 : Slot} {x y : Int32} (h1 : x < y → W5 rm 21 [l0, l1, l2, l3, l4, l5, l6, l7, l8, l9, l10] S H Q) (h2 : ¬ x < y → W5 rm 15 [l0, l1, l2, l3, l4, l5, l6, l7, l8, l9, l10] S H Q) : W5 rm 12 [l0, l1, l2, l3, l4, l5, l6, l7, l8, l9, l10] (.int y :: .int x :: S) H Q := W.icmp d5_12 (by decide) (by decide) h1 h2
theorem d5_15 : decode method_3_code 15 = .ok (.lload 9, 2) := by decide +kernel
theorem s5_15 {rm : Room} {S : List Value} {H : AHeap} {Q : Option Value → AHeap → Prop} {l0 l1 l2 l3 l4 l5 l6 l7 l8 l10 : Slot} {x : Int64} (h : W5 rm 17 [l0, l1, l2, l3, l4, l5, l6, l7, l8, .val (.long x), l10] (.long x :: S) (H) Q) : W5 rm 15 [l0, l1, l2, l3, l4, l5, l6, l7, l8, .val (.long x), l10] (S) H Q := W.lload d5_15 rfl h
theorem d5_17 : decode method_3_code 17 = .ok (.lload_n 3, 1) := by decide +kernel
theorem s5_17 {rm : Room} {S : List Value} {H : AHeap} {Q : Option Value → AHeap → Prop} {l0 l1 l2 l4 l5 l6 l7 l8 l9 l10 : Slot} {x : Int64} (h : W5 rm 18 [l0, l1, l2, .val (.long x), l4, l5, l6, l7, l8, l9, l10] (.long x :: S) (H) Q) : W5 rm 17 [l0, l1, l2, .val (.long x), l4, l5, l6, l7, l8, l9, l10] (S) H Q := W.lload_n d5_17 rfl h
theorem d5_18 : decode method_3_code 18 = .ok (.ladd, 1) := by decide +kernel
theorem s5_18 {rm : Room} {S : List Value} {H : AHeap} {Q : Option Value → AHeap → Prop} {l0 l1 l2 l3 l4 l5 l6 l7 l8 l9 l10 : Slot} {x y : Int64} (h : W5 rm 19 [l0, l1, l2, l3, l4, l5, l6, l7, l8, l9, l10] (.long (x + y) :: S) (H) Q) : W5 rm 18 [l0, l1, l2, l3, l4, l5, l6, l7, l8, l9, l10] (.long y :: .long x :: S) H Q := W.ladd d5_18 h
theorem d5_19 : decode method_3_code 19 = .ok (.lstore 9, 2) := by decide +kernel
theorem s5_19 {rm : Room} {S : List Value} {H : AHeap} {Q : Option Value → AHeap → Prop} {l0 l1 l2 l3 l4 l5 l6 l7 l8 l9 l10 : Slot} {x : Int64} (ho : two l9 l10 = true) (h : W5 rm 21 [l0, l1, l2, l3, l4, l5, l6, l7, l8, .val (.long x), .second] (S) (H) Q) : W5 rm 19 [l0, l1, l2, l3, l4, l5, l6, l7, l8, l9, l10] (.long x :: S) H Q := W.lstore d5_19 rfl rfl ho h
theorem d5_21 : decode method_3_code 21 = .ok (.iload 5, 2) := by decide +kernel
theorem s5_21 {rm : Room} {S : List Value} {H : AHeap} {Q : Option Value → AHeap → Prop} {l0 l1 l2 l3 l4 l6 l7 l8 l9 l10 : Slot} {x : Int32} (h : W5 rm 23 [l0, l1, l2, l3, l4, .val (.int x), l6, l7, l8, l9, l10] (.int x :: S) (H) Q) : W5 rm 21 [l0, l1, l2, l3, l4, .val (.int x), l6, l7, l8, l9, l10] (S) H Q := W.iload d5_21 rfl h
theorem d5_23 : decode method_3_code 23 = .ok (.ifCond .eq 16, 3) := by decide +kernel
theorem s5_23 {rm : Room} {S : List Value} {H : AHeap} {Q : Option Value → AHeap → Prop} {l0 l1 l2 l3 l4 l5 l6 l7 l8 l9 l10 : Slot} {x : Int32} (h1 : x = 0 → W5 rm 39 [l0, l1, l2, l3, l4, l5, l6, l7, l8, l9, l10] S H Q) (h2 : ¬ x = 0 → W5 rm 26 [l0, l1, l2, l3, l4, l5, l6, l7, l8, l9, l10] S H Q) : W5 rm 23 [l0, l1, l2, l3, l4, l5, l6, l7, l8, l9, l10] (.int x :: S) H Q := W.ifc d5_23 (by decide) (by decide) h1 h2
theorem d5_26 : decode method_3_code 26 = .ok (.iload_n 0, 1) := by decide +kernel
theorem s5_26 {rm : Room} {S : List Value} {H : AHeap} {Q : Option Value → AHeap → Prop} {l1 l2 l3 l4 l5 l6 l7 l8 l9 l10 : Slot} {x : Int32} (h : W5 rm 27 [.val (.int x), l1, l2, l3, l4, l5, l6, l7, l8, l9, l10] (.int x :: S) (H) Q) : W5 rm 26 [.val (.int x), l1, l2, l3, l4, l5, l6, l7, l8, l9, l10] (S) H Q := W.iload_n d5_26 rfl h
theorem d5_27 : decode method_3_code 27 = .ok (.iload 6, 2) := by decide +kernel
theorem s5_27 {rm : Room} {S : List Value} {H : AHeap} {Q : Option Value → AHeap → Prop} {l0 l1 l2 l3 l4 l5 l7 l8 l9 l10 : Slot} {x : Int32} (h : W5 rm 29 [l0, l1, l2, l3, l4, l5, .val (.int x), l7, l8, l9, l10] (.int x :: S) (H) Q) : W5 rm 27 [l0, l1, l2, l3, l4, l5, .val (.int x), l7, l8, l9, l10] (S) H Q := W.iload d5_27 rfl h
theorem d5_29 : decode method_3_code 29 = .ok (.if_icmp .lt 10, 3) := by decide +kernel
theorem s5_29 {rm : Room} {S : List Value} {H : AHeap} {Q : Option Value → AHeap → Prop} {l0 l1 l2 l3 l4 l5 l6 l7 l8 l9 l10 : Slot} {x y : Int32} (h1 : x < y → W5 rm 39 [l0, l1, l2, l3, l4, l5, l6, l7, l8, l9, l10] S H Q) (h2 : ¬ x < y → W5 rm 32 [l0, l1, l2, l3, l4, l5, l6, l7, l8, l9, l10] S H Q) : W5 rm 29 [l0, l1, l2, l3, l4, l5, l6, l7, l8, l9, l10] (.int y :: .int x :: S) H Q := W.icmp d5_29 (by decide) (by decide) h1 h2
theorem d5_32 : decode method_3_code 32 = .ok (.lload 9, 2) := by decide +kernel
theorem s5_32 {rm : Room} {S : List Value} {H : AHeap} {Q : Option Value → AHeap → Prop} {l0 l1 l2 l3 l4 l5 l6 l7 l8 l10 : Slot} {x : Int64} (h : W5 rm 34 [l0, l1, l2, l3, l4, l5, l6, l7, l8, .val (.long x), l10] (.long x :: S) (H) Q) : W5 rm 32 [l0, l1, l2, l3, l4, l5, l6, l7, l8, .val (.long x), l10] (S) H Q := W.lload d5_32 rfl h
theorem d5_34 : decode method_3_code 34 = .ok (.lload 7, 2) := by decide +kernel
theorem s5_34 {rm : Room} {S : List Value} {H : AHeap} {Q : Option Value → AHeap → Prop} {l0 l1 l2 l3 l4 l5 l6 l8 l9 l10 : Slot} {x : Int64} (h : W5 rm 36 [l0, l1, l2, l3, l4, l5, l6, .val (.long x), l8, l9, l10] (.long x :: S) (H) Q) : W5 rm 34 [l0, l1, l2, l3, l4, l5, l6, .val (.long x), l8, l9, l10] (S) H Q := W.lload d5_34 rfl h
theorem d5_36 : decode method_3_code 36 = .ok (.ladd, 1) := by decide +kernel
theorem s5_36 {rm : Room} {S : List Value} {H : AHeap} {Q : Option Value → AHeap → Prop} {l0 l1 l2 l3 l4 l5 l6 l7 l8 l9 l10 : Slot} {x y : Int64} (h : W5 rm 37 [l0, l1, l2, l3, l4, l5, l6, l7, l8, l9, l10] (.long (x + y) :: S) (H) Q) : W5 rm 36 [l0, l1, l2, l3, l4, l5, l6, l7, l8, l9, l10] (.long y :: .long x :: S) H Q := W.ladd d5_36 h
theorem d5_37 : decode method_3_code 37 = .ok (.lstore 9, 2) := by decide +kernel
theorem s5_37 {rm : Room} {S : List Value} {H : AHeap} {Q : Option Value → AHeap → Prop} {l0 l1 l2 l3 l4 l5 l6 l7 l8 l9 l10 : Slot} {x : Int64} (ho : two l9 l10 = true) (h : W5 rm 39 [l0, l1, l2, l3, l4, l5, l6, l7, l8, .val (.long x), .second] (S) (H) Q) : W5 rm 37 [l0, l1, l2, l3, l4, l5, l6, l7, l8, l9, l10] (.long x :: S) H Q := W.lstore d5_37 rfl rfl ho h
theorem d5_39 : decode method_3_code 39 = .ok (.lload 9, 2) := by decide +kernel
theorem s5_39 {rm : Room} {S : List Value} {H : AHeap} {Q : Option Value → AHeap → Prop} {l0 l1 l2 l3 l4 l5 l6 l7 l8 l10 : Slot} {x : Int64} (h : W5 rm 41 [l0, l1, l2, l3, l4, l5, l6, l7, l8, .val (.long x), l10] (.long x :: S) (H) Q) : W5 rm 39 [l0, l1, l2, l3, l4, l5, l6, l7, l8, .val (.long x), l10] (S) H Q := W.lload d5_39 rfl h
theorem d5_41 : decode method_3_code 41 = .ok (.lreturn, 1) := by decide +kernel
theorem s5_41 {rm : Room} {S : List Value} {H : AHeap} {Q : Option Value → AHeap → Prop} {l0 l1 l2 l3 l4 l5 l6 l7 l8 l9 l10 : Slot} {x : Int64} (hQ : Q (some (.long x)) H) : W5 rm 41 [l0, l1, l2, l3, l4, l5, l6, l7, l8, l9, l10] (.long x :: S) H Q := W.lreturn d5_41 rfl hQ
theorem e6 {rm : Room} {H : AHeap} {Q : Option Value → AHeap → Prop} {a0 : Nat} {a1 : Int64} (h : W6 rm 0 [.val (.ref a0), .val (.long a1), .second, .unset, .unset] [] H Q) : M6 rm [.ref a0, .long a1] H Q := M.of pf6 rfl rfl h
theorem e6L {rm : Room} {H : AHeap} {Q : Option Value → AHeap → Prop} {L : List Slot} {as : List Value} (h : W6 rm 0 L [] H Q) (hl : ent as ++ List.replicate (5 - (ent as).length) .unset = L := by rfl) (hn : L.length = 5 := by rfl) : M6 rm as H Q := M.of pf6 hl hn h
theorem d6_0 : decode prog_12_method_5_code 0 = .ok (.lload_n 1, 1) := by decide +kernel
theorem s6_0 {rm : Room} {S : List Value} {H : AHeap} {Q : Option Value → AHeap → Prop} {l0 l2 l3 l4 : Slot} {x : Int64} (h : W6 rm 1 [l0, .val (.long x), l2, l3, l4] (.long x :: S) (H) Q) : W6 rm 0 [l0, .val (.long x), l2, l3, l4] (S) H Q := W.lload_n d6_0 rfl h
theorem d6_1 : decode prog_12_method_5_code 1 = .ok (.lconst 1, 1) := by decide +kernel
theorem s6_1 {rm : Room} {S : List Value} {H : AHeap} {Q : Option Value → AHeap → Prop} {l0 l1 l2 l3 l4 : Slot}  (h : W6 rm 2 [l0, l1, l2, l3, l4] (.long 1 :: S) (H) Q) : W6 rm 1 [l0, l1, l2, l3, l4] (S) H Q := W.lconst' d6_1 (by decide) h
theorem d6_2 : decode prog_12_method_5_code 2 = .ok (.lsub, 1) := by decide +kernel
theorem s6_2 {rm : Room} {S : List Value} {H : AHeap} {Q : Option Value → AHeap → Prop} {l0 l1 l2 l3 l4 : Slot} {x y : Int64} (h : W6 rm 3 [l0, l1, l2, l3, l4] (.long (x - y) :: S) (H) Q) : W6 rm 2 [l0, l1, l2, l3, l4] (.long y :: .long x :: S) H Q := W.lsub d6_2 h
theorem d6_3 : decode prog_12_method_5_code 3 = .ok (.aload_n 0, 1) := by decide +kernel
theorem s6_3 {rm : Room} {S : List Value} {H : AHeap} {Q : Option Value → AHeap → Prop} {l1 l2 l3 l4 : Slot} {i : Nat} (h : W6 rm 4 [.val (.ref i), l1, l2, l3, l4] (.ref i :: S) (H) Q) : W6 rm 3 [.val (.ref i), l1, l2, l3, l4] (S) H Q := W.aload_n d6_3 rfl rfl h
theorem s6_3n {rm : Room} {S : List Value} {H : AHeap} {Q : Option Value → AHeap → Prop} {l1 l2 l3 l4 : Slot}  (h : W6 rm 4 [.val .null, l1, l2, l3, l4] (.null :: S) (H) Q) : W6 rm 3 [.val .null, l1, l2, l3, l4] (S) H Q := W.aload_n d6_3 rfl rfl h
theorem d6_4 : decode prog_12_method_5_code 4 = .ok (.getfield 24, 3) := by decide +kernel
theorem s6_4 {rm : Room} {S : List Value} {H : AHeap} {Q : Option Value → AHeap → Prop} {l0 l1 l2 l3 l4 : Slot} {i : Nat} {f0 f1 f2 f3 f4 : Value} (hH : H[i]? = some (.inl (0, [f0, f1, f2, f3, f4]))) (h : W6 rm 7 [l0, l1, l2, l3, l4] (f4 :: S) (H) Q) : W6 rm 4 [l0, l1, l2, l3, l4] (.ref i :: S) H Q := W.getF (c := 0) (j := 4) d6_4 (host := "") (Or.inl (List.mem_of_getElem? (i := 28) rfl)) (Or.inl rfl) rfl rfl hH rfl h
theorem d6_7 : decode prog_12_method_5_code 7 = .ok (.lsub, 1) := by decide +kernel
theorem s6_7 {rm : Room} {S : List Value} {H : AHeap} {Q : Option Value → AHeap → Prop} {l0 l1 l2 l3 l4 : Slot} {x y : Int64} (h : W6 rm 8 [l0, l1, l2, l3, l4] (.long (x - y) :: S) (H) Q) : W6 rm 7 [l0, l1, l2, l3, l4] (.long y :: .long x :: S) H Q := W.lsub d6_7 h
theorem d6_8 : decode prog_12_method_5_code 8 = .ok (.lstore_n 3, 1) := by decide +kernel
theorem s6_8 {rm : Room} {S : List Value} {H : AHeap} {Q : Option Value → AHeap → Prop} {l0 l1 l2 l3 l4 : Slot} {x : Int64} (ho : two l3 l4 = true) (h : W6 rm 9 [l0, l1, l2, .val (.long x), .second] (S) (H) Q) : W6 rm 8 [l0, l1, l2, l3, l4] (.long x :: S) H Q := W.lstore_n d6_8 rfl rfl ho h
theorem d6_9 : decode prog_12_method_5_code 9 = .ok (.lload_n 3, 1) := by decide +kernel
theorem s6_9 {rm : Room} {S : List Value} {H : AHeap} {Q : Option Value → AHeap → Prop} {l0 l1 l2 l4 : Slot} {x : Int64} (h : W6 rm 10 [l0, l1, l2, .val (.long x), l4] (.long x :: S) (H) Q) : W6 rm 9 [l0, l1, l2, .val (.long x), l4] (S) H Q := W.lload_n d6_9 rfl h
theorem d6_10 : decode prog_12_method_5_code 10 = .ok (.aload_n 0, 1) := by decide +kernel
theorem s6_10 {rm : Room} {S : List Value} {H : AHeap} {Q : Option Value → AHeap → Prop} {l1 l2 l3 l4 : Slot} {i : Nat} (h : W6 rm 11 [.val (.ref i), l1, l2, l3, l4] (.ref i :: S) (H) Q) : W6 rm 10 [.val (.ref i), l1, l2, l3, l4] (S) H Q := W.aload_n d6_10 rfl rfl h
theorem s6_10n {rm : Room} {S : List Value} {H : AHeap} {Q : Option Value → AHeap → Prop} {l1 l2 l3 l4 : Slot}  (h : W6 rm 11 [.val .null, l1, l2, l3, l4] (.null :: S) (H) Q) : W6 rm 10 [.val .null, l1, l2, l3, l4] (S) H Q := W.aload_n d6_10 rfl rfl h
theorem d6_11 : decode prog_12_method_5_code 11 = .ok (.getfield 13, 3) := by decide +kernel
theorem s6_11 {rm : Room} {S : List Value} {H : AHeap} {Q : Option Value → AHeap → Prop} {l0 l1 l2 l3 l4 : Slot} {i : Nat} {f0 f1 f2 f3 f4 : Value} (hH : H[i]? = some (.inl (0, [f0, f1, f2, f3, f4]))) (h : W6 rm 14 [l0, l1, l2, l3, l4] (f1 :: S) (H) Q) : W6 rm 11 [l0, l1, l2, l3, l4] (.ref i :: S) H Q := W.getF (c := 0) (j := 1) d6_11 (host := "") (Or.inl (List.mem_of_getElem? (i := 16) rfl)) (Or.inl rfl) rfl rfl hH rfl h
theorem d6_14 : decode prog_12_method_5_code 14 = .ok (.arraylength, 1) := by decide +kernel
theorem s6_14 {rm : Room} {S : List Value} {H : AHeap} {Q : Option Value → AHeap → Prop} {l0 l1 l2 l3 l4 : Slot} {i : Nat} {ty : FieldType} {vs : List Value} (hH : H[i]? = some (.inr (ty, vs))) (h : W6 rm 15 [l0, l1, l2, l3, l4] (.int (Int32.ofNat vs.length) :: S) (H) Q) : W6 rm 14 [l0, l1, l2, l3, l4] (.ref i :: S) H Q := W.arraylength d6_14 hH h
theorem s6_14k {rm : Room} {S : List Value} {H : AHeap} {Q : Option Value → AHeap → Prop} {l0 l1 l2 l3 l4 : Slot} {i : Nat} {ty : FieldType} {vs : List Value} (n : Int32) (hH : H[i]? = some (.inr (ty, vs))) (hn : Int32.ofNat vs.length = n) (h : W6 rm 15 [l0, l1, l2, l3, l4] (.int n :: S) (H) Q) : W6 rm 14 [l0, l1, l2, l3, l4] (.ref i :: S) H Q := W.arraylength d6_14 hH (by rw [hn]; exact h)
theorem d6_15 : decode prog_12_method_5_code 15 = .ok (.i2l, 1) := by decide +kernel
theorem s6_15 {rm : Room} {S : List Value} {H : AHeap} {Q : Option Value → AHeap → Prop} {l0 l1 l2 l3 l4 : Slot} {x : Int32} (h : W6 rm 16 [l0, l1, l2, l3, l4] (.long x.toInt64 :: S) (H) Q) : W6 rm 15 [l0, l1, l2, l3, l4] (.int x :: S) H Q := W.i2l d6_15 h
theorem d6_16 : decode prog_12_method_5_code 16 = .ok (.lcmp, 1) := by decide +kernel
theorem d6_17 : decode prog_12_method_5_code 17 = .ok (.ifCond .lt 5, 3) := by decide +kernel
theorem s6_17 {rm : Room} {S : List Value} {H : AHeap} {Q : Option Value → AHeap → Prop} {l0 l1 l2 l3 l4 : Slot} {x : Int32} (h1 : x < 0 → W6 rm 22 [l0, l1, l2, l3, l4] S H Q) (h2 : ¬ x < 0 → W6 rm 20 [l0, l1, l2, l3, l4] S H Q) : W6 rm 17 [l0, l1, l2, l3, l4] (.int x :: S) H Q := W.ifc d6_17 (by decide) (by decide) h1 h2
theorem s6_16c {rm : Room} {S : List Value} {H : AHeap} {Q : Option Value → AHeap → Prop} {l0 l1 l2 l3 l4 : Slot} {x y : Int64} (h1 : x < y → W6 rm 22 [l0, l1, l2, l3, l4] S H Q) (h2 : ¬ x < y → W6 rm 20 [l0, l1, l2, l3, l4] S H Q) : W6 rm 16 [l0, l1, l2, l3, l4] (.long y :: .long x :: S) H Q := W.lcif d6_16 rfl d6_17 (by decide) (by decide) h1 h2
theorem d6_20 : decode prog_12_method_5_code 20 = .ok (.iconst (-1), 1) := by decide +kernel
theorem s6_20 {rm : Room} {S : List Value} {H : AHeap} {Q : Option Value → AHeap → Prop} {l0 l1 l2 l3 l4 : Slot}  (h : W6 rm 21 [l0, l1, l2, l3, l4] (.int (-1) :: S) (H) Q) : W6 rm 20 [l0, l1, l2, l3, l4] (S) H Q := W.iconst' d6_20 (by decide) h
theorem d6_21 : decode prog_12_method_5_code 21 = .ok (.ireturn, 1) := by decide +kernel
theorem s6_21 {rm : Room} {S : List Value} {H : AHeap} {Q : Option Value → AHeap → Prop} {l0 l1 l2 l3 l4 : Slot} {x : Int32} (hQ : Q (some (.int x)) H) : W6 rm 21 [l0, l1, l2, l3, l4] (.int x :: S) H Q := W.ireturn d6_21 rfl hQ
theorem d6_22 : decode prog_12_method_5_code 22 = .ok (.aload_n 0, 1) := by decide +kernel
theorem s6_22 {rm : Room} {S : List Value} {H : AHeap} {Q : Option Value → AHeap → Prop} {l1 l2 l3 l4 : Slot} {i : Nat} (h : W6 rm 23 [.val (.ref i), l1, l2, l3, l4] (.ref i :: S) (H) Q) : W6 rm 22 [.val (.ref i), l1, l2, l3, l4] (S) H Q := W.aload_n d6_22 rfl rfl h
theorem s6_22n {rm : Room} {S : List Value} {H : AHeap} {Q : Option Value → AHeap → Prop} {l1 l2 l3 l4 : Slot}  (h : W6 rm 23 [.val .null, l1, l2, l3, l4] (.null :: S) (H) Q) : W6 rm 22 [.val .null, l1, l2, l3, l4] (S) H Q := W.aload_n d6_22 rfl rfl h
theorem d6_23 : decode prog_12_method_5_code 23 = .ok (.getfield 13, 3) := by decide +kernel
theorem s6_23 {rm : Room} {S : List Value} {H : AHeap} {Q : Option Value → AHeap → Prop} {l0 l1 l2 l3 l4 : Slot} {i : Nat} {f0 f1 f2 f3 f4 : Value} (hH : H[i]? = some (.inl (0, [f0, f1, f2, f3, f4]))) (h : W6 rm 26 [l0, l1, l2, l3, l4] (f1 :: S) (H) Q) : W6 rm 23 [l0, l1, l2, l3, l4] (.ref i :: S) H Q := W.getF (c := 0) (j := 1) d6_23 (host := "") (Or.inl (List.mem_of_getElem? (i := 16) rfl)) (Or.inl rfl) rfl rfl hH rfl h
theorem d6_26 : decode prog_12_method_5_code 26 = .ok (.lload_n 3, 1) := by decide +kernel
theorem s6_26 {rm : Room} {S : List Value} {H : AHeap} {Q : Option Value → AHeap → Prop} {l0 l1 l2 l4 : Slot} {x : Int64} (h : W6 rm 27 [l0, l1, l2, .val (.long x), l4] (.long x :: S) (H) Q) : W6 rm 26 [l0, l1, l2, .val (.long x), l4] (S) H Q := W.lload_n d6_26 rfl h
theorem d6_27 : decode prog_12_method_5_code 27 = .ok (.l2i, 1) := by decide +kernel
theorem s6_27 {rm : Room} {S : List Value} {H : AHeap} {Q : Option Value → AHeap → Prop} {l0 l1 l2 l3 l4 : Slot} {x : Int64} (h : W6 rm 28 [l0, l1, l2, l3, l4] (.int x.toInt32 :: S) (H) Q) : W6 rm 27 [l0, l1, l2, l3, l4] (.long x :: S) H Q := W.l2i d6_27 h
theorem d6_28 : decode prog_12_method_5_code 28 = .ok (.iaload, 1) := by decide +kernel
theorem s6_28 {rm : Room} {S : List Value} {H : AHeap} {Q : Option Value → AHeap → Prop} {l0 l1 l2 l3 l4 : Slot} {i : Nat} {j : Int32} {vs : List Value} {v : Value} (N : Nat) (hH : H[i]? = some (.inr (.int, vs))) (hj : ix j N) (hv : vs[N]? = some v) (h : W6 rm 29 [l0, l1, l2, l3, l4] (v :: S) (H) Q) : W6 rm 28 [l0, l1, l2, l3, l4] (.int j :: .ref i :: S) H Q := W.xaload (Or.inl ⟨rfl, rfl⟩) d6_28 hH hj hv h
theorem d6_29 : decode prog_12_method_5_code 29 = .ok (.ireturn, 1) := by decide +kernel
theorem s6_29 {rm : Room} {S : List Value} {H : AHeap} {Q : Option Value → AHeap → Prop} {l0 l1 l2 l3 l4 : Slot} {x : Int32} (hQ : Q (some (.int x)) H) : W6 rm 29 [l0, l1, l2, l3, l4] (.int x :: S) H Q := W.ireturn d6_29 rfl hQ
theorem b0_10 {rm : Room} {S : List Value} {H : AHeap} {Q : Option Value → AHeap → Prop} {l0 l1 l2 l3 l4 l5 l6 l7 l8 l9 l10 l11 l12 l13 l14 l15 l16 l17 : Slot} {x : Int32} (h : ∀ t : Int32, ((¬ x = 0) ∧ t = 1) ∨ ((x = 0) ∧ t = 0) → W0 rm 18 [l0, l1, l2, l3, l4, l5, l6, l7, l8, l9, l10, l11, l12, l13, l14, l15, l16, l17] (.int t :: S) H Q) : W0 rm 10 [l0, l1, l2, l3, l4, l5, l6, l7, l8, l9, l10, l11, l12, l13, l14, l15, l16, l17] (.int x :: S) H Q := s0_10 (fun q => s0_17 (h 0 (Or.inr ⟨q, rfl⟩))) (fun q => s0_13 (s0_14 (h 1 (Or.inl ⟨q, rfl⟩))))
theorem b0_89 {rm : Room} {S : List Value} {H : AHeap} {Q : Option Value → AHeap → Prop} {l0 l1 l2 l3 l4 l5 l6 l7 l8 l9 l10 l11 l12 l13 l14 l15 l16 l17 : Slot} {x : Int32} (h : ∀ t : Int32, ((¬ x = 0) ∧ t = 1) ∨ ((x = 0) ∧ t = 0) → W0 rm 97 [l0, l1, l2, l3, l4, l5, l6, l7, l8, l9, l10, l11, l12, l13, l14, l15, l16, l17] (.int t :: S) H Q) : W0 rm 89 [l0, l1, l2, l3, l4, l5, l6, l7, l8, l9, l10, l11, l12, l13, l14, l15, l16, l17] (.int x :: S) H Q := s0_89 (fun q => s0_96 (h 0 (Or.inr ⟨q, rfl⟩))) (fun q => s0_92 (s0_93 (h 1 (Or.inl ⟨q, rfl⟩))))
theorem b0_115 {rm : Room} {S : List Value} {H : AHeap} {Q : Option Value → AHeap → Prop} {l0 l1 l2 l3 l4 l5 l6 l7 l8 l9 l10 l11 l12 l13 l14 l15 l16 l17 : Slot} {x y : Int32} (h : ∀ t : Int32, ((y < x) ∧ t = 1) ∨ ((¬ y < x) ∧ t = 0) → W0 rm 123 [l0, l1, l2, l3, l4, l5, l6, l7, l8, l9, l10, l11, l12, l13, l14, l15, l16, l17] (.int t :: S) H Q) : W0 rm 115 [l0, l1, l2, l3, l4, l5, l6, l7, l8, l9, l10, l11, l12, l13, l14, l15, l16, l17] (.int y :: .int x :: S) H Q := s0_115 (fun q => s0_122 (h 0 (Or.inr ⟨q, rfl⟩))) (fun q => s0_118 (s0_119 (h 1 (Or.inl ⟨q, rfl⟩))))
theorem b0_194 {rm : Room} {S : List Value} {H : AHeap} {Q : Option Value → AHeap → Prop} {l0 l1 l2 l3 l4 l5 l6 l7 l8 l9 l10 l11 l12 l13 l14 l15 l16 l17 : Slot} {x : Int32} (h : ∀ t : Int32, ((x = 0) ∧ t = 1) ∨ ((¬ x = 0) ∧ t = 0) → W0 rm 202 [l0, l1, l2, l3, l4, l5, l6, l7, l8, l9, l10, l11, l12, l13, l14, l15, l16, l17] (.int t :: S) H Q) : W0 rm 194 [l0, l1, l2, l3, l4, l5, l6, l7, l8, l9, l10, l11, l12, l13, l14, l15, l16, l17] (.int x :: S) H Q := s0_194 (fun q => s0_201 (h 0 (Or.inr ⟨q, rfl⟩))) (fun q => s0_197 (s0_198 (h 1 (Or.inl ⟨q, rfl⟩))))
theorem b0_193c {rm : Room} {S : List Value} {H : AHeap} {Q : Option Value → AHeap → Prop} {l0 l1 l2 l3 l4 l5 l6 l7 l8 l9 l10 l11 l12 l13 l14 l15 l16 l17 : Slot} {x y : Int64} (h : ∀ t : Int32, ((x = y) ∧ t = 1) ∨ ((¬ x = y) ∧ t = 0) → W0 rm 202 [l0, l1, l2, l3, l4, l5, l6, l7, l8, l9, l10, l11, l12, l13, l14, l15, l16, l17] (.int t :: S) H Q) : W0 rm 193 [l0, l1, l2, l3, l4, l5, l6, l7, l8, l9, l10, l11, l12, l13, l14, l15, l16, l17] (.long y :: .long x :: S) H Q := s0_193c (fun q => s0_201 (h 0 (Or.inr ⟨q, rfl⟩))) (fun q => s0_197 (s0_198 (h 1 (Or.inl ⟨q, rfl⟩))))
theorem b0_234 {rm : Room} {S : List Value} {H : AHeap} {Q : Option Value → AHeap → Prop} {l0 l1 l2 l3 l4 l5 l6 l7 l8 l9 l10 l11 l12 l13 l14 l15 l16 l17 : Slot} {x : Int32} (h : ∀ t : Int32, ((x = 0) ∧ t = 1) ∨ ((¬ x = 0) ∧ t = 0) → W0 rm 242 [l0, l1, l2, l3, l4, l5, l6, l7, l8, l9, l10, l11, l12, l13, l14, l15, l16, l17] (.int t :: S) H Q) : W0 rm 234 [l0, l1, l2, l3, l4, l5, l6, l7, l8, l9, l10, l11, l12, l13, l14, l15, l16, l17] (.int x :: S) H Q := s0_234 (fun q => s0_241 (h 0 (Or.inr ⟨q, rfl⟩))) (fun q => s0_237 (s0_238 (h 1 (Or.inl ⟨q, rfl⟩))))
theorem b0_233c {rm : Room} {S : List Value} {H : AHeap} {Q : Option Value → AHeap → Prop} {l0 l1 l2 l3 l4 l5 l6 l7 l8 l9 l10 l11 l12 l13 l14 l15 l16 l17 : Slot} {x y : Int64} (h : ∀ t : Int32, ((x = y) ∧ t = 1) ∨ ((¬ x = y) ∧ t = 0) → W0 rm 242 [l0, l1, l2, l3, l4, l5, l6, l7, l8, l9, l10, l11, l12, l13, l14, l15, l16, l17] (.int t :: S) H Q) : W0 rm 233 [l0, l1, l2, l3, l4, l5, l6, l7, l8, l9, l10, l11, l12, l13, l14, l15, l16, l17] (.long y :: .long x :: S) H Q := s0_233c (fun q => s0_241 (h 0 (Or.inr ⟨q, rfl⟩))) (fun q => s0_237 (s0_238 (h 1 (Or.inl ⟨q, rfl⟩))))
theorem b0_274 {rm : Room} {S : List Value} {H : AHeap} {Q : Option Value → AHeap → Prop} {l0 l1 l2 l3 l4 l5 l6 l7 l8 l9 l10 l11 l12 l13 l14 l15 l16 l17 : Slot} {x : Int32} (h : ∀ t : Int32, ((x = 0) ∧ t = 1) ∨ ((¬ x = 0) ∧ t = 0) → W0 rm 282 [l0, l1, l2, l3, l4, l5, l6, l7, l8, l9, l10, l11, l12, l13, l14, l15, l16, l17] (.int t :: S) H Q) : W0 rm 274 [l0, l1, l2, l3, l4, l5, l6, l7, l8, l9, l10, l11, l12, l13, l14, l15, l16, l17] (.int x :: S) H Q := s0_274 (fun q => s0_281 (h 0 (Or.inr ⟨q, rfl⟩))) (fun q => s0_277 (s0_278 (h 1 (Or.inl ⟨q, rfl⟩))))
theorem b0_273c {rm : Room} {S : List Value} {H : AHeap} {Q : Option Value → AHeap → Prop} {l0 l1 l2 l3 l4 l5 l6 l7 l8 l9 l10 l11 l12 l13 l14 l15 l16 l17 : Slot} {x y : Int64} (h : ∀ t : Int32, ((x = y) ∧ t = 1) ∨ ((¬ x = y) ∧ t = 0) → W0 rm 282 [l0, l1, l2, l3, l4, l5, l6, l7, l8, l9, l10, l11, l12, l13, l14, l15, l16, l17] (.int t :: S) H Q) : W0 rm 273 [l0, l1, l2, l3, l4, l5, l6, l7, l8, l9, l10, l11, l12, l13, l14, l15, l16, l17] (.long y :: .long x :: S) H Q := s0_273c (fun q => s0_281 (h 0 (Or.inr ⟨q, rfl⟩))) (fun q => s0_277 (s0_278 (h 1 (Or.inl ⟨q, rfl⟩))))
theorem b0_318 {rm : Room} {S : List Value} {H : AHeap} {Q : Option Value → AHeap → Prop} {l0 l1 l2 l3 l4 l5 l6 l7 l8 l9 l10 l11 l12 l13 l14 l15 l16 l17 : Slot} {x : Int32} (h : ∀ t : Int32, ((x = 0) ∧ t = 1) ∨ ((¬ x = 0) ∧ t = 0) → W0 rm 326 [l0, l1, l2, l3, l4, l5, l6, l7, l8, l9, l10, l11, l12, l13, l14, l15, l16, l17] (.int t :: S) H Q) : W0 rm 318 [l0, l1, l2, l3, l4, l5, l6, l7, l8, l9, l10, l11, l12, l13, l14, l15, l16, l17] (.int x :: S) H Q := s0_318 (fun q => s0_325 (h 0 (Or.inr ⟨q, rfl⟩))) (fun q => s0_321 (s0_322 (h 1 (Or.inl ⟨q, rfl⟩))))
theorem b0_317c {rm : Room} {S : List Value} {H : AHeap} {Q : Option Value → AHeap → Prop} {l0 l1 l2 l3 l4 l5 l6 l7 l8 l9 l10 l11 l12 l13 l14 l15 l16 l17 : Slot} {x y : Int64} (h : ∀ t : Int32, ((x = y) ∧ t = 1) ∨ ((¬ x = y) ∧ t = 0) → W0 rm 326 [l0, l1, l2, l3, l4, l5, l6, l7, l8, l9, l10, l11, l12, l13, l14, l15, l16, l17] (.int t :: S) H Q) : W0 rm 317 [l0, l1, l2, l3, l4, l5, l6, l7, l8, l9, l10, l11, l12, l13, l14, l15, l16, l17] (.long y :: .long x :: S) H Q := s0_317c (fun q => s0_325 (h 0 (Or.inr ⟨q, rfl⟩))) (fun q => s0_321 (s0_322 (h 1 (Or.inl ⟨q, rfl⟩))))
theorem b0_344 {rm : Room} {S : List Value} {H : AHeap} {Q : Option Value → AHeap → Prop} {l0 l1 l2 l3 l4 l5 l6 l7 l8 l9 l10 l11 l12 l13 l14 l15 l16 l17 : Slot} {x y : Int32} (h : ∀ t : Int32, ((x = y) ∧ t = 1) ∨ ((¬ x = y) ∧ t = 0) → W0 rm 352 [l0, l1, l2, l3, l4, l5, l6, l7, l8, l9, l10, l11, l12, l13, l14, l15, l16, l17] (.int t :: S) H Q) : W0 rm 344 [l0, l1, l2, l3, l4, l5, l6, l7, l8, l9, l10, l11, l12, l13, l14, l15, l16, l17] (.int y :: .int x :: S) H Q := s0_344 (fun q => s0_351 (h 0 (Or.inr ⟨q, rfl⟩))) (fun q => s0_347 (s0_348 (h 1 (Or.inl ⟨q, rfl⟩))))
theorem b0_369 {rm : Room} {S : List Value} {H : AHeap} {Q : Option Value → AHeap → Prop} {l0 l1 l2 l3 l4 l5 l6 l7 l8 l9 l10 l11 l12 l13 l14 l15 l16 l17 : Slot} {x y : Int32} (h : ∀ t : Int32, ((x = y) ∧ t = 1) ∨ ((¬ x = y) ∧ t = 0) → W0 rm 377 [l0, l1, l2, l3, l4, l5, l6, l7, l8, l9, l10, l11, l12, l13, l14, l15, l16, l17] (.int t :: S) H Q) : W0 rm 369 [l0, l1, l2, l3, l4, l5, l6, l7, l8, l9, l10, l11, l12, l13, l14, l15, l16, l17] (.int y :: .int x :: S) H Q := s0_369 (fun q => s0_376 (h 0 (Or.inr ⟨q, rfl⟩))) (fun q => s0_372 (s0_373 (h 1 (Or.inl ⟨q, rfl⟩))))
theorem own_pv (r k v : Int32) (H : AHeap) : M1 ⟨0, 0, 0, 0⟩ [.int r, .int k, .int v] H (Is (some (.int (if v = 0 then (r + k) &&& 3 else (k - r) &&& 3))) H) := by
  refine e1 ?_
  refine s1_0 (s1_1 (fun h => ?_) (fun h => ?_))
  · rw [if_pos h]
    refine s1_12 ?_
    refine s1_13 ?_
    refine s1_14 ?_
    refine s1_15 ?_
    refine s1_16 ?_
    exact s1_17 ⟨rfl, rfl⟩
  · rw [if_neg h]
    refine s1_4 ?_
    refine s1_5 ?_
    refine s1_6 ?_
    refine s1_7 ?_
    refine s1_8 ?_
    refine s1_9 ?_
    exact s1_17 ⟨rfl, rfl⟩
/-- the object, with what it has settled, its arrays and its gaps -/
abbrev own_obj (st : Int32) (g : Int64) : ACell := .inl (0, [.int st, .ref 0, .ref 2, .ref 3, .long g])
abbrev own_ri (n0 n1 n2 n3 : Nat) : List Value := ((((List.replicate 4 (Value.int 0)).set n0 (.int 0)).set n1 (.int 1)).set n2 (.int 2)).set n3 (.int 3)
theorem own_init (p0 p1 p2 p3 : Int32) (n0 n1 n2 n3 : Nat) (h0 : ix p0 n0) (h1 : ix p1 n1) (h2 : ix p2 n2) (h3 : ix p3 n3) (b0 : n0 < 4) (b1 : n1 < 4) (b2 : n2 < 4) (b3 : n3 < 4) :
    M2 ⟨1, 2, 8, 12⟩ [.ref 1, .ref 0] [.inr (.int, [.int p0, .int p1, .int p2, .int p3]), .inl (0, [.int 0, .null, .null, .null, .long 0])]
      (Is none [.inr (.int, [.int p0, .int p1, .int p2, .int p3]), own_obj (-1) 0, .inr (.int, own_ri n0 n1 n2 n3), .inr (.long, List.replicate 4 (.long 0))]) := by
  refine e2 ?_
  refine s2_0 ?_
  refine s2_1 rfl ?_
  refine s2_4 ?_
  refine s2_5 ?_
  refine s2_6 rfl ?_
  refine s2_9 ?_
  refine s2_10 ?_
  refine s2_11 rfl ?_
  refine s2_14 ?_
  refine s2_15 ?_
  refine s2_16k 4 rfl rfl ?_
  refine s2_17 2 4 (by decide) rfl rfl ?_
  refine s2_19 rfl ?_
  refine s2_22 ?_
  refine s2_23 rfl ?_
  try dsimp only [room_1, less, List.set, List.cons_append, List.nil_append, List.replicate, List.append_nil, Nat.sub_zero]
  refine s2_24 ?_
  refine s2_25 ?_
  refine s2_26k 4 rfl rfl ?_
  refine s2_27 (fun h => absurd (by decide) h) (fun _ => ?_)
  refine s2_30 ?_
  refine s2_31 rfl ?_
  refine s2_34 ?_
  refine s2_35 ?_
  refine s2_36 0 rfl (by decide) rfl ?_
  refine s2_37 ?_
  refine s2_38 n0 rfl h0 (Nat.blt_eq.mpr (by simpa using b0)) ?_
  refine s2_39 ?_
  refine s2_42 ?_
  show W2 _ 24 [_, _, .val (.int 1)] _ _ _
  refine s2_24 ?_
  refine s2_25 ?_
  refine s2_26k 4 rfl rfl ?_
  refine s2_27 (fun h => absurd (by decide) h) (fun _ => ?_)
  refine s2_30 ?_
  refine s2_31 rfl ?_
  refine s2_34 ?_
  refine s2_35 ?_
  refine s2_36 1 rfl (by decide) rfl ?_
  refine s2_37 ?_
  refine s2_38 n1 rfl h1 (Nat.blt_eq.mpr (by simpa using b1)) ?_
  refine s2_39 ?_
  refine s2_42 ?_
  show W2 _ 24 [_, _, .val (.int 2)] _ _ _
  refine s2_24 ?_
  refine s2_25 ?_
  refine s2_26k 4 rfl rfl ?_
  refine s2_27 (fun h => absurd (by decide) h) (fun _ => ?_)
  refine s2_30 ?_
  refine s2_31 rfl ?_
  refine s2_34 ?_
  refine s2_35 ?_
  refine s2_36 2 rfl (by decide) rfl ?_
  refine s2_37 ?_
  refine s2_38 n2 rfl h2 (Nat.blt_eq.mpr (by simpa using b2)) ?_
  refine s2_39 ?_
  refine s2_42 ?_
  show W2 _ 24 [_, _, .val (.int 3)] _ _ _
  refine s2_24 ?_
  refine s2_25 ?_
  refine s2_26k 4 rfl rfl ?_
  refine s2_27 (fun h => absurd (by decide) h) (fun _ => ?_)
  refine s2_30 ?_
  refine s2_31 rfl ?_
  refine s2_34 ?_
  refine s2_35 ?_
  refine s2_36 3 rfl (by decide) rfl ?_
  refine s2_37 ?_
  refine s2_38 n3 rfl h3 (Nat.blt_eq.mpr (by simpa using b3)) ?_
  refine s2_39 ?_
  refine s2_42 ?_
  show W2 _ 24 [_, _, .val (.int 4)] _ _ _
  refine s2_24 ?_
  refine s2_25 ?_
  refine s2_26k 4 rfl rfl ?_
  refine s2_27 (fun _ => ?_) (fun h => absurd h (by decide))
  refine s2_45 ?_
  refine s2_46 ?_
  refine s2_47k 4 rfl rfl ?_
  refine s2_48 3 4 (by decide) rfl rfl ?_
  refine s2_50 rfl ?_
  exact s2_53 ⟨rfl, rfl⟩
/-- k places from i on set to g -/
def own_fill (g : Int64) : Nat → Nat → List Value → List Value
  | 0, _, l => l
  | k + 1, i, l => own_fill g k (i + 1) (l.set i (.long g))
theorem own_fill_len (g : Int64) : ∀ k i l, (own_fill g k i l).length = l.length
  | 0, _, _ => rfl
  | k + 1, i, l => by rw [own_fill, own_fill_len]; simp
theorem own_olt {i r : Nat} (h : i < r) (hr : r ≤ 4) : Int32.ofNat i < Int32.ofNat r := by
  rw [Int32.lt_iff_toInt_lt, Int32.toInt_ofNat_of_lt (by omega), Int32.toInt_ofNat_of_lt (by omega)]; omega
theorem own_loop (rm : Room) (st : Int32) (g : Int64) (c0 c2 : ACell) (l1 l2 l3 : Slot) (Q : Option Value → AHeap → Prop) : ∀ (k i r : Nat) (gl : List Value), i + k = r → r ≤ 4 → gl.length = 4 →
    W3 rm 40 [.val (.ref 1), l1, l2, l3, .val (.int (Int32.ofNat r)), .val (.int (Int32.ofNat r))] [] [c0, own_obj st g, c2, .inr (.long, own_fill g k i gl)] Q →
    W3 rm 16 [.val (.ref 1), l1, l2, l3, .val (.int (Int32.ofNat r)), .val (.int (Int32.ofNat i))] [] [c0, own_obj st g, c2, .inr (.long, gl)] Q
  | 0, i, r, gl, h1, h2, h3, h => by
    obtain rfl : i = r := by omega
    refine s3_16 (s3_18 (s3_20 (fun _ => h) (fun q => absurd q ?_)))
    rw [Int32.lt_iff_toInt_lt]; omega
  | k + 1, i, r, gl, h1, h2, h3, h => by
    refine s3_16 (s3_18 (s3_20 (fun q => absurd (own_olt (by omega) h2) q) (fun _ => ?_)))
    refine s3_23 ?_
    refine s3_24 rfl ?_
    refine s3_27 ?_
    refine s3_29 ?_
    refine s3_30 rfl ?_
    refine s3_33 i rfl (ix_ofNat (by omega)) (Nat.blt_eq.mpr (by omega)) ?_
    refine s3_34 (s3_37 ?_)
    rw [show Int32.ofNat i + 1 = Int32.ofNat (i + 1) from (Int32.ofNat_add i 1).symm]
    exact own_loop rm st g c0 c2 l1 l2 l3 Q k (i + 1) r (gl.set i (.long g)) (by omega) h2 (by simpa using h3) h
theorem own_move (c0 : ACell) (st p : Int32) (g b : Int64) (n i r k : Nat) (rk gl : List Value) (hp : ix p n) (hr : rk[n]? = some (.int (Int32.ofNat r))) (hst : st + 1 = Int32.ofNat i) (h1 : i + k = r) (h2 : r ≤ 4) (h3 : gl.length = 4) :
    M3 ⟨0, 0, 0, 0⟩ [.ref 1, .int p, .long b] [c0, own_obj st g, .inr (.int, rk), .inr (.long, gl)] (Is none [c0, own_obj (Int32.ofNat r - 1) (g + b), .inr (.int, rk), .inr (.long, own_fill g k i gl)]) := by
  refine e3 ?_
  refine s3_0 ?_
  refine s3_1 rfl ?_
  refine s3_4 ?_
  refine s3_5 n rfl hp hr ?_
  refine s3_6 rfl ?_
  refine s3_8 ?_
  refine s3_9 rfl ?_
  refine s3_12 ?_
  refine s3_13 ?_
  rw [hst]
  refine s3_14 rfl ?_
  refine own_loop _ _ _ _ _ _ _ _ _ k i r gl h1 h2 h3 ?_
  refine s3_40 ?_
  refine s3_41 ?_
  refine s3_43 ?_
  refine s3_44 ?_
  refine s3_45 rfl ?_
  refine s3_48 ?_
  refine s3_49 rfl ?_
  refine s3_50 rfl ?_
  refine s3_53 ?_
  refine s3_54 ?_
  refine s3_55 rfl ?_
  exact s3_58 ⟨rfl, rfl⟩
theorem own_hi (c0 : ACell) (st p : Int32) (g : Int64) (n : Nat) (r : Int32) (rk gl : List Value) (hp : ix p n) (hr : rk[n]? = some (.int r)) (h : st < r) :
    M4 ⟨0, 0, 0, 0⟩ [.ref 1, .int p] [c0, own_obj st g, .inr (.int, rk), .inr (.long, gl)] (Is (some (.long ((r + 1).toInt64 + g))) [c0, own_obj st g, .inr (.int, rk), .inr (.long, gl)]) := by
  refine e4 ?_
  refine s4_0 ?_
  refine s4_1 rfl ?_
  refine s4_4 ?_
  refine s4_5 n rfl hp hr ?_
  refine s4_6 rfl ?_
  refine s4_7 ?_
  refine s4_8 ?_
  refine s4_9 ?_
  refine s4_10 ?_
  refine s4_11 ?_
  refine s4_12 ?_
  refine s4_13 rfl ?_
  refine s4_16 (fun _ => ?_) (fun q => absurd h q)
  refine s4_28 ?_
  refine s4_29 rfl ?_
  refine s4_32 ?_
  exact s4_33 ⟨rfl, rfl⟩
theorem own_lo (c0 : ACell) (st p : Int32) (g v : Int64) (n m : Nat) (r : Int32) (rk gl : List Value) (hp : ix p n) (hr : rk[n]? = some (.int r)) (h : ¬ st < r) (hm : ix r m) (hv : gl[m]? = some (.long v)) :
    M4 ⟨0, 0, 0, 0⟩ [.ref 1, .int p] [c0, own_obj st g, .inr (.int, rk), .inr (.long, gl)] (Is (some (.long ((r + 1).toInt64 + v))) [c0, own_obj st g, .inr (.int, rk), .inr (.long, gl)]) := by
  refine e4 ?_
  refine s4_0 ?_
  refine s4_1 rfl ?_
  refine s4_4 ?_
  refine s4_5 n rfl hp hr ?_
  refine s4_6 rfl ?_
  refine s4_7 ?_
  refine s4_8 ?_
  refine s4_9 ?_
  refine s4_10 ?_
  refine s4_11 ?_
  refine s4_12 ?_
  refine s4_13 rfl ?_
  refine s4_16 (fun q => absurd q h) (fun _ => ?_)
  refine s4_19 ?_
  refine s4_20 rfl ?_
  refine s4_23 ?_
  refine s4_24 m rfl hm hv ?_
  refine s4_25 ?_
  refine s4_32 ?_
  exact s4_33 ⟨rfl, rfl⟩
def own_exp (r f r1 : Int32) (b1 : Int64) (s r2 : Int32) (b2 : Int64) : Int64 :=
  let c := (r + 1).toInt64
  let d := if f = 0 then c else if r < r1 then c else c + b1
  if s = 0 then d else if r < r2 then d else d + b2
theorem own_expM (r f r1 : Int32) (b1 : Int64) (s r2 : Int32) (b2 : Int64) (H : AHeap) : M5 ⟨0, 0, 0, 0⟩ [.int r, .int f, .int r1, .long b1, .int s, .int r2, .long b2] H (Is (some (.long (own_exp r f r1 b1 s r2 b2))) H) := by
  refine e5 ?_
  have two : ∀ d : Int64, (if f = 0 then (r + 1).toInt64 else if r < r1 then (r + 1).toInt64 else (r + 1).toInt64 + b1) = d → W5 ⟨0, 0, 0, 0⟩ 21 [.val (.int r), .val (.int f), .val (.int r1), .val (.long b1), .second, .val (.int s), .val (.int r2), .val (.long b2), .second, .val (.long d), .second] [] H (Is (some (.long (own_exp r f r1 b1 s r2 b2))) H) := fun d hd => by
    refine s5_21 (s5_23 (fun h => ?_) (fun h => ?_))
    · refine s5_39 (s5_41 ⟨?_, rfl⟩)
      simp only [own_exp, hd, if_pos h]
    · refine s5_26 (s5_27 (s5_29 (fun h' => ?_) (fun h' => ?_)))
      · refine s5_39 (s5_41 ⟨?_, rfl⟩)
        simp only [own_exp, hd, if_neg h, if_pos h']
      · refine s5_32 ?_
        refine s5_34 ?_
        refine s5_36 ?_
        refine s5_37 rfl ?_
        refine s5_39 (s5_41 ⟨?_, rfl⟩)
        simp only [own_exp, hd, if_neg h, if_neg h']
  refine s5_0 ?_
  refine s5_1 ?_
  refine s5_2 ?_
  refine s5_3 ?_
  refine s5_4 rfl ?_
  refine s5_6 ?_
  refine s5_7 (fun h => two _ (if_pos h)) (fun h => ?_)
  refine s5_10 ?_
  refine s5_11 ?_
  refine s5_12 (fun h' => two _ (by rw [if_neg h, if_pos h'])) (fun h' => ?_)
  refine s5_15 ?_
  refine s5_17 ?_
  refine s5_18 ?_
  refine s5_19 rfl ?_
  exact two _ (by rw [if_neg h, if_neg h'])
theorem own_va4 (st : Int32) (g c : Int64) (vs : List Value) (c2 c3 : ACell) (hv : Int32.ofNat vs.length = 4) (h : c - 1 - g = 4) : M6 ⟨0, 0, 0, 0⟩ [.ref 1, .long c] [.inr (.int, vs), own_obj st g, c2, c3] (Is (some (.int (-1))) [.inr (.int, vs), own_obj st g, c2, c3]) := by
  refine e6 ?_
  refine s6_0 ?_
  refine s6_1 ?_
  refine s6_2 ?_
  refine s6_3 ?_
  refine s6_4 rfl ?_
  refine s6_7 ?_
  rw [h]
  refine s6_8 rfl ?_
  refine s6_9 ?_
  refine s6_10 ?_
  refine s6_11 rfl ?_
  refine s6_14k 4 rfl hv ?_
  refine s6_15 ?_
  refine s6_16c (fun q => absurd q (by decide)) (fun _ => ?_)
  refine s6_20 ?_
  exact s6_21 ⟨rfl, rfl⟩
theorem own_va3 (st p : Int32) (g c : Int64) (vs : List Value) (c2 c3 : ACell) (hv : Int32.ofNat vs.length = 4) (h : c - 1 - g = 3) (hp : vs[3]? = some (.int p)) : M6 ⟨0, 0, 0, 0⟩ [.ref 1, .long c] [.inr (.int, vs), own_obj st g, c2, c3] (Is (some (.int p)) [.inr (.int, vs), own_obj st g, c2, c3]) := by
  refine e6 ?_
  refine s6_0 ?_
  refine s6_1 ?_
  refine s6_2 ?_
  refine s6_3 ?_
  refine s6_4 rfl ?_
  refine s6_7 ?_
  rw [h]
  refine s6_8 rfl ?_
  refine s6_9 ?_
  refine s6_10 ?_
  refine s6_11 rfl ?_
  refine s6_14k 4 rfl hv ?_
  refine s6_15 ?_
  refine s6_16c (fun _ => ?_) (fun q => absurd (by decide) q)
  refine s6_22 ?_
  refine s6_23 rfl ?_
  refine s6_26 ?_
  refine s6_27 ?_
  refine s6_28 3 rfl (by decide) hp ?_
  exact s6_29 ⟨rfl, rfl⟩
set_option maxHeartbeats 4000000 in
theorem own_tail (a0 a1 : Int32) (b1 b2 : Int64) (mode : Int32) (l7 l8 : Slot) (r1 r2 f s : Int32) (l15 l16 l17 : Slot) (h15 : one l15 = true) (h16 : two l16 l17 = true) (p0 p1 p2 p3 st : Int32) (g A0 A1 A2 A3 : Int64) (rk gl : List Value)
    (m0 : M4 ⟨0, 0, 0, 0⟩ [.ref 1, .int p0] [.inr (.int, [.int p0, .int p1, .int p2, .int p3]), own_obj st g, .inr (.int, rk), .inr (.long, gl)] (Is (some (.long A0)) [.inr (.int, [.int p0, .int p1, .int p2, .int p3]), own_obj st g, .inr (.int, rk), .inr (.long, gl)]))
    (m1 : M4 ⟨0, 0, 0, 0⟩ [.ref 1, .int p1] [.inr (.int, [.int p0, .int p1, .int p2, .int p3]), own_obj st g, .inr (.int, rk), .inr (.long, gl)] (Is (some (.long A1)) [.inr (.int, [.int p0, .int p1, .int p2, .int p3]), own_obj st g, .inr (.int, rk), .inr (.long, gl)]))
    (m2 : M4 ⟨0, 0, 0, 0⟩ [.ref 1, .int p2] [.inr (.int, [.int p0, .int p1, .int p2, .int p3]), own_obj st g, .inr (.int, rk), .inr (.long, gl)] (Is (some (.long A2)) [.inr (.int, [.int p0, .int p1, .int p2, .int p3]), own_obj st g, .inr (.int, rk), .inr (.long, gl)]))
    (m3 : M4 ⟨0, 0, 0, 0⟩ [.ref 1, .int p3] [.inr (.int, [.int p0, .int p1, .int p2, .int p3]), own_obj st g, .inr (.int, rk), .inr (.long, gl)] (Is (some (.long A3)) [.inr (.int, [.int p0, .int p1, .int p2, .int p3]), own_obj st g, .inr (.int, rk), .inr (.long, gl)]))
    (x0 : own_exp 0 f r1 b1 s r2 b2 = A0) (x1 : own_exp 1 f r1 b1 s r2 b2 = A1) (x2 : own_exp 2 f r1 b1 s r2 b2 = A2) (x3 : own_exp 3 f r1 b1 s r2 b2 = A3) (g3 : A3 = 4 + g) :
    W0 ⟨5, 12, 111, 128⟩ 169 [.val (.int a0), .val (.int a1), .val (.long b1), .second, .val (.long b2), .second, .val (.int mode), l7, l8, .val (.ref 0), .val (.int r1), .val (.int r2), .val (.int f), .val (.int s), .val (.ref 1), l15, l16, l17] []
      [.inr (.int, [.int p0, .int p1, .int p2, .int p3]), own_obj st g, .inr (.int, rk), .inr (.long, gl)] (fun r _ => r = some (.int 1)) := by
  refine s0_169 ?_
  refine s0_171 ?_
  refine s0_173 ?_
  refine s0_174 0 rfl (by decide) rfl ?_
  refine s0_175 rfl m0 rfl ?_
  refine s0_178 ?_
  refine s0_179 ?_
  refine s0_181 ?_
  refine s0_183 ?_
  refine s0_184 ?_
  refine s0_186 ?_
  refine s0_188 ?_
  refine s0_190 (own_expM _ _ _ _ _ _ _ _) rfl ?_
  rw [x0]
  refine s0_193c (fun h => absurd rfl h) (fun _ => ?_)
  refine s0_197 ?_
  refine s0_198 ?_
  refine s0_202 h15 ?_
  refine s0_204 ?_
  refine s0_206 (fun h => absurd h (by decide)) (fun _ => ?_)
  refine s0_209 ?_
  refine s0_211 ?_
  refine s0_213 ?_
  refine s0_214 1 rfl (by decide) rfl ?_
  refine s0_215 rfl m1 rfl ?_
  refine s0_218 ?_
  refine s0_219 ?_
  refine s0_221 ?_
  refine s0_223 ?_
  refine s0_224 ?_
  refine s0_226 ?_
  refine s0_228 ?_
  refine s0_230 (own_expM _ _ _ _ _ _ _ _) rfl ?_
  rw [x1]
  refine s0_233c (fun h => absurd rfl h) (fun _ => ?_)
  refine s0_237 ?_
  refine s0_238 ?_
  refine s0_242 rfl ?_
  refine s0_244 ?_
  refine s0_246 (fun h => absurd h (by decide)) (fun _ => ?_)
  refine s0_249 ?_
  refine s0_251 ?_
  refine s0_253 ?_
  refine s0_254 2 rfl (by decide) rfl ?_
  refine s0_255 rfl m2 rfl ?_
  refine s0_258 ?_
  refine s0_259 ?_
  refine s0_261 ?_
  refine s0_263 ?_
  refine s0_264 ?_
  refine s0_266 ?_
  refine s0_268 ?_
  refine s0_270 (own_expM _ _ _ _ _ _ _ _) rfl ?_
  rw [x2]
  refine s0_273c (fun h => absurd rfl h) (fun _ => ?_)
  refine s0_277 ?_
  refine s0_278 ?_
  refine s0_282 rfl ?_
  refine s0_284 ?_
  refine s0_285 ?_
  refine s0_287 ?_
  refine s0_289 ?_
  refine s0_290 ?_
  refine s0_292 ?_
  refine s0_294 ?_
  refine s0_296 (own_expM _ _ _ _ _ _ _ _) rfl ?_
  rw [x3]
  refine s0_299 h16 ?_
  refine s0_301 ?_
  refine s0_303 (fun h => absurd h (by decide)) (fun _ => ?_)
  refine s0_306 ?_
  refine s0_308 ?_
  refine s0_310 ?_
  refine s0_311 3 rfl (by decide) rfl ?_
  refine s0_312 rfl m3 rfl ?_
  refine s0_315 ?_
  refine s0_317c (fun h => absurd rfl h) (fun _ => ?_)
  refine s0_321 ?_
  refine s0_322 ?_
  refine s0_326 rfl ?_
  refine s0_328 ?_
  refine s0_330 (fun h => absurd h (by decide)) (fun _ => ?_)
  have q3 : A3 - 1 - g = 3 := by
    rw [g3]; apply Int64.toInt_inj.mp
    have k1 := c_ladd 4 g; have k2 := c_lsub (4 + g) 1; have k3 := c_lsub (4 + g - 1) g; have k4 := rng64 (4 + g - 1 - g)
    simp only [Int64.reduceToInt] at *; omega
  have q4 : A3 + 1 - 1 - g = 4 := by
    rw [g3]; apply Int64.toInt_inj.mp
    have k1 := c_ladd 4 g; have k0 := c_ladd (4 + g) 1; have k2 := c_lsub (4 + g + 1) 1; have k3 := c_lsub (4 + g + 1 - 1) g; have k4 := rng64 (4 + g + 1 - 1 - g)
    simp only [Int64.reduceToInt] at *; omega
  refine s0_333 ?_
  refine s0_335 ?_
  refine s0_337 rfl (own_va3 _ p3 _ _ _ _ _ rfl q3 rfl) rfl ?_
  refine s0_340 ?_
  refine s0_342 ?_
  refine s0_343 3 rfl (by decide) rfl ?_
  refine s0_344 (fun h => absurd rfl h) (fun _ => ?_)
  refine s0_347 ?_
  refine s0_348 ?_
  refine s0_352 rfl ?_
  refine s0_354 ?_
  refine s0_356 (fun h => absurd h (by decide)) (fun _ => ?_)
  refine s0_359 ?_
  refine s0_361 ?_
  refine s0_363 ?_
  refine s0_364 ?_
  refine s0_365 rfl (own_va4 _ _ _ _ _ _ rfl q4) rfl ?_
  refine s0_368 ?_
  refine s0_369 (fun h => absurd rfl h) (fun _ => ?_)
  refine s0_372 ?_
  refine s0_373 ?_
  refine s0_377 rfl ?_
  refine s0_379 ?_
  exact s0_381 rfl
theorem own_bits (x : Int32) : x &&& 3 = 0 ∨ x &&& 3 = 1 ∨ x &&& 3 = 2 ∨ x &&& 3 = 3 := by
  have e : (x &&& 3).toInt = x.toInt % 2 ^ 2 := Jvm.Kit.i32_mask x 3 (k := 2) (by decide) (by decide)
  simp only [← Int32.toInt_inj, e, Int32.reduceToInt]
  omega
set_option maxHeartbeats 8000000 in
theorem own_go (a0 a1 : Int32) (b1 b2 : Int64) (mode k v r1 r2 f s p0 p1 p2 p3 : Int32) (n0 n1 n2 n3 : Nat) (h0 : ix p0 n0) (h1 : ix p1 n1) (h2 : ix p2 n2) (h3 : ix p3 n3) (b0 : n0 < 4) (b1' : n1 < 4) (b2' : n2 < 4) (b3 : n3 < 4) (k0 : (own_ri n0 n1 n2 n3)[n0]? = some (.int 0)) (k1 : (own_ri n0 n1 n2 n3)[n1]? = some (.int 1)) (k2 : (own_ri n0 n1 n2 n3)[n2]? = some (.int 2)) (k3 : (own_ri n0 n1 n2 n3)[n3]? = some (.int 3)) (hr1 : r1 = 0 ∨ r1 = 1 ∨ r1 = 2 ∨ r1 = 3) (hr2 : r2 = 0 ∨ r2 = 1 ∨ r2 = 2 ∨ r2 = 3) (hf : f = 0 ∨ f = 1) (hs : s = 0 ∨ s = 1 ∧ (f = 0 ∨ r1 < r2)) :
    W0 ⟨5, 15, 124, 128⟩ 125 [.val (.int a0), .val (.int a1), .val (.long b1), .second, .val (.long b2), .second, .val (.int mode), .val (.int k), .val (.int v), .val (.ref 0), .val (.int r1), .val (.int r2), .val (.int f), .val (.int s), .unset, .unset, .unset, .unset] [] [.inr (.int, [.int p0, .int p1, .int p2, .int p3])] (fun r _ => r = some (.int 1)) := by
  refine s0_125 1 rfl rfl ?_
  refine s0_128 rfl ?_
  refine s0_129 ?_
  refine s0_131 (own_init _ _ _ _ _ _ _ _ h0 h1 h2 h3 b0 b1' b2' b3) rfl ?_
  refine s0_134 rfl ?_
  refine s0_136 ?_
  show W0 ⟨5, 12, 111, 128⟩ _ _ _ _ _
  rcases hf with rfl | rfl
  · refine s0_138 (fun _ => ?_) (fun h => absurd rfl h)
    refine s0_152 ?_
    rcases hs with rfl | ⟨rfl, -⟩
    · refine s0_154 (fun _ => ?_) (fun h => absurd rfl h)
      exact own_tail _ _ _ _ _ _ _ _ _ _ _ _ _ _ rfl rfl _ _ _ _ _ _ _ _ _ _ _ _ (own_hi _ _ _ _ _ _ _ _ h0 k0 (by decide)) (own_hi _ _ _ _ _ _ _ _ h1 k1 (by decide)) (own_hi _ _ _ _ _ _ _ _ h2 k2 (by decide)) (own_hi _ _ _ _ _ _ _ _ h3 k3 (by decide)) (by simp [own_exp, Int64.add_assoc]) (by simp [own_exp, Int64.add_assoc]) (by simp [own_exp, Int64.add_assoc]) (by simp [own_exp, Int64.add_assoc]) rfl
    · refine s0_154 (fun h => absurd h (by decide)) (fun _ => ?_)
      rcases hr2 with rfl | rfl | rfl | rfl
      · refine s0_157 ?_
        refine s0_159 ?_
        refine s0_161 ?_
        refine s0_163 0 rfl (by decide) rfl ?_
        refine s0_164 ?_
        refine s0_166 rfl (own_move _ _ _ _ _ _ 0 0 0 _ _ h0 k0 (by decide) (by decide) (by decide) rfl) rfl ?_
        exact own_tail _ _ _ _ _ _ _ _ _ _ _ _ _ _ rfl rfl _ _ _ _ _ _ _ _ _ _ _ _ (own_hi _ _ _ _ _ _ _ _ h0 k0 (by decide)) (own_hi _ _ _ _ _ _ _ _ h1 k1 (by decide)) (own_hi _ _ _ _ _ _ _ _ h2 k2 (by decide)) (own_hi _ _ _ _ _ _ _ _ h3 k3 (by decide)) (by simp [own_exp, Int64.add_assoc]) (by simp [own_exp, Int64.add_assoc]) (by simp [own_exp, Int64.add_assoc]) (by simp [own_exp, Int64.add_assoc]) rfl
      · refine s0_157 ?_
        refine s0_159 ?_
        refine s0_161 ?_
        refine s0_163 1 rfl (by decide) rfl ?_
        refine s0_164 ?_
        refine s0_166 rfl (own_move _ _ _ _ _ _ 0 1 1 _ _ h1 k1 (by decide) (by decide) (by decide) rfl) rfl ?_
        exact own_tail _ _ _ _ _ _ _ _ _ _ _ _ _ _ rfl rfl _ _ _ _ _ _ _ _ _ _ _ _ (own_lo _ _ _ _ _ _ 0 _ _ _ h0 k0 (by decide) (by decide) rfl) (own_hi _ _ _ _ _ _ _ _ h1 k1 (by decide)) (own_hi _ _ _ _ _ _ _ _ h2 k2 (by decide)) (own_hi _ _ _ _ _ _ _ _ h3 k3 (by decide)) (by simp [own_exp, Int64.add_assoc]) (by simp [own_exp, Int64.add_assoc]) (by simp [own_exp, Int64.add_assoc]) (by simp [own_exp, Int64.add_assoc]) rfl
      · refine s0_157 ?_
        refine s0_159 ?_
        refine s0_161 ?_
        refine s0_163 2 rfl (by decide) rfl ?_
        refine s0_164 ?_
        refine s0_166 rfl (own_move _ _ _ _ _ _ 0 2 2 _ _ h2 k2 (by decide) (by decide) (by decide) rfl) rfl ?_
        exact own_tail _ _ _ _ _ _ _ _ _ _ _ _ _ _ rfl rfl _ _ _ _ _ _ _ _ _ _ _ _ (own_lo _ _ _ _ _ _ 0 _ _ _ h0 k0 (by decide) (by decide) rfl) (own_lo _ _ _ _ _ _ 1 _ _ _ h1 k1 (by decide) (by decide) rfl) (own_hi _ _ _ _ _ _ _ _ h2 k2 (by decide)) (own_hi _ _ _ _ _ _ _ _ h3 k3 (by decide)) (by simp [own_exp, Int64.add_assoc]) (by simp [own_exp, Int64.add_assoc]) (by simp [own_exp, Int64.add_assoc]) (by simp [own_exp, Int64.add_assoc]) rfl
      · refine s0_157 ?_
        refine s0_159 ?_
        refine s0_161 ?_
        refine s0_163 3 rfl (by decide) rfl ?_
        refine s0_164 ?_
        refine s0_166 rfl (own_move _ _ _ _ _ _ 0 3 3 _ _ h3 k3 (by decide) (by decide) (by decide) rfl) rfl ?_
        exact own_tail _ _ _ _ _ _ _ _ _ _ _ _ _ _ rfl rfl _ _ _ _ _ _ _ _ _ _ _ _ (own_lo _ _ _ _ _ _ 0 _ _ _ h0 k0 (by decide) (by decide) rfl) (own_lo _ _ _ _ _ _ 1 _ _ _ h1 k1 (by decide) (by decide) rfl) (own_lo _ _ _ _ _ _ 2 _ _ _ h2 k2 (by decide) (by decide) rfl) (own_hi _ _ _ _ _ _ _ _ h3 k3 (by decide)) (by simp [own_exp, Int64.add_assoc]) (by simp [own_exp, Int64.add_assoc]) (by simp [own_exp, Int64.add_assoc]) (by simp [own_exp, Int64.add_assoc]) rfl
  · refine s0_138 (fun h => absurd h (by decide)) (fun _ => ?_)
    rcases hs with rfl | ⟨rfl, hs⟩
    · rcases hr1 with rfl | rfl | rfl | rfl
      · refine s0_141 ?_
        refine s0_143 ?_
        refine s0_145 ?_
        refine s0_147 0 rfl (by decide) rfl ?_
        refine s0_148 ?_
        refine s0_149 rfl (own_move _ _ _ _ _ _ 0 0 0 _ _ h0 k0 (by decide) (by decide) (by decide) rfl) rfl ?_
        refine s0_152 ?_
        refine s0_154 (fun _ => ?_) (fun h => absurd rfl h)
        exact own_tail _ _ _ _ _ _ _ _ _ _ _ _ _ _ rfl rfl _ _ _ _ _ _ _ _ _ _ _ _ (own_hi _ _ _ _ _ _ _ _ h0 k0 (by decide)) (own_hi _ _ _ _ _ _ _ _ h1 k1 (by decide)) (own_hi _ _ _ _ _ _ _ _ h2 k2 (by decide)) (own_hi _ _ _ _ _ _ _ _ h3 k3 (by decide)) (by simp [own_exp, Int64.add_assoc]) (by simp [own_exp, Int64.add_assoc]) (by simp [own_exp, Int64.add_assoc]) (by simp [own_exp, Int64.add_assoc]) rfl
      · refine s0_141 ?_
        refine s0_143 ?_
        refine s0_145 ?_
        refine s0_147 1 rfl (by decide) rfl ?_
        refine s0_148 ?_
        refine s0_149 rfl (own_move _ _ _ _ _ _ 0 1 1 _ _ h1 k1 (by decide) (by decide) (by decide) rfl) rfl ?_
        refine s0_152 ?_
        refine s0_154 (fun _ => ?_) (fun h => absurd rfl h)
        exact own_tail _ _ _ _ _ _ _ _ _ _ _ _ _ _ rfl rfl _ _ _ _ _ _ _ _ _ _ _ _ (own_lo _ _ _ _ _ _ 0 _ _ _ h0 k0 (by decide) (by decide) rfl) (own_hi _ _ _ _ _ _ _ _ h1 k1 (by decide)) (own_hi _ _ _ _ _ _ _ _ h2 k2 (by decide)) (own_hi _ _ _ _ _ _ _ _ h3 k3 (by decide)) (by simp [own_exp, Int64.add_assoc]) (by simp [own_exp, Int64.add_assoc]) (by simp [own_exp, Int64.add_assoc]) (by simp [own_exp, Int64.add_assoc]) rfl
      · refine s0_141 ?_
        refine s0_143 ?_
        refine s0_145 ?_
        refine s0_147 2 rfl (by decide) rfl ?_
        refine s0_148 ?_
        refine s0_149 rfl (own_move _ _ _ _ _ _ 0 2 2 _ _ h2 k2 (by decide) (by decide) (by decide) rfl) rfl ?_
        refine s0_152 ?_
        refine s0_154 (fun _ => ?_) (fun h => absurd rfl h)
        exact own_tail _ _ _ _ _ _ _ _ _ _ _ _ _ _ rfl rfl _ _ _ _ _ _ _ _ _ _ _ _ (own_lo _ _ _ _ _ _ 0 _ _ _ h0 k0 (by decide) (by decide) rfl) (own_lo _ _ _ _ _ _ 1 _ _ _ h1 k1 (by decide) (by decide) rfl) (own_hi _ _ _ _ _ _ _ _ h2 k2 (by decide)) (own_hi _ _ _ _ _ _ _ _ h3 k3 (by decide)) (by simp [own_exp, Int64.add_assoc]) (by simp [own_exp, Int64.add_assoc]) (by simp [own_exp, Int64.add_assoc]) (by simp [own_exp, Int64.add_assoc]) rfl
      · refine s0_141 ?_
        refine s0_143 ?_
        refine s0_145 ?_
        refine s0_147 3 rfl (by decide) rfl ?_
        refine s0_148 ?_
        refine s0_149 rfl (own_move _ _ _ _ _ _ 0 3 3 _ _ h3 k3 (by decide) (by decide) (by decide) rfl) rfl ?_
        refine s0_152 ?_
        refine s0_154 (fun _ => ?_) (fun h => absurd rfl h)
        exact own_tail _ _ _ _ _ _ _ _ _ _ _ _ _ _ rfl rfl _ _ _ _ _ _ _ _ _ _ _ _ (own_lo _ _ _ _ _ _ 0 _ _ _ h0 k0 (by decide) (by decide) rfl) (own_lo _ _ _ _ _ _ 1 _ _ _ h1 k1 (by decide) (by decide) rfl) (own_lo _ _ _ _ _ _ 2 _ _ _ h2 k2 (by decide) (by decide) rfl) (own_hi _ _ _ _ _ _ _ _ h3 k3 (by decide)) (by simp [own_exp, Int64.add_assoc]) (by simp [own_exp, Int64.add_assoc]) (by simp [own_exp, Int64.add_assoc]) (by simp [own_exp, Int64.add_assoc]) rfl
    · rcases hr1 with rfl | rfl | rfl | rfl
      · refine s0_141 ?_
        refine s0_143 ?_
        refine s0_145 ?_
        refine s0_147 0 rfl (by decide) rfl ?_
        refine s0_148 ?_
        refine s0_149 rfl (own_move _ _ _ _ _ _ 0 0 0 _ _ h0 k0 (by decide) (by decide) (by decide) rfl) rfl ?_
        refine s0_152 ?_
        refine s0_154 (fun h => absurd h (by decide)) (fun _ => ?_)
        rcases hr2 with rfl | rfl | rfl | rfl
        · exact absurd hs (by decide)
        · refine s0_157 ?_
          refine s0_159 ?_
          refine s0_161 ?_
          refine s0_163 1 rfl (by decide) rfl ?_
          refine s0_164 ?_
          refine s0_166 rfl (own_move _ _ _ _ _ _ 0 1 1 _ _ h1 k1 (by decide) (by decide) (by decide) rfl) rfl ?_
          exact own_tail _ _ _ _ _ _ _ _ _ _ _ _ _ _ rfl rfl _ _ _ _ _ _ _ _ _ _ _ _ (own_lo _ _ _ _ _ _ 0 _ _ _ h0 k0 (by decide) (by decide) rfl) (own_hi _ _ _ _ _ _ _ _ h1 k1 (by decide)) (own_hi _ _ _ _ _ _ _ _ h2 k2 (by decide)) (own_hi _ _ _ _ _ _ _ _ h3 k3 (by decide)) (by simp [own_exp, Int64.add_assoc]) (by simp [own_exp, Int64.add_assoc]) (by simp [own_exp, Int64.add_assoc]) (by simp [own_exp, Int64.add_assoc]) rfl
        · refine s0_157 ?_
          refine s0_159 ?_
          refine s0_161 ?_
          refine s0_163 2 rfl (by decide) rfl ?_
          refine s0_164 ?_
          refine s0_166 rfl (own_move _ _ _ _ _ _ 0 2 2 _ _ h2 k2 (by decide) (by decide) (by decide) rfl) rfl ?_
          exact own_tail _ _ _ _ _ _ _ _ _ _ _ _ _ _ rfl rfl _ _ _ _ _ _ _ _ _ _ _ _ (own_lo _ _ _ _ _ _ 0 _ _ _ h0 k0 (by decide) (by decide) rfl) (own_lo _ _ _ _ _ _ 1 _ _ _ h1 k1 (by decide) (by decide) rfl) (own_hi _ _ _ _ _ _ _ _ h2 k2 (by decide)) (own_hi _ _ _ _ _ _ _ _ h3 k3 (by decide)) (by simp [own_exp, Int64.add_assoc]) (by simp [own_exp, Int64.add_assoc]) (by simp [own_exp, Int64.add_assoc]) (by simp [own_exp, Int64.add_assoc]) rfl
        · refine s0_157 ?_
          refine s0_159 ?_
          refine s0_161 ?_
          refine s0_163 3 rfl (by decide) rfl ?_
          refine s0_164 ?_
          refine s0_166 rfl (own_move _ _ _ _ _ _ 0 3 3 _ _ h3 k3 (by decide) (by decide) (by decide) rfl) rfl ?_
          exact own_tail _ _ _ _ _ _ _ _ _ _ _ _ _ _ rfl rfl _ _ _ _ _ _ _ _ _ _ _ _ (own_lo _ _ _ _ _ _ 0 _ _ _ h0 k0 (by decide) (by decide) rfl) (own_lo _ _ _ _ _ _ 1 _ _ _ h1 k1 (by decide) (by decide) rfl) (own_lo _ _ _ _ _ _ 2 _ _ _ h2 k2 (by decide) (by decide) rfl) (own_hi _ _ _ _ _ _ _ _ h3 k3 (by decide)) (by simp [own_exp, Int64.add_assoc]) (by simp [own_exp, Int64.add_assoc]) (by simp [own_exp, Int64.add_assoc]) (by simp [own_exp, Int64.add_assoc]) rfl
      · refine s0_141 ?_
        refine s0_143 ?_
        refine s0_145 ?_
        refine s0_147 1 rfl (by decide) rfl ?_
        refine s0_148 ?_
        refine s0_149 rfl (own_move _ _ _ _ _ _ 0 1 1 _ _ h1 k1 (by decide) (by decide) (by decide) rfl) rfl ?_
        refine s0_152 ?_
        refine s0_154 (fun h => absurd h (by decide)) (fun _ => ?_)
        rcases hr2 with rfl | rfl | rfl | rfl
        · exact absurd hs (by decide)
        · exact absurd hs (by decide)
        · refine s0_157 ?_
          refine s0_159 ?_
          refine s0_161 ?_
          refine s0_163 2 rfl (by decide) rfl ?_
          refine s0_164 ?_
          refine s0_166 rfl (own_move _ _ _ _ _ _ 1 2 1 _ _ h2 k2 (by decide) (by decide) (by decide) rfl) rfl ?_
          exact own_tail _ _ _ _ _ _ _ _ _ _ _ _ _ _ rfl rfl _ _ _ _ _ _ _ _ _ _ _ _ (own_lo _ _ _ _ _ _ 0 _ _ _ h0 k0 (by decide) (by decide) rfl) (own_lo _ _ _ _ _ _ 1 _ _ _ h1 k1 (by decide) (by decide) rfl) (own_hi _ _ _ _ _ _ _ _ h2 k2 (by decide)) (own_hi _ _ _ _ _ _ _ _ h3 k3 (by decide)) (by simp [own_exp, Int64.add_assoc]) (by simp [own_exp, Int64.add_assoc]) (by simp [own_exp, Int64.add_assoc]) (by simp [own_exp, Int64.add_assoc]) rfl
        · refine s0_157 ?_
          refine s0_159 ?_
          refine s0_161 ?_
          refine s0_163 3 rfl (by decide) rfl ?_
          refine s0_164 ?_
          refine s0_166 rfl (own_move _ _ _ _ _ _ 1 3 2 _ _ h3 k3 (by decide) (by decide) (by decide) rfl) rfl ?_
          exact own_tail _ _ _ _ _ _ _ _ _ _ _ _ _ _ rfl rfl _ _ _ _ _ _ _ _ _ _ _ _ (own_lo _ _ _ _ _ _ 0 _ _ _ h0 k0 (by decide) (by decide) rfl) (own_lo _ _ _ _ _ _ 1 _ _ _ h1 k1 (by decide) (by decide) rfl) (own_lo _ _ _ _ _ _ 2 _ _ _ h2 k2 (by decide) (by decide) rfl) (own_hi _ _ _ _ _ _ _ _ h3 k3 (by decide)) (by simp [own_exp, Int64.add_assoc]) (by simp [own_exp, Int64.add_assoc]) (by simp [own_exp, Int64.add_assoc]) (by simp [own_exp, Int64.add_assoc]) rfl
      · refine s0_141 ?_
        refine s0_143 ?_
        refine s0_145 ?_
        refine s0_147 2 rfl (by decide) rfl ?_
        refine s0_148 ?_
        refine s0_149 rfl (own_move _ _ _ _ _ _ 0 2 2 _ _ h2 k2 (by decide) (by decide) (by decide) rfl) rfl ?_
        refine s0_152 ?_
        refine s0_154 (fun h => absurd h (by decide)) (fun _ => ?_)
        rcases hr2 with rfl | rfl | rfl | rfl
        · exact absurd hs (by decide)
        · exact absurd hs (by decide)
        · exact absurd hs (by decide)
        · refine s0_157 ?_
          refine s0_159 ?_
          refine s0_161 ?_
          refine s0_163 3 rfl (by decide) rfl ?_
          refine s0_164 ?_
          refine s0_166 rfl (own_move _ _ _ _ _ _ 2 3 1 _ _ h3 k3 (by decide) (by decide) (by decide) rfl) rfl ?_
          exact own_tail _ _ _ _ _ _ _ _ _ _ _ _ _ _ rfl rfl _ _ _ _ _ _ _ _ _ _ _ _ (own_lo _ _ _ _ _ _ 0 _ _ _ h0 k0 (by decide) (by decide) rfl) (own_lo _ _ _ _ _ _ 1 _ _ _ h1 k1 (by decide) (by decide) rfl) (own_lo _ _ _ _ _ _ 2 _ _ _ h2 k2 (by decide) (by decide) rfl) (own_hi _ _ _ _ _ _ _ _ h3 k3 (by decide)) (by simp [own_exp, Int64.add_assoc]) (by simp [own_exp, Int64.add_assoc]) (by simp [own_exp, Int64.add_assoc]) (by simp [own_exp, Int64.add_assoc]) rfl
      · refine s0_141 ?_
        refine s0_143 ?_
        refine s0_145 ?_
        refine s0_147 3 rfl (by decide) rfl ?_
        refine s0_148 ?_
        refine s0_149 rfl (own_move _ _ _ _ _ _ 0 3 3 _ _ h3 k3 (by decide) (by decide) (by decide) rfl) rfl ?_
        refine s0_152 ?_
        refine s0_154 (fun h => absurd h (by decide)) (fun _ => ?_)
        rcases hr2 with rfl | rfl | rfl | rfl
        · exact absurd hs (by decide)
        · exact absurd hs (by decide)
        · exact absurd hs (by decide)
        · exact absurd hs (by decide)
set_option maxHeartbeats 4000000 in
theorem own_mid (a0 a1 : Int32) (b1 b2 : Int64) (mode k v p0 p1 p2 p3 : Int32) (n0 n1 n2 n3 : Nat) (h0 : ix p0 n0) (h1 : ix p1 n1) (h2 : ix p2 n2) (h3 : ix p3 n3) (b0 : n0 < 4) (b1' : n1 < 4) (b2' : n2 < 4) (b3 : n3 < 4) (k0 : (own_ri n0 n1 n2 n3)[n0]? = some (.int 0)) (k1 : (own_ri n0 n1 n2 n3)[n1]? = some (.int 1)) (k2 : (own_ri n0 n1 n2 n3)[n2]? = some (.int 2)) (k3 : (own_ri n0 n1 n2 n3)[n3]? = some (.int 3)) :
    W0 ⟨5, 15, 124, 128⟩ 73 [.val (.int a0), .val (.int a1), .val (.long b1), .second, .val (.long b2), .second, .val (.int mode), .val (.int k), .val (.int v), .val (.ref 0), .unset, .unset, .unset, .unset, .unset, .unset, .unset, .unset] [] [.inr (.int, [.int p0, .int p1, .int p2, .int p3])] (fun r _ => r = some (.int 1)) := by
  refine s0_73 ?_
  refine s0_74 ?_
  refine s0_75 ?_
  have hr1 := own_bits a1
  generalize a1 &&& 3 = r1 at hr1
  refine s0_76 rfl ?_
  refine s0_78 ?_
  refine s0_79 ?_
  refine s0_80 ?_
  refine s0_81 ?_
  refine s0_82 ?_
  have hr2 := own_bits (XT.ushr a1 2)
  generalize XT.ushr a1 2 &&& 3 = r2 at hr2
  refine s0_83 rfl ?_
  refine s0_85 ?_
  refine s0_87 ?_
  refine s0_88 ?_
  refine b0_89 (fun f hf => ?_)
  have hf' : f = 0 ∨ f = 1 := by rcases hf with ⟨-, h⟩ | ⟨-, h⟩; exact Or.inr h; exact Or.inl h
  refine s0_97 rfl ?_
  refine s0_99 ?_
  refine s0_101 ?_
  refine s0_102 ?_
  have fin : ∀ s : Int32, (s = 0 ∨ s = 1 ∧ (f = 0 ∨ r1 < r2)) → W0 ⟨5, 15, 124, 128⟩ 123 [.val (.int a0), .val (.int a1), .val (.long b1), .second, .val (.long b2), .second, .val (.int mode), .val (.int k), .val (.int v), .val (.ref 0), .val (.int r1), .val (.int r2), .val (.int f), .unset, .unset, .unset, .unset, .unset] [.int s] [.inr (.int, [.int p0, .int p1, .int p2, .int p3])] (fun r _ => r = some (.int 1)) := fun s hs =>
    s0_123 rfl (own_go a0 a1 b1 b2 mode k v r1 r2 f s p0 p1 p2 p3 n0 n1 n2 n3 h0 h1 h2 h3 b0 b1' b2' b3 k0 k1 k2 k3 hr1 hr2 hf' hs)
  refine s0_103 (fun _ => s0_122 (fin 0 (Or.inl rfl))) (fun _ => ?_)
  refine s0_106 (s0_108 (fun h => s0_118 (s0_119 (fin 1 (Or.inr ⟨rfl, Or.inl h⟩)))) (fun _ => ?_))
  refine s0_111 (s0_113 (s0_115 (fun _ => s0_122 (fin 0 (Or.inl rfl))) (fun h => s0_118 (s0_119 (fin 1 (Or.inr ⟨rfl, Or.inr h⟩))))))
set_option maxHeartbeats 4000000 in
theorem law_ok (a0 a1 : Int32) (b1 b2 : Int64) (mode : Int32) : M0 room_1 [.int a0, .int a1, .long b1, .long b2, .int mode] [] (fun r _ => r = some (.int 1)) := by
  refine e0 ?_
  refine s0_0 ?_
  refine s0_1 ?_
  refine s0_2 ?_
  have hk := own_bits a0
  generalize a0 &&& 3 = k at hk
  refine s0_3 rfl ?_
  refine s0_5 ?_
  refine s0_6 ?_
  refine s0_7 ?_
  refine s0_8 ?_
  refine s0_9 ?_
  refine b0_10 (fun v hv => ?_)
  have hv' : v = 0 ∨ v = 1 := by rcases hv with ⟨-, h⟩ | ⟨-, h⟩; exact Or.inr h; exact Or.inl h
  refine s0_18 rfl ?_
  refine s0_20 ?_
  refine s0_21 0 4 (by decide) rfl rfl ?_
  refine s0_23 rfl ?_
  refine s0_25 ?_
  refine s0_27 ?_
  refine s0_28 ?_
  refine s0_29 ?_
  refine s0_31 ?_
  refine s0_33 (own_pv _ _ _ _) rfl ?_
  refine s0_36 0 rfl (by decide) rfl ?_
  refine s0_37 ?_
  refine s0_39 ?_
  refine s0_40 ?_
  refine s0_41 ?_
  refine s0_43 ?_
  refine s0_45 (own_pv _ _ _ _) rfl ?_
  refine s0_48 1 rfl (by decide) rfl ?_
  refine s0_49 ?_
  refine s0_51 ?_
  refine s0_52 ?_
  refine s0_53 ?_
  refine s0_55 ?_
  refine s0_57 (own_pv _ _ _ _) rfl ?_
  refine s0_60 2 rfl (by decide) rfl ?_
  refine s0_61 ?_
  refine s0_63 ?_
  refine s0_64 ?_
  refine s0_65 ?_
  refine s0_67 ?_
  refine s0_69 (own_pv _ _ _ _) rfl ?_
  refine s0_72 3 rfl (by decide) rfl ?_
  rcases hv' with rfl | rfl
  · rcases hk with rfl | rfl | rfl | rfl
    · exact own_mid _ _ _ _ _ _ _ 0 1 2 3 0 1 2 3 (by decide) (by decide) (by decide) (by decide) (by decide) (by decide) (by decide) (by decide) rfl rfl rfl rfl
    · exact own_mid _ _ _ _ _ _ _ 1 2 3 0 1 2 3 0 (by decide) (by decide) (by decide) (by decide) (by decide) (by decide) (by decide) (by decide) rfl rfl rfl rfl
    · exact own_mid _ _ _ _ _ _ _ 2 3 0 1 2 3 0 1 (by decide) (by decide) (by decide) (by decide) (by decide) (by decide) (by decide) (by decide) rfl rfl rfl rfl
    · exact own_mid _ _ _ _ _ _ _ 3 0 1 2 3 0 1 2 (by decide) (by decide) (by decide) (by decide) (by decide) (by decide) (by decide) (by decide) rfl rfl rfl rfl
  · rcases hk with rfl | rfl | rfl | rfl
    · exact own_mid _ _ _ _ _ _ _ 0 3 2 1 0 3 2 1 (by decide) (by decide) (by decide) (by decide) (by decide) (by decide) (by decide) (by decide) rfl rfl rfl rfl
    · exact own_mid _ _ _ _ _ _ _ 1 0 3 2 1 0 3 2 (by decide) (by decide) (by decide) (by decide) (by decide) (by decide) (by decide) (by decide) rfl rfl rfl rfl
    · exact own_mid _ _ _ _ _ _ _ 2 1 0 3 2 1 0 3 (by decide) (by decide) (by decide) (by decide) (by decide) (by decide) (by decide) (by decide) rfl rfl rfl rfl
    · exact own_mid _ _ _ _ _ _ _ 3 2 1 0 3 2 1 0 (by decide) (by decide) (by decide) (by decide) (by decide) (by decide) (by decide) (by decide) rfl rfl rfl rfl
set_option maxRecDepth 65536 in
set_option maxHeartbeats 4000000 in
theorem comes_1 {Post : Tables → Env → Array Value → State → Outcome → State → Prop} (hpost : ∀ tb e args s v u, (limb_1_1.after args s (.returned v) u = true ∧ limb_1_2.after args s (.returned v) u = true ∧ True) → FrameEnd s (.returned v) u (Jvm.fieldLocs frame_1_writes args s ++ Jvm.arrayLocs frame_1_arrays args s ++ Jvm.staticLocs frame_1_statics s) 16 128 → Post tb e args s (.returned v) u) :
    ArmFor flags0 classFile x code maxLocals ret World_1 tables_1 room_1 Calls_1 rest_1 Pre_1 Post := by
  intro l hfl _ _ p e ha hc hk s m args below hf hA hF happ hP
  obtain ⟨hcalls, hrest, hpre⟩ := hP
  obtain ⟨-, -, -, hnamed, -, -, -, hat⟩ := (Spec.applies_iff hf).mp happ
  obtain ⟨hg, hn⟩ := and_e (Cond.before_iff.mp (show (Jvm.Cond.and given_1 narrow_1).before args s = true from hpre))
  obtain ⟨hg0, hg⟩ := and_e hg
  obtain ⟨hk0, hg⟩ := and_e hg
  obtain ⟨hk1, hg⟩ := and_e hg
  obtain ⟨hk2, hg⟩ := and_e hg
  obtain ⟨hk3, hg⟩ := and_e hg
  have hk4 := hg
  obtain ⟨w0, w1, w2, w3, w4, rfl⟩ : ∃ w0 w1 w2 w3 w4 : Value, args = #[w0, w1, w2, w3, w4] := by
    have hs : args.size = 5 := by simpa [Cond.value, given_1] using hg0
    obtain ⟨L⟩ := args
    match L, hs with
    | [w0, w1, w2, w3, w4], _ => exact ⟨w0, w1, w2, w3, w4, rfl⟩
  have hw := fun d (hd : d ∈ tables_1) => atoms_spec (ws := Jvm.Cond.code x code maxLocals ret :: tables_1) hat d (List.mem_cons_of_mem _ hd)
  obtain ⟨i0, e0⟩ := is_v hk0
  obtain rfl : w0 = (.int i0) := Option.some.inj e0
  obtain ⟨i1, e1⟩ := is_v hk1
  obtain rfl : w1 = (.int i1) := Option.some.inj e1
  obtain ⟨i2, e2⟩ := isL_v hk2
  obtain rfl : w2 = (.long i2) := Option.some.inj e2
  obtain ⟨i3, e3⟩ := isL_v hk3
  obtain rfl : w3 = (.long i3) := Option.some.inj e3
  obtain ⟨i4, e4⟩ := is_v hk4
  obtain rfl : w4 = (.int i4) := Option.some.inj e4
  obtain ⟨n, o, h1, h2, h3, _, L, rfl, ⟨v', H', rfl, hR, rfl, N⟩, hq⟩ := law_ok i0 i1 i2 i3 i4 s _ hw l s.heap tables_1 (Rel.start s KT) p e ha hc hk s m _ below hf ((Spec.applies_iff_loose hf).mp happ).1 ⟨rfl, State.Warmed39.refl s, rfl⟩ trivial
  refine ⟨n, _, h1, h2, h3, hpost _ _ _ _ _ _ ⟨Cond.after_iff.mpr rfl, Cond.after_iff.mpr (eq_i res_at (Term.int_eval (1)) rfl), trivial⟩ ⟨hq.1, hq.2.1, (hq.2.2.sift fun y hy => Or.inr (N y hy)).mono (by decide) (by decide)⟩⟩
theorem main_1_1 : Claimed_1_1 := comes_1 fun _ _ _ _ _ _ h hF => ⟨h.1, hF⟩
theorem main_1_2 : Claimed_1_2 := comes_1 fun _ _ _ _ _ _ h hF => ⟨h.2.1, hF⟩
end Jvm.Pilot.@@N@@
namespace Jvm.Pilot.@@N@@
open Jvm Jvm.ClassFile Sem Op Lib Jvm.Free Jvm.Stand Jvm.Pilot.@@N@@.Jvm.D
/-! MADE BY PROGRAM (witnessworld.py) out of the Statement's table words and the real class files: 11 classes; the members and pool entries that the words name. The judged class is class 1, her method 3. -/
namespace start1
open Jvm.ClassFile
def u (s : String) : CpInfo := .utf8 (stringToUtf16 s)
/-- a pool by its gaps: so many unusable entries, then the entry; so many at the end -/
def gap : Nat → List CpInfo → List CpInfo
  | 0, r => r
  | n + 1, r => .unusable :: gap n r
def poolList (es : List (Nat × CpInfo)) (last : Nat) : List CpInfo := es.foldr (fun e r => gap e.1 (e.2 :: r)) (gap last [])
def pool (es : List (Nat × CpInfo)) (last : Nat) : Array CpInfo := ⟨poolList es last⟩
def fileOf (pool : Array CpInfo) (this : Nat) (attrs : Array Attribute := #[]) (ms : Array MethodInfo := #[]) (fl : Nat := 33) (sup : Nat := 0) (ifs : Array Nat := #[]) (fds : Array FieldInfo := #[]) : ClassFile where
  minorVersion := 0
  majorVersion := 65
  constantPool := pool
  accessFlags := fl
  thisClass := this
  superClass := sup
  interfaces := ifs
  fields := fds
  methods := ms
  attributes := attrs
def plain (name : String) (sup : Option ClassId) : Class where
  name := name
  kind := .ordinary
  loader := none
  accessFlags := 33
  super := sup
  interfaces := #[]
  cf := none
  fields := #[]
  methods := #[]
  instanceTypes := #[]
  staticTypes := #[]
  resolved := #[]
  callSites := []
  init := .initialized
  statics := none
  mirror := none

def pool0 : Array CpInfo := pool [(5, u "<init>"), (0, u "()V"), (1, .class_ 10), (1, u "java/lang/Object")] 113

def k0c0 : Code := { maxStack := 0, maxLocals := 1, code := object_method_1_code, exceptionTable := #[], attributes := #[] }
def k0m0 : Method := { name := "<init>", desc := "()V", sig := { parameters := [], returnType := none }, accessFlags := 1, code := some k0c0 }
/-- java/lang/Object -/
def k0 : Class := { plain "java/lang/Object" none with
  accessFlags := 33
  interfaces := #[]
  cf := some (fileOf pool0 8 #[] #[{ accessFlags := 1, nameIndex := 5, descriptorIndex := 6, attributes := #[] }] 33 0 #[] #[])
  fields := #[]
  methods := #[k0m0]
  instanceTypes := #[]
  staticTypes := #[]
  resolved := Array.replicate 124 none
  statics := none }

def pool1 : Array CpInfo := pool [(2, .class_ 4), (1, u "java/lang/Object"), (0, u "<init>"), (0, u "()V"), (0, .methodref 8 9), (0, .class_ 10), (0, .nameAndType 11 12), (0, u "com/example/overlay_of_graphs/overlayofgraphs/embed/AxisMovePinLaw"), (0, u "pv"), (0, u "(IIZ)I"), (0, .class_ 14), (0, u "com/example/overlay_of_graphs/overlayofgraphs/embed/Axis"), (0, .methodref 13 16), (0, .nameAndType 5 17), (0, u "([I)V"), (0, .methodref 13 19), (0, .nameAndType 20 21), (0, u "move"), (0, u "(IJ)V"), (0, .methodref 13 23), (0, .nameAndType 24 25), (0, u "at"), (0, u "(I)J"), (0, .methodref 8 27), (0, .nameAndType 28 29), (0, u "exp"), (0, u "(IZIJZIJ)J"), (0, .methodref 13 31), (0, .nameAndType 32 33), (0, u "vertexAt"), (0, u "(J)I"), (3, u "law"), (0, u "(IIJJI)Z")] 4

def k1m0 : Method := { name := "<init>", desc := "()V", sig := { parameters := [], returnType := none }, accessFlags := 2, code := none }
def k1c1 : Code := { maxStack := 2, maxLocals := 3, code := method_2_code, exceptionTable := #[], attributes := #[] }
def k1m1 : Method := { name := "pv", desc := "(IIZ)I", sig := { parameters := [.int, .int, .boolean], returnType := some .int }, accessFlags := 10, code := some k1c1 }
def k1c2 : Code := { maxStack := 4, maxLocals := 11, code := method_3_code, exceptionTable := #[], attributes := #[] }
def k1m2 : Method := { name := "exp", desc := "(IZIJZIJ)J", sig := { parameters := [.int, .boolean, .int, .long, .boolean, .int, .long], returnType := some .long }, accessFlags := 10, code := some k1c2 }
def k1c3 : Code := { maxStack := 11, maxLocals := 18, code := code, exceptionTable := #[], attributes := #[] }
def k1m3 : Method := { name := "law", desc := "(IIJJI)Z", sig := { parameters := [.int, .int, .long, .long, .int], returnType := some .boolean }, accessFlags := 9, code := some k1c3 }
/-- com/example/overlay_of_graphs/overlayofgraphs/embed/AxisMovePinLaw -/
def k1 : Class := { plain "com/example/overlay_of_graphs/overlayofgraphs/embed/AxisMovePinLaw" (some 0) with
  accessFlags := 49
  interfaces := #[]
  cf := some (fileOf pool1 8 #[] #[{ accessFlags := 2, nameIndex := 5, descriptorIndex := 6, attributes := #[] }, { accessFlags := 10, nameIndex := 11, descriptorIndex := 12, attributes := #[] }, { accessFlags := 10, nameIndex := 28, descriptorIndex := 29, attributes := #[] }, { accessFlags := 9, nameIndex := 37, descriptorIndex := 38, attributes := #[] }] 49 2 #[] #[])
  fields := #[]
  methods := #[k1m0, k1m1, k1m2, k1m3]
  instanceTypes := #[]
  staticTypes := #[]
  resolved := Array.replicate 43 none
  statics := none }

def pool2 : Array CpInfo := pool [(1, .methodref 2 3), (0, .class_ 4), (0, .nameAndType 5 6), (0, u "java/lang/Object"), (0, u "<init>"), (0, u "()V"), (0, .fieldref 8 9), (0, .class_ 10), (0, .nameAndType 11 12), (0, u "com/example/overlay_of_graphs/overlayofgraphs/embed/Axis"), (0, u "settled"), (0, u "I"), (0, .fieldref 8 14), (0, .nameAndType 15 16), (0, u "byRank"), (0, u "[I"), (0, .fieldref 8 18), (0, .nameAndType 19 16), (0, u "rank"), (0, .fieldref 8 21), (0, .nameAndType 22 23), (0, u "gapsAt"), (0, u "[J"), (0, .fieldref 8 25), (0, .nameAndType 26 27), (0, u "gaps"), (0, u "J"), (0, u "([I)V"), (6, u "at"), (0, u "(I)J"), (0, u "vertexAt"), (0, u "(J)I"), (0, u "move"), (0, u "(IJ)V")] 2

def k2c0 : Code := { maxStack := 3, maxLocals := 3, code := prog_12_method_1_code, exceptionTable := #[], attributes := #[] }
def k2m0 : Method := { name := "<init>", desc := "([I)V", sig := { parameters := [(.array .int)], returnType := none }, accessFlags := 0, code := some k2c0 }
def k2c1 : Code := { maxStack := 4, maxLocals := 3, code := prog_12_method_4_code, exceptionTable := #[], attributes := #[] }
def k2m1 : Method := { name := "at", desc := "(I)J", sig := { parameters := [.int], returnType := some .long }, accessFlags := 0, code := some k2c1 }
def k2c2 : Code := { maxStack := 4, maxLocals := 5, code := prog_12_method_5_code, exceptionTable := #[], attributes := #[] }
def k2m2 : Method := { name := "vertexAt", desc := "(J)I", sig := { parameters := [.long], returnType := some .int }, accessFlags := 0, code := some k2c2 }
def k2c3 : Code := { maxStack := 5, maxLocals := 6, code := prog_12_method_6_code, exceptionTable := #[], attributes := #[] }
def k2m3 : Method := { name := "move", desc := "(IJ)V", sig := { parameters := [.int, .long], returnType := none }, accessFlags := 0, code := some k2c3 }
/-- com/example/overlay_of_graphs/overlayofgraphs/embed/Axis -/
def k2 : Class := { plain "com/example/overlay_of_graphs/overlayofgraphs/embed/Axis" (some 0) with
  accessFlags := 48
  interfaces := #[]
  cf := some (fileOf pool2 8 #[] #[{ accessFlags := 0, nameIndex := 5, descriptorIndex := 28, attributes := #[] }, { accessFlags := 0, nameIndex := 35, descriptorIndex := 36, attributes := #[] }, { accessFlags := 0, nameIndex := 37, descriptorIndex := 38, attributes := #[] }, { accessFlags := 0, nameIndex := 39, descriptorIndex := 40, attributes := #[] }] 48 2 #[] #[{ accessFlags := 18, nameIndex := 15, descriptorIndex := 16, attributes := #[] }, { accessFlags := 18, nameIndex := 19, descriptorIndex := 16, attributes := #[] }, { accessFlags := 18, nameIndex := 22, descriptorIndex := 23, attributes := #[] }, { accessFlags := 2, nameIndex := 11, descriptorIndex := 12, attributes := #[] }, { accessFlags := 2, nameIndex := 26, descriptorIndex := 27, attributes := #[] }])
  fields := #[{ name := "byRank", type := (.array .int), accessFlags := 18, slot := 0, constantValue := 0 }, { name := "rank", type := (.array .int), accessFlags := 18, slot := 1, constantValue := 0 }, { name := "gapsAt", type := (.array .long), accessFlags := 18, slot := 2, constantValue := 0 }, { name := "settled", type := .int, accessFlags := 2, slot := 3, constantValue := 0 }, { name := "gaps", type := .long, accessFlags := 2, slot := 4, constantValue := 0 }]
  methods := #[k2m0, k2m1, k2m2, k2m3]
  instanceTypes := #[(.array .int), (.array .int), (.array .long), .int, .long]
  staticTypes := #[]
  resolved := Array.replicate 43 none
  statics := none }

def pool3 : Array CpInfo := pool [(1, u "java/lang/Cloneable"), (0, .class_ 1), (0, u "java/lang/Object"), (0, .class_ 3)] 3

/-- java/lang/Cloneable -/
def k3 : Class := { plain "java/lang/Cloneable" (some 0) with
  accessFlags := 1537
  interfaces := #[]
  cf := some (fileOf pool3 2 #[] #[] 1537 4 #[] #[])
  fields := #[]
  methods := #[]
  instanceTypes := #[]
  staticTypes := #[]
  resolved := Array.replicate 8 none
  statics := none }

def pool4 : Array CpInfo := pool [(1, u "java/io/Serializable"), (0, .class_ 1), (0, u "java/lang/Object"), (0, .class_ 3)] 3

/-- java/io/Serializable -/
def k4 : Class := { plain "java/io/Serializable" (some 0) with
  accessFlags := 1537
  interfaces := #[]
  cf := some (fileOf pool4 2 #[] #[] 1537 4 #[] #[])
  fields := #[]
  methods := #[]
  instanceTypes := #[]
  staticTypes := #[]
  resolved := Array.replicate 8 none
  statics := none }

/-- the primitive byte -/
def k5 : Class := { plain "byte" none with kind := .primitive 'B', accessFlags := 0x411 }
/-- [B -/
def k6 : Class := { plain "[B" (some 0) with kind := .array 5 .byte, interfaces := #[3, 4], accessFlags := 1041 }

/-- the primitive int -/
def k7 : Class := { plain "int" none with kind := .primitive 'I', accessFlags := 0x411 }
/-- [I -/
def k8 : Class := { plain "[I" (some 0) with kind := .array 7 .int, interfaces := #[3, 4], accessFlags := 1041 }

/-- the primitive long -/
def k9 : Class := { plain "long" none with kind := .primitive 'J', accessFlags := 0x411 }
/-- [J -/
def k10 : Class := { plain "[J" (some 0) with kind := .array 9 .long, interfaces := #[3, 4], accessFlags := 1041 }

def heap : Heap := #[]
def classes : Array Class := #[k0, k1, k2, k3, k4, k5, k6, k7, k8, k9, k10]
def interned : List (Array UInt16 × Addr) := []
def slotsUsed : Nat := 0
def theMethod : MethodId := ⟨1, 3⟩
def args0 : Array Value := #[.int 5, .int 6, .long 3, .long 4, .int 3]
def aboutOver (below : List Frame) : State where
  vm := { classes := classes, interned := interned.toArray }
  heap := heap
  slotsUsed := slotsUsed
  threads := #[{ frames := .invoking theMethod args0 :: below }]
def below0 : List Frame := [.native { method := ⟨0, 0⟩, args := #[] }]
def about1 : State := aboutOver below0
def p0 : Program := .bare "" "" ""
def e0 : Env := launch0.env 0 0 0
theorem w_frames : about1.frames = Frame.invoking theMethod args0 :: below0 := rfl
set_option maxRecDepth 65536 in
theorem w_args : argsFit about1.vm theMethod args0 = true := by decide +kernel
set_option maxRecDepth 65536 in
theorem w_heap : heapFits about1 = true := by decide +kernel
set_option maxRecDepth 65536 in
theorem w_runnable : about1.curStatus? = some .runnable := by decide +kernel
set_option maxRecDepth 65536 in
theorem w_alone : about1.alone = true := by decide +kernel
set_option maxRecDepth 65536 in
theorem w_named : about1.methodNamed? x = some theMethod := by decide +kernel
set_option maxRecDepth 65536 in
theorem w_hears : about1.hears theMethod below0 = true := by decide +kernel
set_option maxRecDepth 65536 in
theorem w_ripe : about1.ripe theMethod args0 below0 = true := by decide +kernel
theorem w_running : about1.status = .running := rfl
set_option maxRecDepth 65536 in
theorem w_room : about1.hasRoom e0.platform room_1 = true :=
  launch0.hasRoom_least _ room_1 (by decide +kernel) (by decide +kernel) (by decide +kernel) (by decide +kernel) (by decide +kernel) (by decide +kernel)
theorem allAtoms_all (ts : List Jvm.Cond) (a : Array Jvm.Value) (st : Jvm.State) : (allAtoms ts).before a st = ts.all (fun c => c.before a st) := by
  induction ts with
  | nil => rfl
  | cons c t ih =>
    show (Jvm.Cond.and c (allAtoms t)).before a st = _
    rw [Jvm.Cond.before_and, ih, List.all_cons]
def words1 : List Jvm.Cond := Jvm.Cond.code x code maxLocals ret :: tables_1
/-- a 'code' word, met by the world's own term for the bytes: nothing is compared byte by byte -/
theorem code_word {y : MethodName} {bytes : ByteArray} {mx : Nat} {rt : Option FieldType} {a : Array Value} {s : State} {m : MethodId} {meth : Method} {c : Code} (h1 : s.methodNamed? y = some m) (h2 : s.vm.method? m = some meth) (h3 : meth.code = some c) (h4 : c.code = bytes)
    (h5 : (c.maxLocals == mx && c.exceptionTable.isEmpty && decide (c.maxStack ≤ mostOperands) && decide (meth.sig.returnType = rt) && !meth.locks && decide (parseMethodDescriptor y.desc = some meth.sig)) = true) : (Jvm.Cond.code y bytes mx rt).before a s = true := by
  simp only [Bool.and_eq_true, beq_iff_eq, Bool.not_eq_true', decide_eq_true_eq] at h5
  obtain ⟨⟨⟨⟨⟨g1, g2⟩, g3⟩, g4⟩, g5⟩, g6⟩ := h5
  simp [Cond.before, Cond.holds, Cond.value, h1, h2, h3, h4, g1, g2, g3, g4, g5, g6]
def isCode : Jvm.Cond → Bool
  | .code _ _ _ _ => true
  | _ => false
theorem all_split {L : List Jvm.Cond} {P : Jvm.Cond → Bool} (h1 : L.all (fun c => isCode c || P c) = true) (h2 : ∀ c ∈ L.filter isCode, P c = true) : L.all P = true := by
  refine List.all_eq_true.mpr fun c hc => ?_
  have h := List.all_eq_true.mp h1 c hc
  rcases Bool.eq_false_or_eq_true (isCode c) with hi | hi
  · exact h2 c (List.mem_filter.mpr ⟨hc, hi⟩)
  · simpa [hi] using h
set_option maxRecDepth 65536 in
theorem w_c0 : (Jvm.Cond.code x code maxLocals ret).before args0 about1 = true := code_word (m := ⟨1, 3⟩) (meth := k1m3) (c := k1c3) (by decide +kernel) rfl rfl rfl (by decide +kernel)
set_option maxRecDepth 65536 in
theorem w_c1 : (Jvm.Cond.code ({ cls := "com/example/overlay_of_graphs/overlayofgraphs/embed/AxisMovePinLaw", name := "pv", desc := "(IIZ)I" } : Jvm.MethodName) method_2_code (3 : Nat) (Option.some Jvm.ClassFile.FieldType.int)).before args0 about1 = true := code_word (m := ⟨1, 1⟩) (meth := k1m1) (c := k1c1) (by decide +kernel) rfl rfl rfl (by decide +kernel)
set_option maxRecDepth 65536 in
theorem w_c2 : (Jvm.Cond.code ({ cls := "com/example/overlay_of_graphs/overlayofgraphs/embed/Axis", name := "<init>", desc := "([I)V" } : Jvm.MethodName) prog_12_method_1_code (3 : Nat) (Option.none : Option Jvm.ClassFile.FieldType)).before args0 about1 = true := code_word (m := ⟨2, 0⟩) (meth := k2m0) (c := k2c0) (by decide +kernel) rfl rfl rfl (by decide +kernel)
set_option maxRecDepth 65536 in
theorem w_c3 : (Jvm.Cond.code ({ cls := "java/lang/Object", name := "<init>", desc := "()V" } : Jvm.MethodName) object_method_1_code (1 : Nat) (Option.none : Option Jvm.ClassFile.FieldType)).before args0 about1 = true := code_word (m := ⟨0, 0⟩) (meth := k0m0) (c := k0c0) (by decide +kernel) rfl rfl rfl (by decide +kernel)
set_option maxRecDepth 65536 in
theorem w_c4 : (Jvm.Cond.code ({ cls := "com/example/overlay_of_graphs/overlayofgraphs/embed/Axis", name := "move", desc := "(IJ)V" } : Jvm.MethodName) prog_12_method_6_code (6 : Nat) (Option.none : Option Jvm.ClassFile.FieldType)).before args0 about1 = true := code_word (m := ⟨2, 3⟩) (meth := k2m3) (c := k2c3) (by decide +kernel) rfl rfl rfl (by decide +kernel)
set_option maxRecDepth 65536 in
theorem w_c5 : (Jvm.Cond.code ({ cls := "com/example/overlay_of_graphs/overlayofgraphs/embed/Axis", name := "at", desc := "(I)J" } : Jvm.MethodName) prog_12_method_4_code (3 : Nat) (Option.some Jvm.ClassFile.FieldType.long)).before args0 about1 = true := code_word (m := ⟨2, 1⟩) (meth := k2m1) (c := k2c1) (by decide +kernel) rfl rfl rfl (by decide +kernel)
set_option maxRecDepth 65536 in
theorem w_c6 : (Jvm.Cond.code ({ cls := "com/example/overlay_of_graphs/overlayofgraphs/embed/AxisMovePinLaw", name := "exp", desc := "(IZIJZIJ)J" } : Jvm.MethodName) method_3_code (11 : Nat) (Option.some Jvm.ClassFile.FieldType.long)).before args0 about1 = true := code_word (m := ⟨1, 2⟩) (meth := k1m2) (c := k1c2) (by decide +kernel) rfl rfl rfl (by decide +kernel)
set_option maxRecDepth 65536 in
theorem w_c7 : (Jvm.Cond.code ({ cls := "com/example/overlay_of_graphs/overlayofgraphs/embed/Axis", name := "vertexAt", desc := "(J)I" } : Jvm.MethodName) prog_12_method_5_code (5 : Nat) (Option.some Jvm.ClassFile.FieldType.int)).before args0 about1 = true := code_word (m := ⟨2, 2⟩) (meth := k2m2) (c := k2c2) (by decide +kernel) rfl rfl rfl (by decide +kernel)
def codes1 : List Jvm.Cond := [Jvm.Cond.code x code maxLocals ret, Jvm.Cond.code ({ cls := "com/example/overlay_of_graphs/overlayofgraphs/embed/AxisMovePinLaw", name := "pv", desc := "(IIZ)I" } : Jvm.MethodName) method_2_code (3 : Nat) (Option.some Jvm.ClassFile.FieldType.int), Jvm.Cond.code ({ cls := "com/example/overlay_of_graphs/overlayofgraphs/embed/Axis", name := "<init>", desc := "([I)V" } : Jvm.MethodName) prog_12_method_1_code (3 : Nat) (Option.none : Option Jvm.ClassFile.FieldType), Jvm.Cond.code ({ cls := "java/lang/Object", name := "<init>", desc := "()V" } : Jvm.MethodName) object_method_1_code (1 : Nat) (Option.none : Option Jvm.ClassFile.FieldType), Jvm.Cond.code ({ cls := "com/example/overlay_of_graphs/overlayofgraphs/embed/Axis", name := "move", desc := "(IJ)V" } : Jvm.MethodName) prog_12_method_6_code (6 : Nat) (Option.none : Option Jvm.ClassFile.FieldType), Jvm.Cond.code ({ cls := "com/example/overlay_of_graphs/overlayofgraphs/embed/Axis", name := "at", desc := "(I)J" } : Jvm.MethodName) prog_12_method_4_code (3 : Nat) (Option.some Jvm.ClassFile.FieldType.long), Jvm.Cond.code ({ cls := "com/example/overlay_of_graphs/overlayofgraphs/embed/AxisMovePinLaw", name := "exp", desc := "(IZIJZIJ)J" } : Jvm.MethodName) method_3_code (11 : Nat) (Option.some Jvm.ClassFile.FieldType.long), Jvm.Cond.code ({ cls := "com/example/overlay_of_graphs/overlayofgraphs/embed/Axis", name := "vertexAt", desc := "(J)I" } : Jvm.MethodName) prog_12_method_5_code (5 : Nat) (Option.some Jvm.ClassFile.FieldType.int)]
set_option maxRecDepth 65536 in
theorem codes_eq : words1.filter isCode = codes1 := rfl
theorem w_codes : ∀ c ∈ words1.filter isCode, c.before args0 about1 = true := by
  rw [codes_eq]
  intro c hc
  simp only [codes1, List.mem_cons, List.not_mem_nil, or_false] at hc
  rcases hc with rfl | rfl | rfl | rfl | rfl | rfl | rfl | rfl
  · exact w_c0
  · exact w_c1
  · exact w_c2
  · exact w_c3
  · exact w_c4
  · exact w_c5
  · exact w_c6
  · exact w_c7
set_option maxRecDepth 65536 in
theorem w_t1 : (words1.take 24).all (fun c => isCode c || c.before args0 about1) = true := by decide +kernel
set_option maxRecDepth 65536 in
theorem w_t2 : (words1.drop 24).all (fun c => isCode c || c.before args0 about1) = true := by decide +kernel
theorem w_tables : (allAtoms (Jvm.Cond.code x code maxLocals ret :: tables_1)).before args0 about1 = true := by
  rw [allAtoms_all]
  show words1.all (fun c => c.before args0 about1) = true
  refine all_split ?_ w_codes
  rw [← List.take_append_drop 24 words1, List.all_append, w_t1, w_t2]
  rfl
set_option maxRecDepth 65536 in
theorem w_case : (Jvm.Cond.and given_1 narrow_1).before args0 about1 = true := by decide +kernel
theorem w_applies : (headSpec (Jvm.Cond.code x code maxLocals ret :: tables_1) room_1).applies x e0.platform about1 = true :=
  (Spec.applies_iff w_frames).mpr ⟨w_running, w_runnable, w_alone, w_named, w_hears, w_ripe, w_room, w_tables⟩
theorem atStart : AtStart classFile x code maxLocals ret World_1 tables_1 room_1 Calls_1 rest_1 Pre_1 launch0 p0 e0 about1 theMethod args0 below0 :=
  ⟨lists_1, trivial, launch0.admits_env _ _ _, launch0.least_env, fairChoices_fair.cas, fairChoices_fair.clock, w_frames, w_args, w_heap, w_applies, trivial, trivial, w_case⟩
end start1
theorem witness_1 : WitnessClaimed_1 := ⟨start1.p0, start1.e0, start1.about1, start1.theMethod, start1.args0, start1.below0, start1.atStart⟩
end Jvm.Pilot.@@N@@
