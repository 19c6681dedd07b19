import JvmDerived
import JvmDerived.Pilot.@@N@@Statement
import JvmDerived.Pilot.@@N@@Code
set_option linter.unusedVariables false
set_option linter.unusedSimpArgs false
namespace Jvm.RoadKit
open Sem ClassFile Op Lib Jvm.Stand Jvm.Free Jvm.LawKit
section New
variable {p : Program} {l : Launch} {e : Env} {R : Room} {s : State} {m : MethodId} {args : Array Value} {below : List Frame} {meth : Method} {c : Code} {T : State} {locs : List Loc} {cells slots : Nat}
theorem retI (X : Stand p l e R s m args below meth c T locs cells slots) (hx : p.tables.exec = Jvm.exec) {pc : Nat} {Ls : Array Slot} {z : Int32} {rest : List Value} (hret : meth.sig.returnType = some .int) (hd : decode c.code pc = .ok (.ireturn, 1)) {fs : List Frame}
    (hl : ∀ (f : JFrame) (acts : List Action), f.method = m → f.locked = none → f.entered = [] → (doReturn e (T.setTop f) acts (some (.int z))).1 = T.setFrames fs) : Steps p.tables e below (T.setTop (mkF m pc Ls (.int z :: rest))) (T.setFrames fs) := by
  have hm' : T.vm.method? m = some meth := X.method'
  have hn : narrow .int (.int z) = .int z := rfl
  show Steps p.tables e below (T.setTop { method := m, pc := pc, locals := Ls, stack := _ :: rest, locked := none }) _
  jvm_step X.here [X.here.top, hx, hd, hm', hret, hn]
  first | (intro acts; rw [hl _ acts rfl rfl rfl]) | rw [hl _ _ rfl rfl rfl]
  exact Steps.refl _
end New
end Jvm.RoadKit
namespace Jvm.Wp
open Sem ClassFile Op Lib Jvm.Free Jvm.Stand Jvm.LawKit Jvm.RoadKit

/-- a cell of the walk's own small heap: an array (its kind, its values) or an object (its class, its fields: name, descriptor, value) -/
abbrev MC : Type := Sum (FieldType × List Value) (String × List (String × String × Value))
abbrev MH : Type := List (Addr × MC)
def COk (Z : State) (a0 : Array Value) (h : Heap) (a : Addr) : MC → Prop
  | .inl (ty, vs) => ∃ c : Cell, Arr Z h a c ty ∧ c.slots = vs.toArray ∧ vs.length < 2 ^ 31
  | .inr (C, fs) => Exa Z h a C ∧ (fs.map (·.1)).Nodup ∧ ∀ x ∈ fs, Fld Z h a C x.1 x.2.1 x.2.2 ∧ Laid Z a0 C C x.1 x.2.1 ∧ ∃ t, parseFieldDescriptor x.2.1 = some t
def Rel (Z : State) (a0 : Array Value) (n0 : Nat) (H : MH) (h : Heap) : Prop := n0 ≤ h.size ∧ (H.map (·.1)).Nodup ∧ ∀ x ∈ H, n0 ≤ x.1 ∧ COk Z a0 h x.1 x.2

theorem idx_eq {j : Int32} {i : Nat} (hj : j.toInt = (i : Int)) : j.toNatClampNeg = i := by
  show j.toInt.toNat = i
  rw [hj]; simp
theorem idx_ok {j : Int32} {i n : Nat} (hj : j.toInt = (i : Int)) (hi : i < n) : ¬ (j < 0 ∨ n ≤ j.toNatClampNeg) := by
  rw [idx_eq hj, Int32.lt_iff_toInt_lt, hj]
  simp; omega
theorem COk.lt {Z : State} {a0 : Array Value} {h : Heap} {a : Addr} {c : MC} (k : COk Z a0 h a c) : a < h.size := by
  cases c with
  | inl q => obtain ⟨ty, vs⟩ := q; obtain ⟨c, A, -⟩ := k; exact A.lt
  | inr q => obtain ⟨C, fs⟩ := q; exact k.1.lt
theorem COk.ext {Z : State} {a0 : Array Value} {h h' : Heap} {a : Addr} {c : MC} (E : Ext h h') (k : COk Z a0 h a c) : COk Z a0 h' a c := by
  cases c with
  | inl q => obtain ⟨ty, vs⟩ := q; obtain ⟨c, A, r⟩ := k; exact ⟨c, A.ext E, r⟩
  | inr q => obtain ⟨C, fs⟩ := q; exact ⟨k.1.ext E, k.2.1, fun x hx => ⟨(k.2.2 x hx).1.ext E, (k.2.2 x hx).2⟩⟩
theorem COk.other {Z : State} {a0 : Array Value} {h h' : Heap} {a b : Addr} {sl : Nat} {v : Value} {c : MC} (W : Wr h h' b sl v) (hne : a ≠ b) (k : COk Z a0 h a c) : COk Z a0 h' a c := by
  cases c with
  | inl q => obtain ⟨ty, vs⟩ := q; obtain ⟨c, A, r⟩ := k; exact ⟨c, A.other W hne, r⟩
  | inr q => obtain ⟨C, fs⟩ := q; exact ⟨k.1.wr W, k.2.1, fun x hx => ⟨(k.2.2 x hx).1.other W (Or.inl hne), (k.2.2 x hx).2⟩⟩
theorem COk.setArr {Z : State} {a0 : Array Value} {h h' : Heap} {a : Addr} {ty : FieldType} {vs : List Value} {i : Nat} {v : Value} (W : Wr h h' a i v) (k : COk Z a0 h a (.inl (ty, vs))) : COk Z a0 h' a (.inl (ty, vs.set i v)) := by
  obtain ⟨c, A, e, r⟩ := k
  refine ⟨_, A.same W, ?_, by simpa using r⟩
  show c.slots.setIfInBounds i v = _
  rw [e]; simp
theorem Rel.ext {Z : State} {a0 : Array Value} {n0 : Nat} {H : MH} {h h' : Heap} (E : Ext h h') (r : Rel Z a0 n0 H h) : Rel Z a0 n0 H h' := ⟨Nat.le_trans r.1 E.1, r.2.1, fun x hx => ⟨(r.2.2 x hx).1, (r.2.2 x hx).2.ext E⟩⟩
theorem Rel.push {Z : State} {a0 : Array Value} {n0 : Nat} {H : MH} {h h' : Heap} {c : MC} (E : Ext h h') (r : Rel Z a0 n0 H h) (k : COk Z a0 h' h.size c) : Rel Z a0 n0 ((h.size, c) :: H) h' := by
  refine ⟨Nat.le_trans r.1 E.1, ?_, fun x hx => ?_⟩
  · rw [List.map_cons, List.nodup_cons]
    refine ⟨fun q => ?_, r.2.1⟩
    obtain ⟨x, hx, e⟩ := List.mem_map.mp q
    have h1 := (r.2.2 x hx).2.lt
    rw [e] at h1
    exact Nat.lt_irrefl _ h1
  · rcases List.mem_cons.mp hx with rfl | q
    · exact ⟨r.1, k⟩
    · exact ⟨(r.2.2 x q).1, (r.2.2 x q).2.ext E⟩
theorem Rel.set {Z : State} {a0 : Array Value} {n0 : Nat} {pre post : MH} {h h' : Heap} {a : Addr} {c c' : MC} {sl : Nat} {v : Value} (W : Wr h h' a sl v) (r : Rel Z a0 n0 (pre ++ (a, c) :: post) h) (k : COk Z a0 h a c → COk Z a0 h' a c') : Rel Z a0 n0 (pre ++ (a, c') :: post) h' := by
  obtain ⟨r1, N, F⟩ := r
  refine ⟨by rw [W.size]; exact r1, by simpa using N, fun x hx => ?_⟩
  have hme := F (a, c) (by simp)
  have hsplit : x = (a, c') ∨ (x ∈ pre ++ (a, c) :: post ∧ x.1 ≠ a) := by
    simp only [List.map_append, List.map_cons] at N
    rw [List.nodup_append] at N
    obtain ⟨-, N2, N3⟩ := N
    rw [List.nodup_cons] at N2
    rcases List.mem_append.mp hx with h1 | h1
    · refine Or.inr ⟨List.mem_append.mpr (Or.inl h1), ?_⟩
      exact N3 x.1 (List.mem_map_of_mem h1) a (by simp)
    · rcases List.mem_cons.mp h1 with h2 | h2
      · exact Or.inl h2
      · refine Or.inr ⟨List.mem_append.mpr (Or.inr (List.mem_cons_of_mem _ h2)), fun q => N2.1 ?_⟩
        rw [← q]; exact List.mem_map_of_mem h2
  rcases hsplit with rfl | ⟨hm, hne⟩
  · exact ⟨hme.1, k hme.2⟩
  · exact ⟨(F x hm).1, (F x hm).2.other W hne⟩
theorem Rel.at {Z : State} {a0 : Array Value} {n0 : Nat} {H : MH} {h : Heap} {k : Nat} {a : Addr} {c : MC} (r : Rel Z a0 n0 H h) (hk : H[k]? = some (a, c)) : n0 ≤ a ∧ COk Z a0 h a c := r.2.2 (a, c) (List.mem_of_getElem? hk)

/-- from pc on, with these locals, this stack, this small heap: the method returns, and Q holds of what it returns and of the small heap at the end -/
def WP (l : Launch) (Z : State) (a0 : Array Value) (n0 : Nat) (R : Room) (y : MethodName) (code : ByteArray) (mx : Nat) (ret : Option FieldType) (cells slots pc : Nat) (Ls : List Slot) (st : List Value) (H : MH) (Q : Option Value → MH → Prop) : Prop :=
  ∀ (p : Program) (e : Env) (s : State) (m : MethodId) (args : Array Value) (below : List Frame) (meth : Method) (c : Code) (T : State) (locs : List Loc),
    Stand p l e R s m args below meth c T locs cells slots → p.tables.exec = Jvm.exec → Z.Warmed39 s.vm → c.code = code → c.maxLocals = mx → s.vm.findClass y.cls = some m.cls → meth.name = y.name → meth.sig.returnType = ret → meth.locks = false →
    Fr n0 locs → Rel Z a0 n0 H T.heap → cells ≤ R.cells → slots ≤ R.slots →
    ∃ v H' L s₂, Steps p.tables e below (T.setTop (mkF m pc ⟨Ls⟩ st)) s₂ ∧ s₂.status = .running ∧ Ended s₂ below (.returned v) ∧ Fr n0 L ∧ Rel Z a0 n0 H' s₂.heap ∧ Q v H' ∧ s.WarmedH s₂.vm ∧ s.sameButNew ({ s₂ with vm := s.vm } : State) L R.cells R.slots
/-- a method's contract: called with these arguments over this small heap it returns, and Q holds -/
def Con (l : Launch) (Z : State) (a0 : Array Value) (n0 : Nat) (y : MethodName) (code : ByteArray) (mx : Nat) (ret : Option FieldType) (rm : Room) (as : Array Value) (H : MH) (Q : Option Value → MH → Prop) : Prop :=
  ∀ (ws : List Cond) (h0 : Heap), Rel Z a0 n0 H h0 → MetFree l y (head1 (Cond.code y code mx ret :: ws) rm) (fun a U => a = as ∧ Z.Warmed39 U.vm ∧ U.heap = h0) (fun _ _ _ _ _ => True)
    (fun _ U o U' => ∃ v L, o = .returned v ∧ (Fr n0 L ∧ ∃ H', Rel Z a0 n0 H' U'.heap ∧ Q v H') ∧ FrameEnd U o U' L rm.cells rm.slots)

variable {l : Launch} {Z : State} {a0 : Array Value} {n0 : Nat} {R : Room} {y : MethodName} {code : ByteArray} {mx : Nat} {ret : Option FieldType} {cells slots pc : Nat} {Ls : List Slot} {st : List Value} {H : MH} {Q : Option Value → MH → Prop}

def locsOf : List Value → List Slot
  | [] => []
  | v :: t => if v.category = 2 then .val v :: .second :: locsOf t else .val v :: locsOf t
theorem foldl_locs (l : List Value) : ∀ acc : Array Slot, l.foldl (fun acc v => if v.category = 2 then (acc.push (.val v)).push .second else acc.push (.val v)) acc = acc ++ (locsOf l).toArray := by
  induction l with
  | nil => intro acc; simp [locsOf]
  | cons v t ih =>
    intro acc
    rw [List.foldl_cons, ih, locsOf]
    split <;> simp
theorem efG (m : MethodId) (l : List Value) (mx : Nat) : entryFrame m l.toArray mx = mkF m 0 ⟨locsOf l ++ List.replicate (mx - (locsOf l).length) .unset⟩ [] := by
  have h : argsToLocals l.toArray mx = ⟨locsOf l ++ List.replicate (mx - (locsOf l).length) .unset⟩ := by
    unfold argsToLocals
    rw [show l.toArray.foldl (init := #[]) (fun acc v => if v.category = 2 then (acc.push (.val v)).push .second else acc.push (.val v)) = (locsOf l).toArray by rw [List.foldl_toArray, foldl_locs]; simp]
    apply Array.ext'
    simp
  simp only [entryFrame, mkF, h]
theorem Con.intro {rm : Room} {as : Array Value} (hpn : plainFor y = true) (hE : ∀ m, entryFrame m as mx = mkF m 0 ⟨Ls⟩ []) (h : WP l Z a0 n0 rm y code mx ret 0 0 0 Ls [] H Q) : Con l Z a0 n0 y code mx ret rm as H Q := by
  intro ws h0 hR
  refine MetFree.of_bodySF hpn hisR ?_
  intro p e s m args below meth c s₁ Bd hml0 hP hK
  obtain ⟨rfl, hZ, hh⟩ := hP
  have e0 : s₁.heap = h0 := by rw [← hh, Bd.state]; rfl
  obtain ⟨v, H', L, s2, k1, k2, k3, k4, k5, k6, k7, k8⟩ := h p e s m _ below meth c s₁ [] (Stand.of_body Bd) Bd.exec hZ Bd.bytes hml0 (findClass_of_methodNamed Bd.named) (name_of_methodNamed Bd.named Bd.method).1 Bd.returns Bd.notSynchronized (Fr.nil n0) (by rw [e0]; exact hR) (Nat.zero_le _) (Nat.zero_le _)
  exact ⟨s2, _, castTop (hE m) k1, k2, k3, v, L, rfl, ⟨k4, H', k5, k6⟩, ⟨_, rfl⟩, k7, k8⟩
theorem Con.mono {rm : Room} {as : Array Value} {Q' : Option Value → MH → Prop} (h : Con l Z a0 n0 y code mx ret rm as H Q) (k : ∀ v H', Q v H' → Q' v H') : Con l Z a0 n0 y code mx ret rm as H Q' := by
  intro ws h0 hR p e ha hc hk s m args below hf happ hP hK
  obtain ⟨n, o, q1, q2, q3, v, L, q4, ⟨q5, H', q6, q7⟩, q8⟩ := h ws h0 hR p e ha hc hk s m args below hf happ hP hK
  exact ⟨n, o, q1, q2, q3, v, L, q4, ⟨q5, H', q6, k _ _ q7⟩, q8⟩
theorem WP.mono {Q' : Option Value → MH → Prop} (h : WP l Z a0 n0 R y code mx ret cells slots pc Ls st H Q) (k : ∀ v H', Q v H' → Q' v H') : WP l Z a0 n0 R y code mx ret cells slots pc Ls st H Q' := by
  intro p e s m args below meth c T locs X hx hZ hc hm ho hn hr hl hF hR g1 g2
  obtain ⟨v, H', L, s2, k1, k2, k3, k4, k5, k6, k7⟩ := h p e s m args below meth c T locs X hx hZ hc hm ho hn hr hl hF hR g1 g2
  exact ⟨v, H', L, s2, k1, k2, k3, k4, k5, k _ _ k6, k7⟩

/-- a step that moves the frame alone -/
theorem pure {pc' : Nat} {Ls' : List Slot} {st' : List Value}
    (h : ∀ (p : Program) (e : Env) (m : MethodId) (below : List Frame) (c : Code) (T target : State), At T m c below → p.tables.exec = Jvm.exec → c.code = code → Steps p.tables e below (T.setTop (mkF m pc' ⟨Ls'⟩ st')) target → Steps p.tables e below (T.setTop (mkF m pc ⟨Ls⟩ st)) target)
    (k : WP l Z a0 n0 R y code mx ret cells slots pc' Ls' st' H Q) : WP l Z a0 n0 R y code mx ret cells slots pc Ls st H Q := by
  intro p e s m args below meth c T locs X hx hZ hc hm ho hn hr hl hF hR g1 g2
  obtain ⟨v, H', L, s2, k1, k2⟩ := k p e s m args below meth c T locs X hx hZ hc hm ho hn hr hl hF hR g1 g2
  exact ⟨v, H', L, s2, h p e m below c T s2 X.here hx hc k1, k2⟩
/-- a step that hands back a new state over the same heap -/
theorem stepT {pc' : Nat} {Ls' : List Slot} {st' : List Value}
    (h : ∀ (p : Program) (e : Env) (s : State) (m : MethodId) (args : Array Value) (below : List Frame) (meth : Method) (c : Code) (T : State) (locs : List Loc), Stand p l e R s m args below meth c T locs cells slots → p.tables.exec = Jvm.exec → Z.Warmed39 s.vm → c.code = code → c.maxLocals = mx → s.vm.findClass y.cls = some m.cls → Rel Z a0 n0 H T.heap →
      ∃ T', Stand p l e R s m args below meth c T' locs cells slots ∧ T'.heap = T.heap ∧ ∀ target, Steps p.tables e below (T'.setTop (mkF m pc' ⟨Ls'⟩ st')) target → Steps p.tables e below (T.setTop (mkF m pc ⟨Ls⟩ st)) target)
    (k : WP l Z a0 n0 R y code mx ret cells slots pc' Ls' st' H Q) : WP l Z a0 n0 R y code mx ret cells slots pc Ls st H Q := by
  intro p e s m args below meth c T locs X hx hZ hc hm ho hn hr hl hF hR g1 g2
  obtain ⟨T', X', e', st⟩ := h p e s m args below meth c T locs X hx hZ hc hm ho hR
  obtain ⟨v, H', L, s2, k1, k2⟩ := k p e s m args below meth c T' locs X' hx hZ hc hm ho hn hr hl hF (by rw [e']; exact hR) g1 g2
  exact ⟨v, H', L, s2, st _ k1, k2⟩
/-- a step that writes one place of the cell (a, cl) -/
theorem stepW {pc' : Nat} {Ls' : List Slot} {st' : List Value} {pre post : MH} {a : Addr} {cl cl' : MC}
    (h : ∀ (p : Program) (e : Env) (s : State) (m : MethodId) (args : Array Value) (below : List Frame) (meth : Method) (c : Code) (T : State) (locs : List Loc), Stand p l e R s m args below meth c T locs cells slots → p.tables.exec = Jvm.exec → Z.Warmed39 s.vm → c.code = code → c.maxLocals = mx → s.vm.findClass y.cls = some m.cls → meth.name = y.name → COk Z a0 T.heap a cl →
      ∃ T' h' sl v, Stand p l e R s m args below meth c T' (locs ++ [⟨a, sl⟩]) cells slots ∧ T'.heap = h' ∧ Wr T.heap h' a sl v ∧ (COk Z a0 T.heap a cl → COk Z a0 h' a cl') ∧ ∀ target, Steps p.tables e below (T'.setTop (mkF m pc' ⟨Ls'⟩ st')) target → Steps p.tables e below (T.setTop (mkF m pc ⟨Ls⟩ st)) target)
    (k : WP l Z a0 n0 R y code mx ret cells slots pc' Ls' st' (pre ++ (a, cl') :: post) Q) : WP l Z a0 n0 R y code mx ret cells slots pc Ls st (pre ++ (a, cl) :: post) Q := by
  intro p e s m args below meth c T locs X hx hZ hc hm ho hn hr hl hF hR g1 g2
  have hA := hR.at (k := pre.length) (a := a) (c := cl) (by simp)
  obtain ⟨T', h', sl, v, X', e', W, hco, st⟩ := h p e s m args below meth c T locs X hx hZ hc hm ho hn hA.2
  obtain ⟨v, H', L, s2, k1, k2⟩ := k p e s m args below meth c T' _ X' hx hZ hc hm ho hn hr hl (Fr.snoc X' hF hA.1) (by rw [e']; exact hR.set W hco) g1 g2
  exact ⟨v, H', L, s2, st _ k1, k2⟩

theorem iloadN {k : Fin 4} {v : Int32} {pc' : Nat} (hd : decode code pc = .ok (.iload_n k, 1)) (hl : Ls[k.val]? = some (.val (.int v))) (hp : pc + 1 = pc') (w : WP l Z a0 n0 R y code mx ret cells slots pc' Ls (.int v :: st) H Q) : WP l Z a0 n0 R y code mx ret cells slots pc Ls st H Q := by
  subst hp
  exact pure (fun p e m below c T t h hx hc hs => XS.iloadN h hx rfl (hb hc hd) (by simpa using hl) hs) w
theorem iload {k : Nat} {v : Int32} {pc' : Nat} (hd : decode code pc = .ok (.iload k, 2)) (hl : Ls[k]? = some (.val (.int v))) (hp : pc + 2 = pc') (w : WP l Z a0 n0 R y code mx ret cells slots pc' Ls (.int v :: st) H Q) : WP l Z a0 n0 R y code mx ret cells slots pc Ls st H Q := by
  subst hp
  exact pure (fun p e m below c T t h hx hc hs => XS.iload h hx rfl (hb hc hd) (by simpa using hl) hs) w
theorem aloadN {k : Fin 4} {v : Value} {pc' : Nat} (hd : decode code pc = .ok (.aload_n k, 1)) (hl : Ls[k.val]? = some (.val v)) (hv : v.isRef = true) (hp : pc + 1 = pc') (w : WP l Z a0 n0 R y code mx ret cells slots pc' Ls (v :: st) H Q) : WP l Z a0 n0 R y code mx ret cells slots pc Ls st H Q := by
  subst hp
  exact pure (fun p e m below c T t h hx hc hs => XS.aloadN h hx rfl (hb hc hd) (by simpa using hl) hv hs) w
theorem aload {k : Nat} {v : Value} {pc' : Nat} (hd : decode code pc = .ok (.aload k, 2)) (hl : Ls[k]? = some (.val v)) (hv : v.isRef = true) (hp : pc + 2 = pc') (w : WP l Z a0 n0 R y code mx ret cells slots pc' Ls (v :: st) H Q) : WP l Z a0 n0 R y code mx ret cells slots pc Ls st H Q := by
  subst hp
  exact pure (fun p e m below c T t h hx hc hs => XS.aload h hx rfl (hb hc hd) (by simpa using hl) hv hs) w
theorem iconst {i : Int} (n : Int32) {pc' : Nat} (hd : decode code pc = .ok (.iconst i, 1)) (hn : Int32.ofInt i = n) (hp : pc + 1 = pc') (w : WP l Z a0 n0 R y code mx ret cells slots pc' Ls (.int n :: st) H Q) : WP l Z a0 n0 R y code mx ret cells slots pc Ls st H Q := by
  subst hp hn
  exact pure (fun p e m below c T t h hx hc hs => XS.iconst h hx rfl (hb hc hd) hs) w
theorem bipush {i : Int} (n : Int32) {pc' : Nat} (hd : decode code pc = .ok (.bipush i, 2)) (hn : (Int8.ofInt i).toInt32 = n) (hp : pc + 2 = pc') (w : WP l Z a0 n0 R y code mx ret cells slots pc' Ls (.int n :: st) H Q) : WP l Z a0 n0 R y code mx ret cells slots pc Ls st H Q := by
  subst hp hn
  exact pure (fun p e m below c T t h hx hc hs => XS.bipush h hx rfl (hb hc hd) hs) w
theorem iand {x z : Int32} {pc' : Nat} (hd : decode code pc = .ok (.iand, 1)) (hp : pc + 1 = pc') (w : WP l Z a0 n0 R y code mx ret cells slots pc' Ls (.int (x &&& z) :: st) H Q) : WP l Z a0 n0 R y code mx ret cells slots pc Ls (.int z :: .int x :: st) H Q := by
  subst hp
  exact pure (fun p e m below c T t h hx hc hs => XS.iand h hx rfl (hb hc hd) rfl hs) w
theorem ishr {x z : Int32} {pc' : Nat} (hd : decode code pc = .ok (.ishr, 1)) (hp : pc + 1 = pc') (w : WP l Z a0 n0 R y code mx ret cells slots pc' Ls (.int (x >>> (z &&& 31)) :: st) H Q) : WP l Z a0 n0 R y code mx ret cells slots pc Ls (.int z :: .int x :: st) H Q := by
  subst hp
  exact pure (fun p e m below c T t h hx hc hs => XS.ishr h hx rfl (hb hc hd) rfl hs) w
theorem iushr {x z : Int32} {pc' : Nat} (hd : decode code pc = .ok (.iushr, 1)) (hp : pc + 1 = pc') (w : WP l Z a0 n0 R y code mx ret cells slots pc' Ls (.int ((x.toUInt32 >>> (z &&& 31).toUInt32).toInt32) :: st) H Q) : WP l Z a0 n0 R y code mx ret cells slots pc Ls (.int z :: .int x :: st) H Q := by
  subst hp
  exact pure (fun p e m below c T t h hx hc hs => XS.iushr h hx rfl (hb hc hd) rfl hs) w
theorem irem {x z : Int32} {pc' : Nat} (hd : decode code pc = .ok (.irem, 1)) (hz : z ≠ 0) (hp : pc + 1 = pc') (w : WP l Z a0 n0 R y code mx ret cells slots pc' Ls (.int (x % z) :: st) H Q) : WP l Z a0 n0 R y code mx ret cells slots pc Ls (.int z :: .int x :: st) H Q := by
  subst hp
  exact pure (fun p e m below c T t h hx hc hs => XS.irem h hx rfl (hb hc hd) rfl hz (by rw [irem_eq_mod]; exact hs)) w
theorem i2b {x : Int32} {pc' : Nat} (hd : decode code pc = .ok (.i2b, 1)) (hp : pc + 1 = pc') (w : WP l Z a0 n0 R y code mx ret cells slots pc' Ls (.int (x.toInt8.toInt32) :: st) H Q) : WP l Z a0 n0 R y code mx ret cells slots pc Ls (.int x :: st) H Q := by
  subst hp
  exact pure (fun p e m below c T t h hx hc hs => XS.i2b h hx rfl (hb hc hd) rfl hs) w
theorem dup {v : Value} {pc' : Nat} (hd : decode code pc = .ok (.dup, 1)) (hv : v.category = 1) (hp : pc + 1 = pc') (w : WP l Z a0 n0 R y code mx ret cells slots pc' Ls (v :: v :: st) H Q) : WP l Z a0 n0 R y code mx ret cells slots pc Ls (v :: st) H Q := by
  subst hp
  exact pure (fun p e m below c T t h hx hc hs => XS.dup h hx rfl (hb hc hd) rfl hv hs) w
theorem goto {o : Int} {pc' : Nat} (hd : decode code pc = .ok (.goto o, 3)) (hp : (pc : Int) + o = (pc' : Int)) (w : WP l Z a0 n0 R y code mx ret cells slots pc' Ls st H Q) : WP l Z a0 n0 R y code mx ret cells slots pc Ls st H Q :=
  pure (fun p e m below c T t h hx hc hs => XS.goto h hx rfl (pc0 := pc) (pc' := pc') rfl (hb hc hd) (by omega) (by omega) hs) w
theorem hI_lt {x z : Int32} : (if_icmp.holds .lt x z = true → x.toInt < z.toInt) ∧ (if_icmp.holds .lt x z = false → z.toInt ≤ x.toInt) := by
  constructor <;> intro hq <;> simp [if_icmp.holds, Int32.lt_iff_toInt_lt, Int32.le_iff_toInt_le] at hq ⊢ <;> first | omega | exact hq | simp_all
theorem icmp_lt {x z : Int32} {o : Int} {pt pf : Nat} (hd : decode code pc = .ok (.if_icmp .lt o, 3)) (hp : (pc : Int) + o = (pt : Int)) (hq : pc + 3 = pf) (wt : x.toInt < z.toInt → WP l Z a0 n0 R y code mx ret cells slots pt Ls st H Q) (wf : z.toInt ≤ x.toInt → WP l Z a0 n0 R y code mx ret cells slots pf Ls st H Q) : WP l Z a0 n0 R y code mx ret cells slots pc Ls (.int z :: .int x :: st) H Q := by
  subst hq
  cases hh : if_icmp.holds .lt x z
  · exact pure (fun p e m below c T t h hx hc hs => XS.icmpNo h hx rfl (hb hc hd) rfl hh hs) (wf (hI_lt.2 hh))
  · exact pure (fun p e m below c T t h hx hc hs => XS.icmpYes h hx rfl (pc0 := pc) (pc' := pt) rfl (hb hc hd) rfl hh (by omega) (by omega) hs) (wt (hI_lt.1 hh))
theorem hI_ge {x z : Int32} : (if_icmp.holds .ge x z = true → z.toInt ≤ x.toInt) ∧ (if_icmp.holds .ge x z = false → x.toInt < z.toInt) := by
  constructor <;> intro hq <;> simp [if_icmp.holds, Int32.lt_iff_toInt_lt, Int32.le_iff_toInt_le] at hq ⊢ <;> first | omega | exact hq | simp_all
theorem icmp_ge {x z : Int32} {o : Int} {pt pf : Nat} (hd : decode code pc = .ok (.if_icmp .ge o, 3)) (hp : (pc : Int) + o = (pt : Int)) (hq : pc + 3 = pf) (wt : z.toInt ≤ x.toInt → WP l Z a0 n0 R y code mx ret cells slots pt Ls st H Q) (wf : x.toInt < z.toInt → WP l Z a0 n0 R y code mx ret cells slots pf Ls st H Q) : WP l Z a0 n0 R y code mx ret cells slots pc Ls (.int z :: .int x :: st) H Q := by
  subst hq
  cases hh : if_icmp.holds .ge x z
  · exact pure (fun p e m below c T t h hx hc hs => XS.icmpNo h hx rfl (hb hc hd) rfl hh hs) (wf (hI_ge.2 hh))
  · exact pure (fun p e m below c T t h hx hc hs => XS.icmpYes h hx rfl (pc0 := pc) (pc' := pt) rfl (hb hc hd) rfl hh (by omega) (by omega) hs) (wt (hI_ge.1 hh))
theorem hI_eq {x z : Int32} : (if_icmp.holds .eq x z = true → x = z) ∧ (if_icmp.holds .eq x z = false → ¬ x = z) := by
  constructor <;> intro hq <;> simp [if_icmp.holds, Int32.lt_iff_toInt_lt, Int32.le_iff_toInt_le] at hq ⊢ <;> first | omega | exact hq | simp_all
theorem icmp_eq {x z : Int32} {o : Int} {pt pf : Nat} (hd : decode code pc = .ok (.if_icmp .eq o, 3)) (hp : (pc : Int) + o = (pt : Int)) (hq : pc + 3 = pf) (wt : x = z → WP l Z a0 n0 R y code mx ret cells slots pt Ls st H Q) (wf : ¬ x = z → WP l Z a0 n0 R y code mx ret cells slots pf Ls st H Q) : WP l Z a0 n0 R y code mx ret cells slots pc Ls (.int z :: .int x :: st) H Q := by
  subst hq
  cases hh : if_icmp.holds .eq x z
  · exact pure (fun p e m below c T t h hx hc hs => XS.icmpNo h hx rfl (hb hc hd) rfl hh hs) (wf (hI_eq.2 hh))
  · exact pure (fun p e m below c T t h hx hc hs => XS.icmpYes h hx rfl (pc0 := pc) (pc' := pt) rfl (hb hc hd) rfl hh (by omega) (by omega) hs) (wt (hI_eq.1 hh))
theorem hZ_eq {x : Int32} : (ifCond.holds .eq x = true → x = 0) ∧ (ifCond.holds .eq x = false → ¬ x = 0) := by
  rw [if0]
  exact hI_eq (z := 0)
theorem if_eq {x : Int32} {o : Int} {pt pf : Nat} (hd : decode code pc = .ok (.ifCond .eq o, 3)) (hp : (pc : Int) + o = (pt : Int)) (hq : pc + 3 = pf) (wt : x = 0 → WP l Z a0 n0 R y code mx ret cells slots pt Ls st H Q) (wf : ¬ x = 0 → WP l Z a0 n0 R y code mx ret cells slots pf Ls st H Q) : WP l Z a0 n0 R y code mx ret cells slots pc Ls (.int x :: st) H Q := by
  subst hq
  cases hh : ifCond.holds .eq x
  · exact pure (fun p e m below c T t h hx hc hs => XS.ifNo h hx rfl (hb hc hd) rfl hh hs) (wf (hZ_eq.2 hh))
  · exact pure (fun p e m below c T t h hx hc hs => XS.ifYes h hx rfl (pc0 := pc) (pc' := pt) rfl (hb hc hd) rfl hh (by omega) (by omega) hs) (wt (hZ_eq.1 hh))
theorem hI_ne {x z : Int32} : (if_icmp.holds .ne x z = true → ¬ x = z) ∧ (if_icmp.holds .ne x z = false → x = z) := by
  constructor <;> intro hq <;> simp [if_icmp.holds, Int32.lt_iff_toInt_lt, Int32.le_iff_toInt_le] at hq ⊢ <;> first | omega | exact hq | simp_all
theorem icmp_ne {x z : Int32} {o : Int} {pt pf : Nat} (hd : decode code pc = .ok (.if_icmp .ne o, 3)) (hp : (pc : Int) + o = (pt : Int)) (hq : pc + 3 = pf) (wt : ¬ x = z → WP l Z a0 n0 R y code mx ret cells slots pt Ls st H Q) (wf : x = z → WP l Z a0 n0 R y code mx ret cells slots pf Ls st H Q) : WP l Z a0 n0 R y code mx ret cells slots pc Ls (.int z :: .int x :: st) H Q := by
  subst hq
  cases hh : if_icmp.holds .ne x z
  · exact pure (fun p e m below c T t h hx hc hs => XS.icmpNo h hx rfl (hb hc hd) rfl hh hs) (wf (hI_ne.2 hh))
  · exact pure (fun p e m below c T t h hx hc hs => XS.icmpYes h hx rfl (pc0 := pc) (pc' := pt) rfl (hb hc hd) rfl hh (by omega) (by omega) hs) (wt (hI_ne.1 hh))
theorem hZ_ne {x : Int32} : (ifCond.holds .ne x = true → ¬ x = 0) ∧ (ifCond.holds .ne x = false → x = 0) := by
  rw [if0]
  exact hI_ne (z := 0)
theorem if_ne {x : Int32} {o : Int} {pt pf : Nat} (hd : decode code pc = .ok (.ifCond .ne o, 3)) (hp : (pc : Int) + o = (pt : Int)) (hq : pc + 3 = pf) (wt : ¬ x = 0 → WP l Z a0 n0 R y code mx ret cells slots pt Ls st H Q) (wf : x = 0 → WP l Z a0 n0 R y code mx ret cells slots pf Ls st H Q) : WP l Z a0 n0 R y code mx ret cells slots pc Ls (.int x :: st) H Q := by
  subst hq
  cases hh : ifCond.holds .ne x
  · exact pure (fun p e m below c T t h hx hc hs => XS.ifNo h hx rfl (hb hc hd) rfl hh hs) (wf (hZ_ne.2 hh))
  · exact pure (fun p e m below c T t h hx hc hs => XS.ifYes h hx rfl (pc0 := pc) (pc' := pt) rfl (hb hc hd) rfl hh (by omega) (by omega) hs) (wt (hZ_ne.1 hh))
def ok1 : Slot → Bool
  | .unset => true
  | .val v => v.category == 1
  | .second => false
theorem stl1 (pre : List Slot) {o : Slot} {t : List Slot} {v : Value} (ho : ok1 o = true) (hv : v.category = 1) : storeLocals ⟨pre ++ o :: t⟩ pre.length v = some ⟨pre ++ .val v :: t⟩ := by
  have hg : (⟨pre ++ o :: t⟩ : Array Slot)[pre.length]? = some o := by simp
  have hs : storeSelf (⟨pre ++ o :: t⟩ : Array Slot) pre.length v = some ⟨pre ++ .val v :: t⟩ := by
    simp [storeSelf, setAt, hv, Array.setIfInBounds]
  cases o with
  | unset => simp only [storeLocals, hg]; exact hs
  | second => cases ho
  | val w =>
    have hw : ¬ w.category = 2 := by simp only [ok1, beq_iff_eq] at ho; omega
    simp only [storeLocals, hg]
    show (if w.category = 2 then _ else _) = _
    rw [if_neg hw]; exact hs
theorem istoreN_2 {s0 s1 : Slot} {o : Slot} {t : List Slot} {x : Int32} {pc' : Nat} (hd : decode code pc = .ok (.istore_n 2, 1)) (ho : ok1 o = true) (hp : pc + 1 = pc') (w : WP l Z a0 n0 R y code mx ret cells slots pc' (s0 :: s1 :: .val (.int x) :: t) st H Q) : WP l Z a0 n0 R y code mx ret cells slots pc (s0 :: s1 :: o :: t) (.int x :: st) H Q := by
  subst hp
  exact pure (fun p e m below c T t h hx hc' hs => XS.istoreN h hx rfl (hb hc' hd) rfl (stl1 [s0, s1] ho rfl) hs) w
theorem istoreN_3 {s0 s1 s2 : Slot} {o : Slot} {t : List Slot} {x : Int32} {pc' : Nat} (hd : decode code pc = .ok (.istore_n 3, 1)) (ho : ok1 o = true) (hp : pc + 1 = pc') (w : WP l Z a0 n0 R y code mx ret cells slots pc' (s0 :: s1 :: s2 :: .val (.int x) :: t) st H Q) : WP l Z a0 n0 R y code mx ret cells slots pc (s0 :: s1 :: s2 :: o :: t) (.int x :: st) H Q := by
  subst hp
  exact pure (fun p e m below c T t h hx hc' hs => XS.istoreN h hx rfl (hb hc' hd) rfl (stl1 [s0, s1, s2] ho rfl) hs) w
theorem iinc_3 {s0 s1 s2 : Slot} {t : List Slot} {x : Int32} {i : Int} (n : Int32) {pc' : Nat} (hd : decode code pc = .ok (.iinc 3 i, 3)) (hn : Int32.ofInt i = n) (hp : pc + 3 = pc') (w : WP l Z a0 n0 R y code mx ret cells slots pc' (s0 :: s1 :: s2 :: .val (.int (x + n)) :: t) st H Q) : WP l Z a0 n0 R y code mx ret cells slots pc (s0 :: s1 :: s2 :: .val (.int x) :: t) st H Q := by
  subst hp hn
  exact pure (fun p e m below c T t h hx hc' hs => XS.iinc h hx rfl (hb hc' hd) rfl (stl1 [s0, s1, s2] rfl rfl) hs) w
theorem istore_4 {s0 s1 s2 s3 : Slot} {o : Slot} {t : List Slot} {x : Int32} {pc' : Nat} (hd : decode code pc = .ok (.istore 4, 2)) (ho : ok1 o = true) (hp : pc + 2 = pc') (w : WP l Z a0 n0 R y code mx ret cells slots pc' (s0 :: s1 :: s2 :: s3 :: .val (.int x) :: t) st H Q) : WP l Z a0 n0 R y code mx ret cells slots pc (s0 :: s1 :: s2 :: s3 :: o :: t) (.int x :: st) H Q := by
  subst hp
  exact pure (fun p e m below c T t h hx hc' hs => XS.istore h hx rfl (hb hc' hd) rfl (stl1 [s0, s1, s2, s3] ho rfl) hs) w
theorem istore_5 {s0 s1 s2 s3 s4 : Slot} {o : Slot} {t : List Slot} {x : Int32} {pc' : Nat} (hd : decode code pc = .ok (.istore 5, 2)) (ho : ok1 o = true) (hp : pc + 2 = pc') (w : WP l Z a0 n0 R y code mx ret cells slots pc' (s0 :: s1 :: s2 :: s3 :: s4 :: .val (.int x) :: t) st H Q) : WP l Z a0 n0 R y code mx ret cells slots pc (s0 :: s1 :: s2 :: s3 :: s4 :: o :: t) (.int x :: st) H Q := by
  subst hp
  exact pure (fun p e m below c T t h hx hc' hs => XS.istore h hx rfl (hb hc' hd) rfl (stl1 [s0, s1, s2, s3, s4] ho rfl) hs) w
theorem astore_6 {s0 s1 s2 s3 s4 s5 : Slot} {o : Slot} {t : List Slot} {v : Value} {pc' : Nat} (hd : decode code pc = .ok (.astore 6, 2)) (hv : v.isRef = true) (hc : v.category = 1) (ho : ok1 o = true) (hp : pc + 2 = pc') (w : WP l Z a0 n0 R y code mx ret cells slots pc' (s0 :: s1 :: s2 :: s3 :: s4 :: s5 :: .val (v) :: t) st H Q) : WP l Z a0 n0 R y code mx ret cells slots pc (s0 :: s1 :: s2 :: s3 :: s4 :: s5 :: o :: t) (v :: st) H Q := by
  subst hp
  exact pure (fun p e m below c T t h hx hc' hs => XS.astore h hx rfl (hb hc' hd) rfl hv (stl1 [s0, s1, s2, s3, s4, s5] ho hc) hs) w
theorem istore_7 {s0 s1 s2 s3 s4 s5 s6 : Slot} {o : Slot} {t : List Slot} {x : Int32} {pc' : Nat} (hd : decode code pc = .ok (.istore 7, 2)) (ho : ok1 o = true) (hp : pc + 2 = pc') (w : WP l Z a0 n0 R y code mx ret cells slots pc' (s0 :: s1 :: s2 :: s3 :: s4 :: s5 :: s6 :: .val (.int x) :: t) st H Q) : WP l Z a0 n0 R y code mx ret cells slots pc (s0 :: s1 :: s2 :: s3 :: s4 :: s5 :: s6 :: o :: t) (.int x :: st) H Q := by
  subst hp
  exact pure (fun p e m below c T t h hx hc' hs => XS.istore h hx rfl (hb hc' hd) rfl (stl1 [s0, s1, s2, s3, s4, s5, s6] ho rfl) hs) w
theorem istore_8 {s0 s1 s2 s3 s4 s5 s6 s7 : Slot} {o : Slot} {t : List Slot} {x : Int32} {pc' : Nat} (hd : decode code pc = .ok (.istore 8, 2)) (ho : ok1 o = true) (hp : pc + 2 = pc') (w : WP l Z a0 n0 R y code mx ret cells slots pc' (s0 :: s1 :: s2 :: s3 :: s4 :: s5 :: s6 :: s7 :: .val (.int x) :: t) st H Q) : WP l Z a0 n0 R y code mx ret cells slots pc (s0 :: s1 :: s2 :: s3 :: s4 :: s5 :: s6 :: s7 :: o :: t) (.int x :: st) H Q := by
  subst hp
  exact pure (fun p e m below c T t h hx hc' hs => XS.istore h hx rfl (hb hc' hd) rfl (stl1 [s0, s1, s2, s3, s4, s5, s6, s7] ho rfl) hs) w
theorem istore_9 {s0 s1 s2 s3 s4 s5 s6 s7 s8 : Slot} {o : Slot} {t : List Slot} {x : Int32} {pc' : Nat} (hd : decode code pc = .ok (.istore 9, 2)) (ho : ok1 o = true) (hp : pc + 2 = pc') (w : WP l Z a0 n0 R y code mx ret cells slots pc' (s0 :: s1 :: s2 :: s3 :: s4 :: s5 :: s6 :: s7 :: s8 :: .val (.int x) :: t) st H Q) : WP l Z a0 n0 R y code mx ret cells slots pc (s0 :: s1 :: s2 :: s3 :: s4 :: s5 :: s6 :: s7 :: s8 :: o :: t) (.int x :: st) H Q := by
  subst hp
  exact pure (fun p e m below c T t h hx hc' hs => XS.istore h hx rfl (hb hc' hd) rfl (stl1 [s0, s1, s2, s3, s4, s5, s6, s7, s8] ho rfl) hs) w
theorem ldcI {i : Nat} {n : Int32} {pc' : Nat} (hw : (Cond.constant y.cls i n).before a0 Z = true) (hd : decode code pc = .ok (.ldc i, 2)) (hp : pc + 2 = pc') (w : WP l Z a0 n0 R y code mx ret cells slots pc' Ls (.int n :: st) H Q) : WP l Z a0 n0 R y code mx ret cells slots pc Ls st H Q := by
  subst hp
  exact stepT (fun p e s m args below meth c T locs X hx hZ hc hm ho hR => ⟨T, X, rfl, X.ldcInt hx ho (mvT hZ hw) (g := mkF m pc ⟨Ls⟩ st) rfl (hb hc hd)⟩) w
theorem baload {a : Addr} {vs : List Value} {j : Int32} {v : Value} {pc' : Nat} (k i : Nat) (hd : decode code pc = .ok (.baload, 1)) (hk : H[k]? = some (a, .inl (.byte, vs))) (hj : j.toInt = (i : Int)) (hv : vs[i]? = some v) (hp : pc + 1 = pc') (w : WP l Z a0 n0 R y code mx ret cells slots pc' Ls (v :: st) H Q) : WP l Z a0 n0 R y code mx ret cells slots pc Ls (.int j :: .ref a :: st) H Q := by
  subst hp
  exact stepT (fun p e s m args below meth c T locs X hx hZ hc hm ho hR => ⟨T, X, rfl, fun target hs => by
    obtain ⟨cl, A, q1, q2⟩ := (hR.at hk).2
    have q3 : j.toNatClampNeg = i := idx_eq hj
    have q4 : cl.slots[j.toNatClampNeg]? = some v := by rw [q1, q3]; simpa using hv
    exact X.baloadBytes hx A.1 (State.isArrayOf_alike hZ.alike A.2.1) A.2.2 (idx_ok hj (by rw [q1, List.size_toArray]; exact (List.getElem?_eq_some_iff.mp hv).1)) q4 (g := mkF m pc ⟨Ls⟩ (.int j :: .ref a :: st)) rfl rfl (hb hc hd) _ hs⟩) w
theorem bastoreG (pre : MH) {post : MH} {a : Addr} {vs : List Value} {j : Int32} {x : Int32} {pc' : Nat} (i : Nat) (hd : decode code pc = .ok (.bastore, 1)) (hj : j.toInt = (i : Int)) (hi : i < vs.length) (hp : pc + 1 = pc') (w : WP l Z a0 n0 R y code mx ret cells slots pc' Ls st (pre ++ (a, .inl (.byte, vs.set i (.int x.toInt8.toInt32))) :: post) Q) : WP l Z a0 n0 R y code mx ret cells slots pc Ls ((.int x) :: .int j :: .ref a :: st) (pre ++ (a, .inl (.byte, vs)) :: post) Q := by
  subst hp
  exact stepW (pre := pre) (fun p e s m args below meth c T locs X hx hZ hc hm ho hn hR => by
    obtain ⟨cl, A, q1, q2⟩ := hR
    have q3 : j.toNatClampNeg = i := idx_eq hj
    obtain ⟨T', h', X', e', W, st⟩ := stB X hx hZ rfl A (x := x) (idx_ok hj (by rw [q1, List.size_toArray]; exact hi)) (g := mkF m pc ⟨Ls⟩ ((.int x) :: .int j :: .ref a :: st)) rfl rfl (hb hc hd)
    rw [q3] at W X'
    exact ⟨T', h', _, _, X', e', W, fun k => k.setArr W, st⟩) w
theorem bastore_0 {post : MH} {a : Addr} {vs : List Value} {j : Int32} {x : Int32} {pc' : Nat} (i : Nat) (hd : decode code pc = .ok (.bastore, 1)) (hj : j.toInt = (i : Int)) (hi : i < vs.length) (hp : pc + 1 = pc') (w : WP l Z a0 n0 R y code mx ret cells slots pc' Ls st ((a, .inl (.byte, vs.set i (.int x.toInt8.toInt32))) :: post) Q) : WP l Z a0 n0 R y code mx ret cells slots pc Ls ((.int x) :: .int j :: .ref a :: st) ((a, .inl (.byte, vs)) :: post) Q := bastoreG [] i hd hj hi hp w
theorem bastoreZG (pre : MH) {post : MH} {a : Addr} {vs : List Value} {j : Int32} {x : Int32} {pc' : Nat} (i : Nat) (hd : decode code pc = .ok (.bastore, 1)) (hj : j.toInt = (i : Int)) (hi : i < vs.length) (hp : pc + 1 = pc') (w : WP l Z a0 n0 R y code mx ret cells slots pc' Ls st (pre ++ (a, .inl (.boolean, vs.set i (.int (x &&& 1)))) :: post) Q) : WP l Z a0 n0 R y code mx ret cells slots pc Ls ((.int x) :: .int j :: .ref a :: st) (pre ++ (a, .inl (.boolean, vs)) :: post) Q := by
  subst hp
  exact stepW (pre := pre) (fun p e s m args below meth c T locs X hx hZ hc hm ho hn hR => by
    obtain ⟨cl, A, q1, q2⟩ := hR
    have q3 : j.toNatClampNeg = i := idx_eq hj
    obtain ⟨T', h', X', e', W, st⟩ := stZ X hx hZ rfl A (x := x) (idx_ok hj (by rw [q1, List.size_toArray]; exact hi)) (g := mkF m pc ⟨Ls⟩ ((.int x) :: .int j :: .ref a :: st)) rfl rfl (hb hc hd)
    rw [q3] at W X'
    exact ⟨T', h', _, _, X', e', W, fun k => k.setArr W, st⟩) w
theorem bastoreZ_0 {post : MH} {a : Addr} {vs : List Value} {j : Int32} {x : Int32} {pc' : Nat} (i : Nat) (hd : decode code pc = .ok (.bastore, 1)) (hj : j.toInt = (i : Int)) (hi : i < vs.length) (hp : pc + 1 = pc') (w : WP l Z a0 n0 R y code mx ret cells slots pc' Ls st ((a, .inl (.boolean, vs.set i (.int (x &&& 1)))) :: post) Q) : WP l Z a0 n0 R y code mx ret cells slots pc Ls ((.int x) :: .int j :: .ref a :: st) ((a, .inl (.boolean, vs)) :: post) Q := bastoreZG [] i hd hj hi hp w
theorem newarray {aty : ArrayType} {n : Int32} {pc' : Nat} {ty : FieldType} (i cap : Nat) (vs : List Value) (hw : (Cond.arrayClass ty).before a0 Z = true) (hd : decode code pc = .ok (.newarray aty, 2)) (hn : n.toInt = (i : Int)) (hcap : i ≤ cap) (hbig : cap * 8 ≤ 536870912) (hc : cells + 1 ≤ R.cells) (hl : slots + cap ≤ R.slots) (hvs : List.replicate i (defaultValue ty) = vs) (hp : pc + 2 = pc') (hty : newarray.typeOf aty = ty) {cells' slots' : Nat} (hc' : cells + 1 = cells') (hs' : slots + cap = slots') (w : ∀ a : Addr, WP l Z a0 n0 R y code mx ret cells' slots' pc' Ls (.ref a :: st) ((a, .inl (ty, vs)) :: H) Q) : WP l Z a0 n0 R y code mx ret cells slots pc Ls (.int n :: st) H Q := by
  subst hp hvs hty hc' hs'
  intro p e s m args below meth c T locs X hx hZ hcode hm ho hnm hr hlk hF hR g1 g2
  have q3 : n.toNatClampNeg = i := idx_eq hn
  obtain ⟨T', h', cA, X', e', E, A, st⟩ := newP X hx hZ hw rfl (g := mkF m pc ⟨Ls⟩ (.int n :: st)) rfl (hb hcode hd) rfl (fun q => by rw [Int32.lt_iff_toInt_lt, hn] at q; simp at q; omega) (cap := cap) (by rw [q3]; exact hcap) hbig hc hl
  have hlt : i < 2 ^ 31 := by have := n.toInt_lt; rw [hn] at this; omega
  obtain ⟨v, H', L, s2, k1, k2⟩ := w _ p e s m args below meth c T' locs X' hx hZ hcode hm ho hnm hr hlk hF (by rw [e']; exact hR.push E ⟨_, A, by simp [newA, q3], by simpa using hlt⟩) hc hl
  exact ⟨v, H', L, s2, st _ k1, k2⟩
theorem leaveW {v : Option Value} {st : List Value} (hv : ret = none → v = none) (q : Q v H)
    (h : ∀ (p : Program) (e : Env) (s : State) (m : MethodId) (args : Array Value) (below : List Frame) (meth : Method) (c : Code) (T : State) (locs : List Loc) (fs : List Frame), Stand p l e R s m args below meth c T locs cells slots → p.tables.exec = Jvm.exec → c.code = code → meth.sig.returnType = ret → (∀ (f : JFrame) (acts : List Action), f.method = m → f.locked = none → f.entered = [] → (doReturn e (T.setTop f) acts v).1 = T.setFrames fs) → Steps p.tables e below (T.setTop (mkF m pc ⟨Ls⟩ st)) (T.setFrames fs)) : WP l Z a0 n0 R y code mx ret cells slots pc Ls st H Q := by
  intro p e s m args below meth c T locs X hx hZ hc hm ho hn hr hl hF hR g1 g2
  obtain ⟨fs, hrr, hrun, hended, hW, hsame⟩ := X.leave (v := v) (fun k => hv (by rw [← hr]; exact k)) hl
  exact ⟨v, H, locs, _, h p e s m args below meth c T locs fs X hx hc hr hrr, hrun, hended, hF, hR, q, hW, hsame.mono g1 g2⟩
theorem ireturn {z : Int32} (hret : ret = some .int) (hd : decode code pc = .ok (.ireturn, 1)) (q : Q (some (.int z)) H) : WP l Z a0 n0 R y code mx ret cells slots pc Ls (.int z :: st) H Q :=
  leaveW (fun k => by rw [hret] at k; cases k) q fun p e s m args below meth c T locs fs X hx hc hr hrr => retI X hx (hr.trans hret) (hb hc hd) hrr
theorem zreturn {z : Int32} (hret : ret = some .boolean) (hd : decode code pc = .ok (.ireturn, 1)) (q : Q (some (.int (z &&& 1))) H) : WP l Z a0 n0 R y code mx ret cells slots pc Ls (.int z :: st) H Q :=
  leaveW (fun k => by rw [hret] at k; cases k) q fun p e s m args below meth c T locs fs X hx hc hr hrr => retN X hx (t := .boolean) (hr.trans hret) (by simp) (hb hc hd) hrr
/-- what a call by a contract leaves -/
def After (l : Launch) (Z : State) (a0 : Array Value) (n0 : Nat) (R : Room) (y : MethodName) (code : ByteArray) (mx : Nat) (ret : Option FieldType) (cells slots pc : Nat) (Ls : List Slot) (st : List Value) (Q : Option Value → MH → Prop) : Option Value → MH → Prop
  | some r, H' => WP l Z a0 n0 R y code mx ret cells slots pc Ls (r :: st) H' Q
  | none, H' => WP l Z a0 n0 R y code mx ret cells slots pc Ls st H' Q
theorem After.to {v : Option Value} {H' : MH} (h : After l Z a0 n0 R y code mx ret cells slots pc Ls st Q v H') : WP l Z a0 n0 R y code mx ret cells slots pc Ls (v.toList ++ st) H' Q := by
  cases v <;> exact h
theorem callSG {z : MethodName} {zc : ByteArray} {zm : Nat} {zr : Option FieldType} {ps : List FieldType} {i : Nat} {rm : Room} {pc' : Nat} (W : Nat) (argsL : List Value) {rest : List Value} (w1 : (Cond.methodLink y.cls i z).before a0 Z = true) (w2 : (Cond.static z).before a0 Z = true) (w3 : (Cond.initialized z.cls).before a0 Z = true) (w4 : (Cond.code z zc zm zr).before a0 Z = true) (hy : z.cls ≠ "java/lang/invoke/MethodHandle" ∧ z.cls ≠ "java/lang/invoke/VarHandle") (hds : parseMethodDescriptor z.desc = some ⟨ps, zr⟩) (hlen : argsL.length = ps.length) (hd : decode code pc = .ok (.invokestatic i, 3)) (hs : Ls.length = mx) (hW : (rest.map fun v => v.category).sum = W) (hf : rm.frames + 1 ≤ R.frames) (hl : W + (zm + 11) + rm.locals ≤ R.locals) (hc : cells + rm.cells ≤ R.cells) (hsl : slots + rm.slots ≤ R.slots) (hp : pc + 3 = pc') {cells' slots' : Nat} (hc' : cells + rm.cells = cells') (hs' : slots + rm.slots = slots') (hst : st = argsL.reverse ++ rest)
    (k : Con l Z a0 n0 z zc zm zr rm argsL.toArray H (After l Z a0 n0 R y code mx ret cells' slots' pc' Ls rest Q)) : WP l Z a0 n0 R y code mx ret cells slots pc Ls st H Q := by
  subst hp hst hc' hs'
  intro p e s m args below meth c T locs X hx hZ hcode hm ho hnm hr hlk hF hR g1 g2
  obtain ⟨v, vm, ⟨T', L', k', n'⟩, -, X', ⟨Lc, ⟨q1, H', q2, q3⟩, e1, e2, e3⟩, st'⟩ := Jvm.LawKit.callS X hx (y := z) ho (mvT hZ w1) (mvT hZ w2) (mvT hZ w3) (mvT hZ w4) hy (backOf (W := W) (h := T.heap) (Q := fun v h L => Fr n0 L ∧ ∃ H', Rel Z a0 n0 H' h ∧ After l Z a0 n0 R y code mx ret (cells + rm.cells) (slots + rm.slots) (pc + 3) Ls rest Q v H') (k [] T.heap hR) hZ w4 w3 hf hl) (g := mkF m pc ⟨Ls⟩ (argsL.reverse ++ rest)) rfl (by rw [hm]; simpa using hs) (argsL := argsL) (rest := rest) (lenOf hds hlen) rfl (by show 2 * 0 + _ ≤ _; omega) (hb hcode hd) (fun _ _ => ⟨rfl, rfl, hc, hsl⟩)
  dsimp only [Pt.U, Pt.locs, Pt.cells, Pt.slots] at X' e1 e2 e3 st'
  subst e1 e2 e3
  obtain ⟨v2, H2, L2, s2, k1, k2⟩ := (After.to q3) p e s m args below meth c T' _ X' hx hZ hcode hm ho hnm hr hlk (Fr.app hF q1) q2 hc hsl
  exact ⟨v2, H2, L2, s2, st' _ k1, k2⟩
theorem afterS {r : Value} {H' : MH} (h : WP l Z a0 n0 R y code mx ret cells slots pc Ls (r :: st) H' Q) : After l Z a0 n0 R y code mx ret cells slots pc Ls st Q (some r) H' := h
theorem callS_3 {z : MethodName} {zc : ByteArray} {zm : Nat} {zr : Option FieldType} {ps : List FieldType} {i : Nat} {rm : Room} {pc' : Nat} (W : Nat) {v0 v1 v2 : Value} {rest : List Value} (w1 : (Cond.methodLink y.cls i z).before a0 Z = true) (w2 : (Cond.static z).before a0 Z = true) (w3 : (Cond.initialized z.cls).before a0 Z = true) (w4 : (Cond.code z zc zm zr).before a0 Z = true) (hy : z.cls ≠ "java/lang/invoke/MethodHandle" ∧ z.cls ≠ "java/lang/invoke/VarHandle") (hds : parseMethodDescriptor z.desc = some ⟨ps, zr⟩) (hlen : 3 = ps.length) (hd : decode code pc = .ok (.invokestatic i, 3)) (hs : Ls.length = mx) (hW : (rest.map fun v => v.category).sum = W) (hf : rm.frames + 1 ≤ R.frames) (hl : W + (zm + 11) + rm.locals ≤ R.locals) (hc : cells + rm.cells ≤ R.cells) (hsl : slots + rm.slots ≤ R.slots) (hp : pc + 3 = pc') {cells' slots' : Nat} (hc' : cells + rm.cells = cells') (hs' : slots + rm.slots = slots') (k : Con l Z a0 n0 z zc zm zr rm #[v0, v1, v2] H (After l Z a0 n0 R y code mx ret cells' slots' pc' Ls rest Q)) : WP l Z a0 n0 R y code mx ret cells slots pc Ls (v2 :: v1 :: v0 :: rest) H Q := callSG W [v0, v1, v2] w1 w2 w3 w4 hy hds hlen hd hs hW hf hl hc hsl hp hc' hs' rfl k
theorem callS_4 {z : MethodName} {zc : ByteArray} {zm : Nat} {zr : Option FieldType} {ps : List FieldType} {i : Nat} {rm : Room} {pc' : Nat} (W : Nat) {v0 v1 v2 v3 : Value} {rest : List Value} (w1 : (Cond.methodLink y.cls i z).before a0 Z = true) (w2 : (Cond.static z).before a0 Z = true) (w3 : (Cond.initialized z.cls).before a0 Z = true) (w4 : (Cond.code z zc zm zr).before a0 Z = true) (hy : z.cls ≠ "java/lang/invoke/MethodHandle" ∧ z.cls ≠ "java/lang/invoke/VarHandle") (hds : parseMethodDescriptor z.desc = some ⟨ps, zr⟩) (hlen : 4 = ps.length) (hd : decode code pc = .ok (.invokestatic i, 3)) (hs : Ls.length = mx) (hW : (rest.map fun v => v.category).sum = W) (hf : rm.frames + 1 ≤ R.frames) (hl : W + (zm + 11) + rm.locals ≤ R.locals) (hc : cells + rm.cells ≤ R.cells) (hsl : slots + rm.slots ≤ R.slots) (hp : pc + 3 = pc') {cells' slots' : Nat} (hc' : cells + rm.cells = cells') (hs' : slots + rm.slots = slots') (k : Con l Z a0 n0 z zc zm zr rm #[v0, v1, v2, v3] H (After l Z a0 n0 R y code mx ret cells' slots' pc' Ls rest Q)) : WP l Z a0 n0 R y code mx ret cells slots pc Ls (v3 :: v2 :: v1 :: v0 :: rest) H Q := callSG W [v0, v1, v2, v3] w1 w2 w3 w4 hy hds hlen hd hs hW hf hl hc hsl hp hc' hs' rfl k
end Jvm.Wp
namespace Jvm.Pilot.@@N@@
open Jvm Jvm.ClassFile Sem Op Lib Jvm.Free Jvm.Stand Jvm.LawKit Jvm.RoadKit Bundle Jvm.Pilot.@@N@@.Jvm.D
set_option maxHeartbeats 8000000
abbrev Hw (Z : State) (a0 : Array Value) : Prop := ∀ d ∈ tables_1, d.before a0 Z = true
theorem w0 {Z : State} {a0 : Array Value} (hw : Hw Z a0) : (Jvm.Cond.arrayClass Jvm.ClassFile.FieldType.byte).before a0 Z = true := hw _ (List.mem_of_getElem? (i := 0) rfl)
theorem w1 {Z : State} {a0 : Array Value} (hw : Hw Z a0) : (Jvm.Cond.constant "com/example/tick6/tick6/csv/CsvWriterNeedsQuotesPinLaw" (7 : Nat) (2147483647 : Int32)).before a0 Z = true := hw _ (List.mem_of_getElem? (i := 1) rfl)
theorem w2 {Z : State} {a0 : Array Value} (hw : Hw Z a0) : (Jvm.Cond.methodLink "com/example/tick6/tick6/csv/CsvWriterNeedsQuotesPinLaw" (8 : Nat) ({ cls := "com/example/tick6/tick6/csv/CsvWriterNeedsQuotesPinLaw", name := "hit", desc := "(BIII)Z" } : Jvm.MethodName)).before a0 Z = true := hw _ (List.mem_of_getElem? (i := 2) rfl)
theorem w3 {Z : State} {a0 : Array Value} (hw : Hw Z a0) : (Jvm.Cond.static ({ cls := "com/example/tick6/tick6/csv/CsvWriterNeedsQuotesPinLaw", name := "hit", desc := "(BIII)Z" } : Jvm.MethodName)).before a0 Z = true := hw _ (List.mem_of_getElem? (i := 3) rfl)
theorem w4 {Z : State} {a0 : Array Value} (hw : Hw Z a0) : (Jvm.Cond.initialized "com/example/tick6/tick6/csv/CsvWriterNeedsQuotesPinLaw").before a0 Z = true := hw _ (List.mem_of_getElem? (i := 4) rfl)
theorem w5 {Z : State} {a0 : Array Value} (hw : Hw Z a0) : (Jvm.Cond.code ({ cls := "com/example/tick6/tick6/csv/CsvWriterNeedsQuotesPinLaw", name := "hit", desc := "(BIII)Z" } : Jvm.MethodName) method_3_code (4 : Nat) (Option.some Jvm.ClassFile.FieldType.boolean)).before a0 Z = true := hw _ (List.mem_of_getElem? (i := 5) rfl)
theorem w6 {Z : State} {a0 : Array Value} (hw : Hw Z a0) : (Jvm.Cond.methodLink "com/example/tick6/tick6/csv/CsvWriterNeedsQuotesPinLaw" (14 : Nat) ({ cls := "com/example/tick6/tick6/csv/CsvWriter", name := "needsQuotes", desc := "([BII)Z" } : Jvm.MethodName)).before a0 Z = true := hw _ (List.mem_of_getElem? (i := 6) rfl)
theorem w7 {Z : State} {a0 : Array Value} (hw : Hw Z a0) : (Jvm.Cond.static ({ cls := "com/example/tick6/tick6/csv/CsvWriter", name := "needsQuotes", desc := "([BII)Z" } : Jvm.MethodName)).before a0 Z = true := hw _ (List.mem_of_getElem? (i := 7) rfl)
theorem w8 {Z : State} {a0 : Array Value} (hw : Hw Z a0) : (Jvm.Cond.initialized "com/example/tick6/tick6/csv/CsvWriter").before a0 Z = true := hw _ (List.mem_of_getElem? (i := 8) rfl)
theorem w9 {Z : State} {a0 : Array Value} (hw : Hw Z a0) : (Jvm.Cond.code ({ cls := "com/example/tick6/tick6/csv/CsvWriter", name := "needsQuotes", desc := "([BII)Z" } : Jvm.MethodName) prog_19_method_21_code (5 : Nat) (Option.some Jvm.ClassFile.FieldType.boolean)).before a0 Z = true := hw _ (List.mem_of_getElem? (i := 9) rfl)
theorem d1_0 : decode method_3_code 0 = .ok (.iload_n 1, 1) := by decide +kernel
theorem d1_1 : decode method_3_code 1 = .ok (.iload_n 2, 1) := by decide +kernel
theorem d1_2 : decode method_3_code 2 = .ok (.if_icmp .lt 8, 3) := by decide +kernel
theorem d1_5 : decode method_3_code 5 = .ok (.iload_n 1, 1) := by decide +kernel
theorem d1_6 : decode method_3_code 6 = .ok (.iload_n 3, 1) := by decide +kernel
theorem d1_7 : decode method_3_code 7 = .ok (.if_icmp .lt 5, 3) := by decide +kernel
theorem d1_10 : decode method_3_code 10 = .ok (.iconst 0, 1) := by decide +kernel
theorem d1_11 : decode method_3_code 11 = .ok (.ireturn, 1) := by decide +kernel
theorem d1_12 : decode method_3_code 12 = .ok (.iload_n 0, 1) := by decide +kernel
theorem d1_13 : decode method_3_code 13 = .ok (.bipush 44, 2) := by decide +kernel
theorem d1_15 : decode method_3_code 15 = .ok (.if_icmp .eq 21, 3) := by decide +kernel
theorem d1_18 : decode method_3_code 18 = .ok (.iload_n 0, 1) := by decide +kernel
theorem d1_19 : decode method_3_code 19 = .ok (.bipush 34, 2) := by decide +kernel
theorem d1_21 : decode method_3_code 21 = .ok (.if_icmp .eq 15, 3) := by decide +kernel
theorem d1_24 : decode method_3_code 24 = .ok (.iload_n 0, 1) := by decide +kernel
theorem d1_25 : decode method_3_code 25 = .ok (.bipush 10, 2) := by decide +kernel
theorem d1_27 : decode method_3_code 27 = .ok (.if_icmp .eq 9, 3) := by decide +kernel
theorem d1_30 : decode method_3_code 30 = .ok (.iload_n 0, 1) := by decide +kernel
theorem d1_31 : decode method_3_code 31 = .ok (.bipush 13, 2) := by decide +kernel
theorem d1_33 : decode method_3_code 33 = .ok (.if_icmp .ne 7, 3) := by decide +kernel
theorem d1_36 : decode method_3_code 36 = .ok (.iconst 1, 1) := by decide +kernel
theorem d1_37 : decode method_3_code 37 = .ok (.goto 4, 3) := by decide +kernel
theorem d1_40 : decode method_3_code 40 = .ok (.iconst 0, 1) := by decide +kernel
theorem d1_41 : decode method_3_code 41 = .ok (.ireturn, 1) := by decide +kernel
theorem d2_0 : decode prog_19_method_21_code 0 = .ok (.iload_n 1, 1) := by decide +kernel
theorem d2_1 : decode prog_19_method_21_code 1 = .ok (.istore_n 3, 1) := by decide +kernel
theorem d2_2 : decode prog_19_method_21_code 2 = .ok (.iload_n 3, 1) := by decide +kernel
theorem d2_3 : decode prog_19_method_21_code 3 = .ok (.iload_n 2, 1) := by decide +kernel
theorem d2_4 : decode prog_19_method_21_code 4 = .ok (.if_icmp .ge 44, 3) := by decide +kernel
theorem d2_7 : decode prog_19_method_21_code 7 = .ok (.aload_n 0, 1) := by decide +kernel
theorem d2_8 : decode prog_19_method_21_code 8 = .ok (.iload_n 3, 1) := by decide +kernel
theorem d2_9 : decode prog_19_method_21_code 9 = .ok (.baload, 1) := by decide +kernel
theorem d2_10 : decode prog_19_method_21_code 10 = .ok (.istore 4, 2) := by decide +kernel
theorem d2_12 : decode prog_19_method_21_code 12 = .ok (.iload 4, 2) := by decide +kernel
theorem d2_14 : decode prog_19_method_21_code 14 = .ok (.bipush 44, 2) := by decide +kernel
theorem d2_16 : decode prog_19_method_21_code 16 = .ok (.if_icmp .eq 24, 3) := by decide +kernel
theorem d2_19 : decode prog_19_method_21_code 19 = .ok (.iload 4, 2) := by decide +kernel
theorem d2_21 : decode prog_19_method_21_code 21 = .ok (.bipush 34, 2) := by decide +kernel
theorem d2_23 : decode prog_19_method_21_code 23 = .ok (.if_icmp .eq 17, 3) := by decide +kernel
theorem d2_26 : decode prog_19_method_21_code 26 = .ok (.iload 4, 2) := by decide +kernel
theorem d2_28 : decode prog_19_method_21_code 28 = .ok (.bipush 10, 2) := by decide +kernel
theorem d2_30 : decode prog_19_method_21_code 30 = .ok (.if_icmp .eq 10, 3) := by decide +kernel
theorem d2_33 : decode prog_19_method_21_code 33 = .ok (.iload 4, 2) := by decide +kernel
theorem d2_35 : decode prog_19_method_21_code 35 = .ok (.bipush 13, 2) := by decide +kernel
theorem d2_37 : decode prog_19_method_21_code 37 = .ok (.if_icmp .ne 5, 3) := by decide +kernel
theorem d2_40 : decode prog_19_method_21_code 40 = .ok (.iconst 1, 1) := by decide +kernel
theorem d2_41 : decode prog_19_method_21_code 41 = .ok (.ireturn, 1) := by decide +kernel
theorem d2_42 : decode prog_19_method_21_code 42 = .ok (.iinc 3 1, 3) := by decide +kernel
theorem d2_45 : decode prog_19_method_21_code 45 = .ok (.goto (-43), 3) := by decide +kernel
theorem d2_48 : decode prog_19_method_21_code 48 = .ok (.iconst 0, 1) := by decide +kernel
theorem d2_49 : decode prog_19_method_21_code 49 = .ok (.ireturn, 1) := by decide +kernel
theorem pd0 : parseMethodDescriptor "([BII)Z" = some ⟨[(.array .byte), .int, .int], some .boolean⟩ := by decide +kernel
theorem pd1 : parseMethodDescriptor "(BIII)Z" = some ⟨[.byte, .int, .int, .int], some .boolean⟩ := by decide +kernel
abbrev nm0 : MethodName := x
abbrev rm0 : Room := room_1
abbrev C0 (l : Launch) (Z : State) (a0 : Array Value) (n0 : Nat) := Wp.Con l Z a0 n0 nm0 code maxLocals ret rm0
abbrev W0 (l : Launch) (Z : State) (a0 : Array Value) (n0 : Nat) := Wp.WP l Z a0 n0 rm0 nm0 code maxLocals ret
theorem pn0 : plainFor nm0 = true := by first | exact plainFor_of_name (by first | (simp [plainName, overriddenIn, nm0, x]; done) | decide +kernel) | decide +kernel
theorem ef0 (m : MethodId) (x0 : Int32) (x1 : Int32) : entryFrame m #[(.int x0), (.int x1)] maxLocals = mkF m 0 ⟨[.val (.int x0), .val (.int x1), .unset, .unset, .unset, .unset, .unset, .unset, .unset, .unset]⟩ [] := by first | exact (Wp.efG m [(.int x0), (.int x1)] maxLocals).trans rfl | (simp [entryFrame, mkF, argsToLocals, Value.category, maxLocals]; done)
abbrev nm1 : MethodName := ⟨"com/example/tick6/tick6/csv/CsvWriterNeedsQuotesPinLaw", "hit", "(BIII)Z"⟩
abbrev rm1 : Room := { frames := 0, cells := 0, slots := 0, locals := 0 }
abbrev C1 (l : Launch) (Z : State) (a0 : Array Value) (n0 : Nat) := Wp.Con l Z a0 n0 nm1 method_3_code 4 (some .boolean) rm1
abbrev W1 (l : Launch) (Z : State) (a0 : Array Value) (n0 : Nat) := Wp.WP l Z a0 n0 rm1 nm1 method_3_code 4 (some .boolean)
theorem pn1 : plainFor nm1 = true := by first | exact plainFor_of_name (by first | (simp [plainName, overriddenIn, nm1, x]; done) | decide +kernel) | decide +kernel
theorem ef1 (m : MethodId) (x0 : Int32) (x1 : Int32) (x2 : Int32) (x3 : Int32) : entryFrame m #[(.int x0), (.int x1), (.int x2), (.int x3)] 4 = mkF m 0 ⟨[.val (.int x0), .val (.int x1), .val (.int x2), .val (.int x3)]⟩ [] := by first | exact (Wp.efG m [(.int x0), (.int x1), (.int x2), (.int x3)] 4).trans rfl | (simp [entryFrame, mkF, argsToLocals, Value.category]; done)
abbrev nm2 : MethodName := ⟨"com/example/tick6/tick6/csv/CsvWriter", "needsQuotes", "([BII)Z"⟩
abbrev rm2 : Room := { frames := 0, cells := 0, slots := 0, locals := 0 }
abbrev C2 (l : Launch) (Z : State) (a0 : Array Value) (n0 : Nat) := Wp.Con l Z a0 n0 nm2 prog_19_method_21_code 5 (some .boolean) rm2
abbrev W2 (l : Launch) (Z : State) (a0 : Array Value) (n0 : Nat) := Wp.WP l Z a0 n0 rm2 nm2 prog_19_method_21_code 5 (some .boolean)
theorem pn2 : plainFor nm2 = true := by first | exact plainFor_of_name (by first | (simp [plainName, overriddenIn, nm2, x]; done) | decide +kernel) | decide +kernel
theorem ef2 (m : MethodId) (x0 : Addr) (x1 : Int32) (x2 : Int32) : entryFrame m #[(.ref x0), (.int x1), (.int x2)] 5 = mkF m 0 ⟨[.val (.ref x0), .val (.int x1), .val (.int x2), .unset, .unset]⟩ [] := by first | exact (Wp.efG m [(.ref x0), (.int x1), (.int x2)] 5).trans rfl | (simp [entryFrame, mkF, argsToLocals, Value.category]; done)
set_option maxRecDepth 65536
def own_b (p : Bool) : Int32 := if p then 1 else 0
theorem own_b1 {p : Bool} (h : p = true) : (some (Value.int (1 &&& 1)) : Option Value) = some (.int (own_b p)) := by subst h; rfl
theorem own_b0 {p : Bool} (h : p = false) : (some (Value.int (0 &&& 1)) : Option Value) = some (.int (own_b p)) := by subst h; rfl

theorem own_inc {i : Int32} {k : Nat} (h : i.toInt = (k : Int)) (hk : k < 2147483647) : (i + 1).toInt = ((k + 1 : Nat) : Int) := by
  have h1 := c_iadd i 1
  have h2 := rng32 (i + 1)
  have h3 : (1 : Int32).toInt = 1 := rfl
  omega

def own_q (b : Int32) : Bool := decide (b = 44 ∨ b = 34 ∨ b = 10 ∨ b = 13)
theorem own_bz (b : Bool) : (own_b b = 0 ↔ b = false) := by cases b <;> decide
theorem own_yes {b : Bool} (h : ¬ own_b b = 0) : b = true := by cases b <;> first | rfl | exact absurd rfl h
theorem own_no {b : Bool} (h : own_b b = 0) : b = false := (own_bz b).mp h
theorem con1 {l : Launch} {Z : State} {a0 : Array Value} {n0 : Nat} (hw : Hw Z a0) (b i f t : Int32) (H : Wp.MH) :
    C1 l Z a0 n0 #[.int b, .int i, .int f, .int t] H (fun v H' => v = some (.int (own_b (decide (f.toInt ≤ i.toInt ∧ i.toInt < t.toInt) && own_q b))) ∧ H' = H) := by
  refine Wp.Con.intro pn1 (fun m => ef1 m b i f t) ?_
  refine Wp.iloadN (pc' := 1) d1_0 rfl rfl ?_
  refine Wp.iloadN (pc' := 2) d1_1 rfl rfl ?_
  refine Wp.icmp_lt (pt := 10) (pf := 5) d1_2 (by decide) rfl (fun hc2 => ?_) (fun hc2 => ?_)
  · refine Wp.iconst (0) (pc' := 11) d1_10 rfl rfl ?_
    refine Wp.zreturn rfl d1_11 ?_
    exact ⟨own_b0 (by rw [decide_eq_false (by omega)]; rfl), rfl⟩
  · refine Wp.iloadN (pc' := 6) d1_5 rfl rfl ?_
    refine Wp.iloadN (pc' := 7) d1_6 rfl rfl ?_
    refine Wp.icmp_lt (pt := 12) (pf := 10) d1_7 (by decide) rfl (fun hc7 => ?_) (fun hc7 => ?_)
    · refine Wp.iloadN (pc' := 13) d1_12 rfl rfl ?_
      refine Wp.bipush (44) (pc' := 15) d1_13 rfl rfl ?_
      refine Wp.icmp_eq (pt := 36) (pf := 18) d1_15 (by decide) rfl (fun hc15 => ?_) (fun hc15 => ?_)
      · refine Wp.iconst (1) (pc' := 37) d1_36 rfl rfl ?_
        refine Wp.goto (pc' := 41) d1_37 (by decide) ?_
        refine Wp.zreturn rfl d1_41 ?_
        first | exact ⟨own_b1 (by rw [decide_eq_true (by omega)]; exact decide_eq_true (by first | exact Or.inl hc15 | exact Or.inr (Or.inl hc21) | exact Or.inr (Or.inr (Or.inl hc27)) | exact Or.inr (Or.inr (Or.inr hc33)))), rfl⟩ | exact ⟨own_b0 (by rw [decide_eq_true (by omega)]; exact decide_eq_false (by rintro (q | q | q | q) <;> contradiction)), rfl⟩
      · refine Wp.iloadN (pc' := 19) d1_18 rfl rfl ?_
        refine Wp.bipush (34) (pc' := 21) d1_19 rfl rfl ?_
        refine Wp.icmp_eq (pt := 36) (pf := 24) d1_21 (by decide) rfl (fun hc21 => ?_) (fun hc21 => ?_)
        · refine Wp.iconst (1) (pc' := 37) d1_36 rfl rfl ?_
          refine Wp.goto (pc' := 41) d1_37 (by decide) ?_
          refine Wp.zreturn rfl d1_41 ?_
          first | exact ⟨own_b1 (by rw [decide_eq_true (by omega)]; exact decide_eq_true (by first | exact Or.inl hc15 | exact Or.inr (Or.inl hc21) | exact Or.inr (Or.inr (Or.inl hc27)) | exact Or.inr (Or.inr (Or.inr hc33)))), rfl⟩ | exact ⟨own_b0 (by rw [decide_eq_true (by omega)]; exact decide_eq_false (by rintro (q | q | q | q) <;> contradiction)), rfl⟩
        · refine Wp.iloadN (pc' := 25) d1_24 rfl rfl ?_
          refine Wp.bipush (10) (pc' := 27) d1_25 rfl rfl ?_
          refine Wp.icmp_eq (pt := 36) (pf := 30) d1_27 (by decide) rfl (fun hc27 => ?_) (fun hc27 => ?_)
          · refine Wp.iconst (1) (pc' := 37) d1_36 rfl rfl ?_
            refine Wp.goto (pc' := 41) d1_37 (by decide) ?_
            refine Wp.zreturn rfl d1_41 ?_
            first | exact ⟨own_b1 (by rw [decide_eq_true (by omega)]; exact decide_eq_true (by first | exact Or.inl hc15 | exact Or.inr (Or.inl hc21) | exact Or.inr (Or.inr (Or.inl hc27)) | exact Or.inr (Or.inr (Or.inr hc33)))), rfl⟩ | exact ⟨own_b0 (by rw [decide_eq_true (by omega)]; exact decide_eq_false (by rintro (q | q | q | q) <;> contradiction)), rfl⟩
          · refine Wp.iloadN (pc' := 31) d1_30 rfl rfl ?_
            refine Wp.bipush (13) (pc' := 33) d1_31 rfl rfl ?_
            refine Wp.icmp_ne (pt := 40) (pf := 36) d1_33 (by decide) rfl (fun hc33 => ?_) (fun hc33 => ?_)
            · refine Wp.iconst (0) (pc' := 41) d1_40 rfl rfl ?_
              refine Wp.zreturn rfl d1_41 ?_
              first | exact ⟨own_b1 (by rw [decide_eq_true (by omega)]; exact decide_eq_true (by first | exact Or.inl hc15 | exact Or.inr (Or.inl hc21) | exact Or.inr (Or.inr (Or.inl hc27)) | exact Or.inr (Or.inr (Or.inr hc33)))), rfl⟩ | exact ⟨own_b0 (by rw [decide_eq_true (by omega)]; exact decide_eq_false (by rintro (q | q | q | q) <;> contradiction)), rfl⟩
            · refine Wp.iconst (1) (pc' := 37) d1_36 rfl rfl ?_
              refine Wp.goto (pc' := 41) d1_37 (by decide) ?_
              refine Wp.zreturn rfl d1_41 ?_
              first | exact ⟨own_b1 (by rw [decide_eq_true (by omega)]; exact decide_eq_true (by first | exact Or.inl hc15 | exact Or.inr (Or.inl hc21) | exact Or.inr (Or.inr (Or.inl hc27)) | exact Or.inr (Or.inr (Or.inr hc33)))), rfl⟩ | exact ⟨own_b0 (by rw [decide_eq_true (by omega)]; exact decide_eq_false (by rintro (q | q | q | q) <;> contradiction)), rfl⟩
    · refine Wp.iconst (0) (pc' := 11) d1_10 rfl rfl ?_
      refine Wp.zreturn rfl d1_11 ?_
      exact ⟨own_b0 (by rw [decide_eq_false (by omega)]; rfl), rfl⟩
theorem con2 {l : Launch} {Z : State} {a0 : Array Value} {n0 : Nat} (hw : Hw Z a0) (xs : List Int32) (hlen : xs.length < 1000) (a : Addr) (f t : Int32) (fN tN : Nat) (hf : f.toInt = (fN : Int)) (ht : t.toInt = (tN : Int)) (hle : tN ≤ xs.length) (H : Wp.MH) (hk : H[0]? = some (a, .inl (.byte, xs.map Value.int))) :
    C2 l Z a0 n0 #[.ref a, .int f, .int t] H (fun v H' => v = some (.int (own_b (((xs.take tN).drop fN).any own_q))) ∧ H' = H) := by
  refine Wp.Con.intro pn2 (fun m => ef2 m a f t) ?_
  generalize hR : ((xs.take tN).drop fN).any own_q = r
  generalize hQ : (fun (v : Option Value) (H' : Wp.MH) => v = some (.int (own_b r)) ∧ H' = H) = Q
  have hT : (xs.take tN).length = tN := by rw [List.length_take]; omega
  have K : ∀ (ys zs : List Int32) (j : Int32) (o : Slot), Wp.ok1 o = true → xs.take tN = zs ++ ys → j.toInt = (zs.length : Int) → ys.any own_q = r →
      W2 l Z a0 n0 0 0 2 [.val (.ref a), .val (.int f), .val (.int t), .val (.int j), o] [] H Q := by
    intro ys
    induction ys with
    | nil =>
      intro zs j o ho hx hj hr
      have hl : tN = zs.length := by rw [← hT, hx]; simp
      refine Wp.iloadN (pc' := 3) d2_2 rfl rfl ?_
      refine Wp.iloadN (pc' := 4) d2_3 rfl rfl ?_
      refine Wp.icmp_ge (pt := 48) (pf := 7) d2_4 (by decide) rfl (fun hc4 => ?_) (fun hc4 => ?_)
      · refine Wp.iconst (0) (pc' := 49) d2_48 rfl rfl ?_
        refine Wp.zreturn rfl d2_49 ?_
        subst hQ; exact ⟨own_b0 (by rw [← hr]; rfl), rfl⟩
      · exfalso; omega
    | cons y ys ih =>
      intro zs j o ho hx hj hr
      have hl : tN = zs.length + (ys.length + 1) := by rw [← hT, hx]; simp
      have hy : xs[zs.length]? = some y := by
        have := congrArg (fun w => w[zs.length]?) hx
        simp only [List.getElem?_take_of_lt (show zs.length < tN by omega)] at this
        rw [this]; simp
      refine Wp.iloadN (pc' := 3) d2_2 rfl rfl ?_
      refine Wp.iloadN (pc' := 4) d2_3 rfl rfl ?_
      refine Wp.icmp_ge (pt := 48) (pf := 7) d2_4 (by decide) rfl (fun hc4 => ?_) (fun hc4 => ?_)
      · exfalso; omega
      · refine Wp.aloadN (pc' := 8) d2_7 rfl rfl rfl ?_
        refine Wp.iloadN (pc' := 9) d2_8 rfl rfl ?_
        refine Wp.baload 0 zs.length (v := .int y) (pc' := 10) d2_9 hk hj (by simp [hy]) rfl ?_
        refine Wp.istore_4 (pc' := 12) d2_10 ho rfl ?_
        refine Wp.iload (pc' := 14) d2_12 rfl rfl ?_
        refine Wp.bipush (44) (pc' := 16) d2_14 rfl rfl ?_
        refine Wp.icmp_eq (pt := 40) (pf := 19) d2_16 (by decide) rfl (fun hc16 => ?_) (fun hc16 => ?_)
        · refine Wp.iconst (1) (pc' := 41) d2_40 rfl rfl ?_
          refine Wp.zreturn rfl d2_41 ?_
          subst hQ; exact ⟨own_b1 (by rw [← hr, List.any_cons, show own_q y = true from decide_eq_true (by first | exact Or.inl hc16 | exact Or.inr (Or.inl hc23) | exact Or.inr (Or.inr (Or.inl hc30)) | exact Or.inr (Or.inr (Or.inr hc37)))]; rfl), rfl⟩
        · refine Wp.iload (pc' := 21) d2_19 rfl rfl ?_
          refine Wp.bipush (34) (pc' := 23) d2_21 rfl rfl ?_
          refine Wp.icmp_eq (pt := 40) (pf := 26) d2_23 (by decide) rfl (fun hc23 => ?_) (fun hc23 => ?_)
          · refine Wp.iconst (1) (pc' := 41) d2_40 rfl rfl ?_
            refine Wp.zreturn rfl d2_41 ?_
            subst hQ; exact ⟨own_b1 (by rw [← hr, List.any_cons, show own_q y = true from decide_eq_true (by first | exact Or.inl hc16 | exact Or.inr (Or.inl hc23) | exact Or.inr (Or.inr (Or.inl hc30)) | exact Or.inr (Or.inr (Or.inr hc37)))]; rfl), rfl⟩
          · refine Wp.iload (pc' := 28) d2_26 rfl rfl ?_
            refine Wp.bipush (10) (pc' := 30) d2_28 rfl rfl ?_
            refine Wp.icmp_eq (pt := 40) (pf := 33) d2_30 (by decide) rfl (fun hc30 => ?_) (fun hc30 => ?_)
            · refine Wp.iconst (1) (pc' := 41) d2_40 rfl rfl ?_
              refine Wp.zreturn rfl d2_41 ?_
              subst hQ; exact ⟨own_b1 (by rw [← hr, List.any_cons, show own_q y = true from decide_eq_true (by first | exact Or.inl hc16 | exact Or.inr (Or.inl hc23) | exact Or.inr (Or.inr (Or.inl hc30)) | exact Or.inr (Or.inr (Or.inr hc37)))]; rfl), rfl⟩
            · refine Wp.iload (pc' := 35) d2_33 rfl rfl ?_
              refine Wp.bipush (13) (pc' := 37) d2_35 rfl rfl ?_
              refine Wp.icmp_ne (pt := 42) (pf := 40) d2_37 (by decide) rfl (fun hc37 => ?_) (fun hc37 => ?_)
              · refine Wp.iinc_3 (1) (pc' := 45) d2_42 rfl rfl ?_
                refine Wp.goto (pc' := 2) d2_45 (by decide) ?_
                exact ih (zs ++ [y]) _ _ rfl (by rw [hx]; simp) (by rw [own_inc hj (by omega)]; simp) (by rw [← hr, List.any_cons, show own_q y = false from decide_eq_false (by rintro (q | q | q | q) <;> contradiction), Bool.false_or])
              · refine Wp.iconst (1) (pc' := 41) d2_40 rfl rfl ?_
                refine Wp.zreturn rfl d2_41 ?_
                subst hQ; exact ⟨own_b1 (by rw [← hr, List.any_cons, show own_q y = true from decide_eq_true (by first | exact Or.inl hc16 | exact Or.inr (Or.inl hc23) | exact Or.inr (Or.inr (Or.inl hc30)) | exact Or.inr (Or.inr (Or.inr hc37)))]; rfl), rfl⟩
  refine Wp.iloadN (pc' := 1) d2_0 rfl rfl ?_
  refine Wp.istoreN_3 (pc' := 2) d2_1 rfl rfl ?_
  by_cases hft : fN ≤ tN
  · exact K ((xs.take tN).drop fN) ((xs.take tN).take fN) _ _ rfl (by simp) (by rw [hf, List.length_take, hT, Nat.min_eq_left hft]) hR
  · have hr0 : r = false := by rw [← hR, List.drop_eq_nil_of_le (by omega)]; rfl
    refine Wp.iloadN (pc' := 3) d2_2 rfl rfl ?_
    refine Wp.iloadN (pc' := 4) d2_3 rfl rfl ?_
    refine Wp.icmp_ge (pt := 48) (pf := 7) d2_4 (by decide) rfl (fun hc4 => ?_) (fun hc4 => ?_)
    · refine Wp.iconst (0) (pc' := 49) d2_48 rfl rfl ?_
      refine Wp.zreturn rfl d2_49 ?_
      subst hQ; exact ⟨own_b0 hr0, rfl⟩
    · exfalso; omega
theorem own_fin (b0 b1 b2 b3 : Int32) (f t : Nat) (hf : f ≤ 4) (ht : t ≤ 4) :
    (([b0, b1, b2, b3].take t).drop f).any own_q = ((decide ((f : Int) ≤ 0 ∧ (0 : Int) < t) && own_q b0) || (decide ((f : Int) ≤ 1 ∧ (1 : Int) < t) && own_q b1) || (decide ((f : Int) ≤ 2 ∧ (2 : Int) < t) && own_q b2) || (decide ((f : Int) ≤ 3 ∧ (3 : Int) < t) && own_q b3)) := by
  have h1 : f = 0 ∨ f = 1 ∨ f = 2 ∨ f = 3 ∨ f = 4 := by omega
  have h2 : t = 0 ∨ t = 1 ∨ t = 2 ∨ t = 3 ∨ t = 4 := by omega
  rcases h1 with rfl | rfl | rfl | rfl | rfl <;> rcases h2 with rfl | rfl | rfl | rfl | rfl <;> simp [Bool.or_assoc]
theorem own_main {l : Launch} {Z : State} {a0 : Array Value} {n0 : Nat} (hw : Hw Z a0) (p g b0 b1 b2 b3 f t : Int32) (a : Addr) (fN tN : Nat) (hf : f.toInt = (fN : Int)) (hf4 : fN ≤ 4) (ht : t.toInt = (tN : Int)) (ht4 : tN ≤ 4) :
    W0 l Z a0 n0 1 4 65 [.val (.int p), .val (.int g), .val (.int b0), .val (.int b1), .val (.int b2), .val (.int b3), .val (.ref a), .val (.int f), .val (.int t), .unset] [] [(a, .inl (.byte, [b0, b1, b2, b3].map Value.int))] (fun v _ => v = some (.int 1)) := by
  have hfin := own_fin b0 b1 b2 b3 fN tN hf4 ht4
  have K120 : ∀ b : Bool, b = (([b0, b1, b2, b3].take tN).drop fN).any own_q → W0 l Z a0 n0 1 4 120 [.val (.int p), .val (.int g), .val (.int b0), .val (.int b1), .val (.int b2), .val (.int b3), .val (.ref a), .val (.int f), .val (.int t), .unset] [.int (own_b b)] [(a, .inl (.byte, [b0, b1, b2, b3].map Value.int))] (fun v _ => v = some (.int 1)) := by
    intro b hb
    subst hb
    refine Wp.istore_9 (pc' := 122) at_120 rfl rfl ?_
    refine Wp.aload (pc' := 124) at_122 rfl rfl rfl ?_
    refine Wp.iload (pc' := 126) at_124 rfl rfl ?_
    refine Wp.iload (pc' := 128) at_126 rfl rfl ?_
    refine Wp.callS_3 0 (pc' := 131) (cells' := 1) (slots' := 4)  (rm := rm2) (w6 hw) (w7 hw) (w8 hw) (w9 hw) (by decide) pd0 rfl at_128 rfl rfl (by decide) (by decide) (by decide) (by decide) rfl rfl rfl ?_
    refine (con2 hw [b0, b1, b2, b3] (by simp) a f t fN tN hf ht (by simpa using ht4) _ rfl).mono ?_
    rintro _ _ ⟨rfl, rfl⟩
    refine Wp.afterS ?_
    refine Wp.iload (pc' := 133) at_131 rfl rfl ?_
    refine Wp.icmp_ne (pt := 140) (pf := 136) at_133 (by decide) rfl (fun hc133 => ?_) (fun hc133 => ?_)
    · exact absurd rfl hc133
    · refine Wp.iconst (1) (pc' := 137) at_136 rfl rfl ?_
      refine Wp.goto (pc' := 141) at_137 (by decide) ?_
      refine Wp.zreturn rfl at_141 ?_
      rfl
  have h0 : (0 : Int32).toInt = 0 := rfl
  have h1 : (1 : Int32).toInt = 1 := rfl
  have h2 : (2 : Int32).toInt = 2 := rfl
  have h3 : (3 : Int32).toInt = 3 := rfl
  refine Wp.iloadN (pc' := 66) at_65 rfl rfl ?_
  refine Wp.iconst (0) (pc' := 67) at_66 rfl rfl ?_
  refine Wp.iload (pc' := 69) at_67 rfl rfl ?_
  refine Wp.iload (pc' := 71) at_69 rfl rfl ?_
  refine Wp.callS_4 0 (pc' := 74) (cells' := 1) (slots' := 4)  (rm := rm1) (w2 hw) (w3 hw) (w4 hw) (w5 hw) (by decide) pd1 rfl at_71 rfl rfl (by decide) (by decide) (by decide) (by decide) rfl rfl rfl ?_
  refine (con1 hw _ _ _ _ _).mono ?_
  rintro _ _ ⟨rfl, rfl⟩
  rw [hf, ht]
  refine Wp.afterS ?_
  refine Wp.if_ne (pt := 115) (pf := 77) at_74 (by decide) rfl (fun hc74 => ?_) (fun hc74 => ?_)
  · refine Wp.iconst (1) (pc' := 116) at_115 rfl rfl ?_
    refine Wp.goto (pc' := 120) at_116 (by decide) ?_
    simp only [h0, h1, h2, h3] at hc74
    rw [hfin] at K120
    first | exact K120 true (by rw [own_yes hc74]; rfl) | exact K120 true (by rw [own_no hc74, own_yes hc86]; rfl) | exact K120 true (by rw [own_no hc74, own_no hc86, own_yes hc99]; rfl) | exact K120 true (by rw [own_no hc74, own_no hc86, own_no hc99, own_yes hc112]; rfl) | exact K120 false (by rw [own_no hc74, own_no hc86, own_no hc99, own_no hc112]; rfl)
  · refine Wp.iloadN (pc' := 78) at_77 rfl rfl ?_
    refine Wp.iconst (1) (pc' := 79) at_78 rfl rfl ?_
    refine Wp.iload (pc' := 81) at_79 rfl rfl ?_
    refine Wp.iload (pc' := 83) at_81 rfl rfl ?_
    refine Wp.callS_4 0 (pc' := 86) (cells' := 1) (slots' := 4)  (rm := rm1) (w2 hw) (w3 hw) (w4 hw) (w5 hw) (by decide) pd1 rfl at_83 rfl rfl (by decide) (by decide) (by decide) (by decide) rfl rfl rfl ?_
    refine (con1 hw _ _ _ _ _).mono ?_
    rintro _ _ ⟨rfl, rfl⟩
    rw [hf, ht]
    refine Wp.afterS ?_
    refine Wp.if_ne (pt := 115) (pf := 89) at_86 (by decide) rfl (fun hc86 => ?_) (fun hc86 => ?_)
    · refine Wp.iconst (1) (pc' := 116) at_115 rfl rfl ?_
      refine Wp.goto (pc' := 120) at_116 (by decide) ?_
      simp only [h0, h1, h2, h3] at hc74 hc86
      rw [hfin] at K120
      first | exact K120 true (by rw [own_yes hc74]; rfl) | exact K120 true (by rw [own_no hc74, own_yes hc86]; rfl) | exact K120 true (by rw [own_no hc74, own_no hc86, own_yes hc99]; rfl) | exact K120 true (by rw [own_no hc74, own_no hc86, own_no hc99, own_yes hc112]; rfl) | exact K120 false (by rw [own_no hc74, own_no hc86, own_no hc99, own_no hc112]; rfl)
    · refine Wp.iload (pc' := 91) at_89 rfl rfl ?_
      refine Wp.iconst (2) (pc' := 92) at_91 rfl rfl ?_
      refine Wp.iload (pc' := 94) at_92 rfl rfl ?_
      refine Wp.iload (pc' := 96) at_94 rfl rfl ?_
      refine Wp.callS_4 0 (pc' := 99) (cells' := 1) (slots' := 4)  (rm := rm1) (w2 hw) (w3 hw) (w4 hw) (w5 hw) (by decide) pd1 rfl at_96 rfl rfl (by decide) (by decide) (by decide) (by decide) rfl rfl rfl ?_
      refine (con1 hw _ _ _ _ _).mono ?_
      rintro _ _ ⟨rfl, rfl⟩
      rw [hf, ht]
      refine Wp.afterS ?_
      refine Wp.if_ne (pt := 115) (pf := 102) at_99 (by decide) rfl (fun hc99 => ?_) (fun hc99 => ?_)
      · refine Wp.iconst (1) (pc' := 116) at_115 rfl rfl ?_
        refine Wp.goto (pc' := 120) at_116 (by decide) ?_
        simp only [h0, h1, h2, h3] at hc74 hc86 hc99
        rw [hfin] at K120
        first | exact K120 true (by rw [own_yes hc74]; rfl) | exact K120 true (by rw [own_no hc74, own_yes hc86]; rfl) | exact K120 true (by rw [own_no hc74, own_no hc86, own_yes hc99]; rfl) | exact K120 true (by rw [own_no hc74, own_no hc86, own_no hc99, own_yes hc112]; rfl) | exact K120 false (by rw [own_no hc74, own_no hc86, own_no hc99, own_no hc112]; rfl)
      · refine Wp.iload (pc' := 104) at_102 rfl rfl ?_
        refine Wp.iconst (3) (pc' := 105) at_104 rfl rfl ?_
        refine Wp.iload (pc' := 107) at_105 rfl rfl ?_
        refine Wp.iload (pc' := 109) at_107 rfl rfl ?_
        refine Wp.callS_4 0 (pc' := 112) (cells' := 1) (slots' := 4)  (rm := rm1) (w2 hw) (w3 hw) (w4 hw) (w5 hw) (by decide) pd1 rfl at_109 rfl rfl (by decide) (by decide) (by decide) (by decide) rfl rfl rfl ?_
        refine (con1 hw _ _ _ _ _).mono ?_
        rintro _ _ ⟨rfl, rfl⟩
        rw [hf, ht]
        refine Wp.afterS ?_
        refine Wp.if_eq (pt := 119) (pf := 115) at_112 (by decide) rfl (fun hc112 => ?_) (fun hc112 => ?_)
        · refine Wp.iconst (0) (pc' := 120) at_119 rfl rfl ?_
          simp only [h0, h1, h2, h3] at hc74 hc86 hc99 hc112
          rw [hfin] at K120
          first | exact K120 true (by rw [own_yes hc74]; rfl) | exact K120 true (by rw [own_no hc74, own_yes hc86]; rfl) | exact K120 true (by rw [own_no hc74, own_no hc86, own_yes hc99]; rfl) | exact K120 true (by rw [own_no hc74, own_no hc86, own_no hc99, own_yes hc112]; rfl) | exact K120 false (by rw [own_no hc74, own_no hc86, own_no hc99, own_no hc112]; rfl)
        · refine Wp.iconst (1) (pc' := 116) at_115 rfl rfl ?_
          refine Wp.goto (pc' := 120) at_116 (by decide) ?_
          simp only [h0, h1, h2, h3] at hc74 hc86 hc99 hc112
          rw [hfin] at K120
          first | exact K120 true (by rw [own_yes hc74]; rfl) | exact K120 true (by rw [own_no hc74, own_yes hc86]; rfl) | exact K120 true (by rw [own_no hc74, own_no hc86, own_yes hc99]; rfl) | exact K120 true (by rw [own_no hc74, own_no hc86, own_no hc99, own_yes hc112]; rfl) | exact K120 false (by rw [own_no hc74, own_no hc86, own_no hc99, own_no hc112]; rfl)
theorem law_con (l : Launch) (Z : State) (a0 : Array Value) (n0 : Nat) (hw : Hw Z a0) (p g : Int32) :
    C0 l Z a0 n0 #[.int p, .int g] [] (fun v _ => v = some (.int 1)) := by
  refine Wp.Con.intro pn0 (fun m => ef0 m p g) ?_
  have e8 : ∀ z : Int32, z.toInt8.toInt32.toInt8.toInt32 = z.toInt8.toInt32 := fun z => by simp
  have hm : ∀ s : Int32, (s &&& 2147483647).toInt = s.toInt % (2 ^ 31 : Nat) := fun s => c_mask s _ 31 (by decide) (by decide)
  have hd : ∀ s : Int32, ∃ k : Nat, ((s &&& 2147483647) % 5).toInt = (k : Int) ∧ k ≤ 4 := by
    intro s
    have h1 := hm s
    have h2 := (c_irem (s &&& 2147483647) 5 5 (by decide)).1 (by omega)
    exact ⟨((s &&& 2147483647) % 5).toInt.toNat, by omega, by omega⟩
  obtain ⟨fN, hf, hf4⟩ := hd g
  obtain ⟨tN, ht, ht4⟩ := hd (g.toUInt32 >>> ((8 : Int32) &&& 31).toUInt32).toInt32
  refine Wp.iloadN (pc' := 1) at_0 rfl rfl ?_
  refine Wp.i2b (pc' := 2) at_1 rfl ?_
  refine Wp.istoreN_2 (pc' := 3) at_2 rfl rfl ?_
  refine Wp.iloadN (pc' := 4) at_3 rfl rfl ?_
  refine Wp.bipush (8) (pc' := 6) at_4 rfl rfl ?_
  refine Wp.ishr (pc' := 7) at_6 rfl ?_
  refine Wp.i2b (pc' := 8) at_7 rfl ?_
  refine Wp.istoreN_3 (pc' := 9) at_8 rfl rfl ?_
  refine Wp.iloadN (pc' := 10) at_9 rfl rfl ?_
  refine Wp.bipush (16) (pc' := 12) at_10 rfl rfl ?_
  refine Wp.ishr (pc' := 13) at_12 rfl ?_
  refine Wp.i2b (pc' := 14) at_13 rfl ?_
  refine Wp.istore_4 (pc' := 16) at_14 rfl rfl ?_
  refine Wp.iloadN (pc' := 17) at_16 rfl rfl ?_
  refine Wp.bipush (24) (pc' := 19) at_17 rfl rfl ?_
  refine Wp.ishr (pc' := 20) at_19 rfl ?_
  refine Wp.i2b (pc' := 21) at_20 rfl ?_
  refine Wp.istore_5 (pc' := 23) at_21 rfl rfl ?_
  refine Wp.iconst (4) (pc' := 24) at_23 rfl rfl ?_
  refine Wp.newarray 4 4 [.int 0, .int 0, .int 0, .int 0] (pc' := 26) (cells' := 1) (slots' := 4) (ty := .byte) (w0 hw) at_24 rfl (by decide) (by decide) (by decide) (by decide) rfl rfl rfl rfl rfl (fun a24 => ?_)
  refine Wp.dup (pc' := 27) at_26 rfl rfl ?_
  refine Wp.iconst (0) (pc' := 28) at_27 rfl rfl ?_
  refine Wp.iloadN (pc' := 29) at_28 rfl rfl ?_
  first | (refine Wp.bastore_0 0 (pc' := 30) at_29 rfl (by simp) rfl ?_) | (refine Wp.bastoreZ_0 0 (pc' := 30) at_29 rfl (by simp) rfl ?_)
  try simp only [List.set_cons_zero, List.set_cons_succ]
  refine Wp.dup (pc' := 31) at_30 rfl rfl ?_
  refine Wp.iconst (1) (pc' := 32) at_31 rfl rfl ?_
  refine Wp.iloadN (pc' := 33) at_32 rfl rfl ?_
  first | (refine Wp.bastore_0 1 (pc' := 34) at_33 rfl (by simp) rfl ?_) | (refine Wp.bastoreZ_0 1 (pc' := 34) at_33 rfl (by simp) rfl ?_)
  try simp only [List.set_cons_zero, List.set_cons_succ]
  refine Wp.dup (pc' := 35) at_34 rfl rfl ?_
  refine Wp.iconst (2) (pc' := 36) at_35 rfl rfl ?_
  refine Wp.iload (pc' := 38) at_36 rfl rfl ?_
  first | (refine Wp.bastore_0 2 (pc' := 39) at_38 rfl (by simp) rfl ?_) | (refine Wp.bastoreZ_0 2 (pc' := 39) at_38 rfl (by simp) rfl ?_)
  try simp only [List.set_cons_zero, List.set_cons_succ]
  refine Wp.dup (pc' := 40) at_39 rfl rfl ?_
  refine Wp.iconst (3) (pc' := 41) at_40 rfl rfl ?_
  refine Wp.iload (pc' := 43) at_41 rfl rfl ?_
  first | (refine Wp.bastore_0 3 (pc' := 44) at_43 rfl (by simp) rfl ?_) | (refine Wp.bastoreZ_0 3 (pc' := 44) at_43 rfl (by simp) rfl ?_)
  try simp only [List.set_cons_zero, List.set_cons_succ]
  refine Wp.astore_6 (pc' := 46) at_44 rfl rfl rfl rfl ?_
  refine Wp.iloadN (pc' := 47) at_46 rfl rfl ?_
  refine Wp.ldcI (pc' := 49) (w1 hw) at_47 rfl ?_
  refine Wp.iand (pc' := 50) at_49 rfl ?_
  refine Wp.iconst (5) (pc' := 51) at_50 rfl rfl ?_
  refine Wp.irem (pc' := 52) at_51 (by decide) rfl ?_
  refine Wp.istore_7 (pc' := 54) at_52 rfl rfl ?_
  refine Wp.iloadN (pc' := 55) at_54 rfl rfl ?_
  refine Wp.bipush (8) (pc' := 57) at_55 rfl rfl ?_
  refine Wp.iushr (pc' := 58) at_57 rfl ?_
  refine Wp.ldcI (pc' := 60) (w1 hw) at_58 rfl ?_
  refine Wp.iand (pc' := 61) at_60 rfl ?_
  refine Wp.iconst (5) (pc' := 62) at_61 rfl rfl ?_
  refine Wp.irem (pc' := 63) at_62 (by decide) rfl ?_
  refine Wp.istore_8 (pc' := 65) at_63 rfl rfl ?_
  simp only [e8]
  exact own_main hw p g _ _ _ _ _ _ _ fN tN hf hf4 ht ht4
set_option maxRecDepth 65536 in
theorem comes_1 {Post : Tables → Env → Array Value → State → Outcome → State → Prop} (hpost : ∀ tb e args s v u, (limb_1_1.after args s (.returned v) u = true ∧ limb_1_2.after args s (.returned v) u = true ∧ True) → FrameEnd s (.returned v) u (Jvm.fieldLocs frame_1_writes args s ++ Jvm.arrayLocs frame_1_arrays args s ++ Jvm.staticLocs frame_1_statics s) room_1.cells room_1.slots → Post tb e args s (.returned v) u) :
    ArmFor flags0 classFile x code maxLocals ret World_1 tables_1 room_1 Calls_1 rest_1 Pre_1 Post := by
  intro l hfl _ _ p e ha hc hk s m args below hf hA hF happ hP
  obtain ⟨hcalls, hrest, hpre⟩ := hP
  obtain ⟨-, -, -, hnamed, -, -, -, hat⟩ := (Spec.applies_iff hf).mp happ
  obtain ⟨hg, hn⟩ := and_e (Cond.before_iff.mp (show (Jvm.Cond.and given_1 narrow_1).before args s = true from hpre))
  obtain ⟨hcnt, g0⟩ := and_e hg
  obtain ⟨y0, y1, rfl⟩ : ∃ y0 y1 : Value, args = #[y0, y1] := by
    have hs : args.size = 2 := by simpa [Cond.value, given_1] using hcnt
    obtain ⟨L⟩ := args
    match L, hs with
    | [y0, y1], _ => exact ⟨y0, y1, rfl⟩
  have hw := fun d (hd : d ∈ tables_1) => atoms_spec (ws := Jvm.Cond.code x code maxLocals ret :: tables_1) hat d (List.mem_cons_of_mem _ hd)
  obtain ⟨g0a, g1⟩ := and_e g0
  obtain ⟨i0, e0⟩ := is_v g0a
  obtain rfl : y0 = .int i0 := Option.some.inj e0
  obtain ⟨i1, e1⟩ := is_v g1
  obtain rfl : y1 = .int i1 := Option.some.inj e1
  obtain ⟨n, o, h1, h2, h3, v, L, rfl, ⟨N, H', hR', rfl⟩, hq⟩ := law_con l s _ s.heap.size hw i0 i1 tables_1 s.heap ⟨Nat.le_refl _, List.nodup_nil, fun _ q => nomatch q⟩ p e ha hc hk s m _ below hf ((Spec.applies_iff_loose hf).mp happ).1 ⟨rfl, State.Warmed39.refl s, rfl⟩ trivial
  refine ⟨n, _, h1, h2, h3, hpost _ _ _ _ _ _ ⟨Cond.after_iff.mpr rfl, Cond.after_iff.mpr (eq_i res_at (Term.int_eval (1)) rfl), trivial⟩ ⟨hq.1, hq.2.1, (hq.2.2.sift fun y hy => Or.inr (N y hy)).mono (by decide) (by decide)⟩⟩
theorem main_1_1 : Claimed_1_1 := comes_1 fun _ _ _ _ _ _ h hF => ⟨h.1, hF⟩
theorem main_1_2 : Claimed_1_2 := comes_1 fun _ _ _ _ _ _ h hF => ⟨h.2.1, hF⟩
end Jvm.Pilot.@@N@@
namespace Jvm.Pilot.@@N@@
open Jvm Jvm.ClassFile Sem Op Lib Jvm.Free Jvm.Stand Jvm.Pilot.@@N@@.Jvm.D
/-! MADE BY PROGRAM (witnessworld.py) out of the Statement's table words and the real class files: 10 classes; the members and pool entries that the words name. The judged class is class 1, her method 1. -/
namespace start1
open Jvm.ClassFile
def u (s : String) : CpInfo := .utf8 (stringToUtf16 s)
/-- a pool by its gaps: so many unusable entries, then the entry; so many at the end -/
def gap : Nat → List CpInfo → List CpInfo
  | 0, r => r
  | n + 1, r => .unusable :: gap n r
def poolList (es : List (Nat × CpInfo)) (last : Nat) : List CpInfo := es.foldr (fun e r => gap e.1 (e.2 :: r)) (gap last [])
def pool (es : List (Nat × CpInfo)) (last : Nat) : Array CpInfo := ⟨poolList es last⟩
def fileOf (pool : Array CpInfo) (this : Nat) (attrs : Array Attribute := #[]) (ms : Array MethodInfo := #[]) (fl : Nat := 33) (sup : Nat := 0) (ifs : Array Nat := #[]) (fds : Array FieldInfo := #[]) : ClassFile where
  minorVersion := 0
  majorVersion := 65
  constantPool := pool
  accessFlags := fl
  thisClass := this
  superClass := sup
  interfaces := ifs
  fields := fds
  methods := ms
  attributes := attrs
def plain (name : String) (sup : Option ClassId) : Class where
  name := name
  kind := .ordinary
  loader := none
  accessFlags := 33
  super := sup
  interfaces := #[]
  cf := none
  fields := #[]
  methods := #[]
  instanceTypes := #[]
  staticTypes := #[]
  resolved := #[]
  callSites := []
  init := .initialized
  statics := none
  mirror := none

def pool0 : Array CpInfo := pool [(5, u "<init>"), (0, u "()V"), (1, .class_ 10), (1, u "java/lang/Object")] 113

def k0m0 : Method := { name := "<init>", desc := "()V", sig := { parameters := [], returnType := none }, accessFlags := 1, code := none }
/-- java/lang/Object -/
def k0 : Class := { plain "java/lang/Object" none with
  accessFlags := 33
  interfaces := #[]
  cf := some (fileOf pool0 8 #[] #[{ accessFlags := 1, nameIndex := 5, descriptorIndex := 6, attributes := #[] }] 33 0 #[] #[])
  fields := #[]
  methods := #[k0m0]
  instanceTypes := #[]
  staticTypes := #[]
  resolved := Array.replicate 124 none
  statics := none }

def pool1 : Array CpInfo := pool [(2, .class_ 4), (1, u "java/lang/Object"), (0, u "<init>"), (0, u "()V"), (0, .integer 2147483647), (0, .methodref 9 10), (0, .class_ 11), (0, .nameAndType 12 13), (0, u "com/example/tick6/tick6/csv/CsvWriterNeedsQuotesPinLaw"), (0, u "hit"), (0, u "(BIII)Z"), (0, .methodref 15 16), (0, .class_ 17), (0, .nameAndType 18 19), (0, u "com/example/tick6/tick6/csv/CsvWriter"), (0, u "needsQuotes"), (0, u "([BII)Z"), (2, u "law"), (0, u "(II)Z")] 5

def k1m0 : Method := { name := "<init>", desc := "()V", sig := { parameters := [], returnType := none }, accessFlags := 1, code := none }
def k1c1 : Code := { maxStack := 4, maxLocals := 10, code := code, exceptionTable := #[], attributes := #[] }
def k1m1 : Method := { name := "law", desc := "(II)Z", sig := { parameters := [.int, .int], returnType := some .boolean }, accessFlags := 9, code := some k1c1 }
def k1c2 : Code := { maxStack := 2, maxLocals := 4, code := method_3_code, exceptionTable := #[], attributes := #[] }
def k1m2 : Method := { name := "hit", desc := "(BIII)Z", sig := { parameters := [.byte, .int, .int, .int], returnType := some .boolean }, accessFlags := 10, code := some k1c2 }
/-- com/example/tick6/tick6/csv/CsvWriterNeedsQuotesPinLaw -/
def k1 : Class := { plain "com/example/tick6/tick6/csv/CsvWriterNeedsQuotesPinLaw" (some 0) with
  accessFlags := 49
  interfaces := #[]
  cf := some (fileOf pool1 9 #[] #[{ accessFlags := 1, nameIndex := 5, descriptorIndex := 6, attributes := #[] }, { accessFlags := 9, nameIndex := 22, descriptorIndex := 23, attributes := #[] }, { accessFlags := 10, nameIndex := 12, descriptorIndex := 13, attributes := #[] }] 49 2 #[] #[])
  fields := #[]
  methods := #[k1m0, k1m1, k1m2]
  instanceTypes := #[]
  staticTypes := #[]
  resolved := Array.replicate 29 none
  statics := none }

def pool2 : Array CpInfo := pool [(1, .class_ 2), (0, u "java/lang/AutoCloseable"), (0, .class_ 4), (0, u "java/lang/Object")] 7

/-- java/lang/AutoCloseable -/
def k2 : Class := { plain "java/lang/AutoCloseable" (some 0) with
  accessFlags := 1537
  interfaces := #[]
  cf := some (fileOf pool2 1 #[] #[] 1537 3 #[] #[])
  fields := #[]
  methods := #[]
  instanceTypes := #[]
  staticTypes := #[]
  resolved := Array.replicate 12 none
  statics := none }

def pool3 : Array CpInfo := pool [(2, .class_ 4), (1, u "java/lang/Object"), (2, .class_ 8), (0, u "com/example/tick6/tick6/csv/CsvWriter"), (3, u "buffer"), (0, u "[B"), (2, u "file"), (0, u "Lcom/example/tick6/tick6/csv/ReplacingFile;"), (65, u "length"), (6, u "I"), (47, u "needsQuotes"), (0, u "([BII)Z"), (61, u "lineStarted"), (0, u "Z"), (39, u "TEN_POWERS"), (0, u "[J"), (17, .class_ 262), (0, u "java/lang/AutoCloseable"), (0, u "BUFFER_SIZE"), (1, u "MAX_LONG_DIGITS"), (1, u "LONG_CHARACTERS")] 45

def k3c0 : Code := { maxStack := 2, maxLocals := 5, code := prog_19_method_21_code, exceptionTable := #[], attributes := #[] }
def k3m0 : Method := { name := "needsQuotes", desc := "([BII)Z", sig := { parameters := [(.array .byte), .int, .int], returnType := some .boolean }, accessFlags := 8, code := some k3c0 }
/-- com/example/tick6/tick6/csv/CsvWriter -/
def k3 : Class := { plain "com/example/tick6/tick6/csv/CsvWriter" (some 0) with
  accessFlags := 49
  interfaces := #[2]
  cf := some (fileOf pool3 7 #[] #[{ accessFlags := 8, nameIndex := 138, descriptorIndex := 139, attributes := #[] }] 49 2 #[261] #[{ accessFlags := 26, nameIndex := 263, descriptorIndex := 90, attributes := #[] }, { accessFlags := 26, nameIndex := 265, descriptorIndex := 90, attributes := #[] }, { accessFlags := 26, nameIndex := 242, descriptorIndex := 243, attributes := #[] }, { accessFlags := 26, nameIndex := 267, descriptorIndex := 90, attributes := #[] }, { accessFlags := 18, nameIndex := 16, descriptorIndex := 17, attributes := #[] }, { accessFlags := 2, nameIndex := 12, descriptorIndex := 13, attributes := #[] }, { accessFlags := 2, nameIndex := 83, descriptorIndex := 90, attributes := #[] }, { accessFlags := 2, nameIndex := 201, descriptorIndex := 202, attributes := #[] }])
  fields := #[{ name := "BUFFER_SIZE", type := .int, accessFlags := 26, slot := 0, constantValue := 0 }, { name := "MAX_LONG_DIGITS", type := .int, accessFlags := 26, slot := 1, constantValue := 0 }, { name := "TEN_POWERS", type := (.array .long), accessFlags := 26, slot := 2, constantValue := 0 }, { name := "LONG_CHARACTERS", type := .int, accessFlags := 26, slot := 3, constantValue := 0 }, { name := "file", type := (.object "com/example/tick6/tick6/csv/ReplacingFile"), accessFlags := 18, slot := 0, constantValue := 0 }, { name := "buffer", type := (.array .byte), accessFlags := 2, slot := 1, constantValue := 0 }, { name := "length", type := .int, accessFlags := 2, slot := 2, constantValue := 0 }, { name := "lineStarted", type := .boolean, accessFlags := 2, slot := 3, constantValue := 0 }]
  methods := #[k3m0]
  instanceTypes := #[(.object "com/example/tick6/tick6/csv/ReplacingFile"), (.array .byte), .int, .boolean]
  staticTypes := #[.int, .int, (.array .long), .int]
  resolved := Array.replicate 313 none
  statics := none }

def pool4 : Array CpInfo := pool [(1, u "java/lang/Cloneable"), (0, .class_ 1), (0, u "java/lang/Object"), (0, .class_ 3)] 3

/-- java/lang/Cloneable -/
def k4 : Class := { plain "java/lang/Cloneable" (some 0) with
  accessFlags := 1537
  interfaces := #[]
  cf := some (fileOf pool4 2 #[] #[] 1537 4 #[] #[])
  fields := #[]
  methods := #[]
  instanceTypes := #[]
  staticTypes := #[]
  resolved := Array.replicate 8 none
  statics := none }

def pool5 : Array CpInfo := pool [(1, u "java/io/Serializable"), (0, .class_ 1), (0, u "java/lang/Object"), (0, .class_ 3)] 3

/-- java/io/Serializable -/
def k5 : Class := { plain "java/io/Serializable" (some 0) with
  accessFlags := 1537
  interfaces := #[]
  cf := some (fileOf pool5 2 #[] #[] 1537 4 #[] #[])
  fields := #[]
  methods := #[]
  instanceTypes := #[]
  staticTypes := #[]
  resolved := Array.replicate 8 none
  statics := none }

/-- the primitive byte -/
def k6 : Class := { plain "byte" none with kind := .primitive 'B', accessFlags := 0x411 }
/-- [B -/
def k7 : Class := { plain "[B" (some 0) with kind := .array 6 .byte, interfaces := #[4, 5], accessFlags := 1041 }

/-- the primitive int -/
def k8 : Class := { plain "int" none with kind := .primitive 'I', accessFlags := 0x411 }
/-- [I -/
def k9 : Class := { plain "[I" (some 0) with kind := .array 8 .int, interfaces := #[4, 5], accessFlags := 1041 }

def heap : Heap := #[]
def classes : Array Class := #[k0, k1, k2, k3, k4, k5, k6, k7, k8, k9]
def interned : List (Array UInt16 × Addr) := []
def slotsUsed : Nat := 0
def theMethod : MethodId := ⟨1, 1⟩
def args0 : Array Value := #[.int 5, .int 5]
def aboutOver (below : List Frame) : State where
  vm := { classes := classes, interned := interned.toArray }
  heap := heap
  slotsUsed := slotsUsed
  threads := #[{ frames := .invoking theMethod args0 :: below }]
def below0 : List Frame := [.native { method := ⟨0, 0⟩, args := #[] }]
def about1 : State := aboutOver below0
def p0 : Program := .bare "" "" ""
def e0 : Env := launch0.env 0 0 0
theorem w_frames : about1.frames = Frame.invoking theMethod args0 :: below0 := rfl
set_option maxRecDepth 65536 in
theorem w_args : argsFit about1.vm theMethod args0 = true := by decide +kernel
set_option maxRecDepth 65536 in
theorem w_heap : heapFits about1 = true := by decide +kernel
set_option maxRecDepth 65536 in
theorem w_runnable : about1.curStatus? = some .runnable := by decide +kernel
set_option maxRecDepth 65536 in
theorem w_alone : about1.alone = true := by decide +kernel
set_option maxRecDepth 65536 in
theorem w_named : about1.methodNamed? x = some theMethod := by decide +kernel
set_option maxRecDepth 65536 in
theorem w_hears : about1.hears theMethod below0 = true := by decide +kernel
set_option maxRecDepth 65536 in
theorem w_ripe : about1.ripe theMethod args0 below0 = true := by decide +kernel
theorem w_running : about1.status = .running := rfl
set_option maxRecDepth 65536 in
theorem w_room : about1.hasRoom e0.platform room_1 = true :=
  launch0.hasRoom_least _ room_1 (by decide +kernel) (by decide +kernel) (by decide +kernel) (by decide +kernel) (by decide +kernel) (by decide +kernel)
theorem allAtoms_all (ts : List Jvm.Cond) (a : Array Jvm.Value) (st : Jvm.State) : (allAtoms ts).before a st = ts.all (fun c => c.before a st) := by
  induction ts with
  | nil => rfl
  | cons c t ih =>
    show (Jvm.Cond.and c (allAtoms t)).before a st = _
    rw [Jvm.Cond.before_and, ih, List.all_cons]
def words1 : List Jvm.Cond := Jvm.Cond.code x code maxLocals ret :: tables_1
/-- a 'code' word, met by the world's own term for the bytes: nothing is compared byte by byte -/
theorem code_word {y : MethodName} {bytes : ByteArray} {mx : Nat} {rt : Option FieldType} {a : Array Value} {s : State} {m : MethodId} {meth : Method} {c : Code} (h1 : s.methodNamed? y = some m) (h2 : s.vm.method? m = some meth) (h3 : meth.code = some c) (h4 : c.code = bytes)
    (h5 : (c.maxLocals == mx && c.exceptionTable.isEmpty && decide (c.maxStack ≤ mostOperands) && decide (meth.sig.returnType = rt) && !meth.locks && decide (parseMethodDescriptor y.desc = some meth.sig)) = true) : (Jvm.Cond.code y bytes mx rt).before a s = true := by
  simp only [Bool.and_eq_true, beq_iff_eq, Bool.not_eq_true', decide_eq_true_eq] at h5
  obtain ⟨⟨⟨⟨⟨g1, g2⟩, g3⟩, g4⟩, g5⟩, g6⟩ := h5
  simp [Cond.before, Cond.holds, Cond.value, h1, h2, h3, h4, g1, g2, g3, g4, g5, g6]
def isCode : Jvm.Cond → Bool
  | .code _ _ _ _ => true
  | _ => false
theorem all_split {L : List Jvm.Cond} {P : Jvm.Cond → Bool} (h1 : L.all (fun c => isCode c || P c) = true) (h2 : ∀ c ∈ L.filter isCode, P c = true) : L.all P = true := by
  refine List.all_eq_true.mpr fun c hc => ?_
  have h := List.all_eq_true.mp h1 c hc
  rcases Bool.eq_false_or_eq_true (isCode c) with hi | hi
  · exact h2 c (List.mem_filter.mpr ⟨hc, hi⟩)
  · simpa [hi] using h
set_option maxRecDepth 65536 in
theorem w_c0 : (Jvm.Cond.code x code maxLocals ret).before args0 about1 = true := code_word (m := ⟨1, 1⟩) (meth := k1m1) (c := k1c1) (by decide +kernel) rfl rfl rfl (by decide +kernel)
set_option maxRecDepth 65536 in
theorem w_c1 : (Jvm.Cond.code ({ cls := "com/example/tick6/tick6/csv/CsvWriterNeedsQuotesPinLaw", name := "hit", desc := "(BIII)Z" } : Jvm.MethodName) method_3_code (4 : Nat) (Option.some Jvm.ClassFile.FieldType.boolean)).before args0 about1 = true := code_word (m := ⟨1, 2⟩) (meth := k1m2) (c := k1c2) (by decide +kernel) rfl rfl rfl (by decide +kernel)
set_option maxRecDepth 65536 in
theorem w_c2 : (Jvm.Cond.code ({ cls := "com/example/tick6/tick6/csv/CsvWriter", name := "needsQuotes", desc := "([BII)Z" } : Jvm.MethodName) prog_19_method_21_code (5 : Nat) (Option.some Jvm.ClassFile.FieldType.boolean)).before args0 about1 = true := code_word (m := ⟨3, 0⟩) (meth := k3m0) (c := k3c0) (by decide +kernel) rfl rfl rfl (by decide +kernel)
def codes1 : List Jvm.Cond := [Jvm.Cond.code x code maxLocals ret, Jvm.Cond.code ({ cls := "com/example/tick6/tick6/csv/CsvWriterNeedsQuotesPinLaw", name := "hit", desc := "(BIII)Z" } : Jvm.MethodName) method_3_code (4 : Nat) (Option.some Jvm.ClassFile.FieldType.boolean), Jvm.Cond.code ({ cls := "com/example/tick6/tick6/csv/CsvWriter", name := "needsQuotes", desc := "([BII)Z" } : Jvm.MethodName) prog_19_method_21_code (5 : Nat) (Option.some Jvm.ClassFile.FieldType.boolean)]
set_option maxRecDepth 65536 in
theorem codes_eq : words1.filter isCode = codes1 := rfl
theorem w_codes : ∀ c ∈ words1.filter isCode, c.before args0 about1 = true := by
  rw [codes_eq]
  intro c hc
  simp only [codes1, List.mem_cons, List.not_mem_nil, or_false] at hc
  rcases hc with rfl | rfl | rfl
  · exact w_c0
  · exact w_c1
  · exact w_c2
set_option maxRecDepth 65536 in
theorem w_t1 : words1.all (fun c => isCode c || c.before args0 about1) = true := by decide +kernel
theorem w_tables : (allAtoms (Jvm.Cond.code x code maxLocals ret :: tables_1)).before args0 about1 = true := by
  rw [allAtoms_all]
  show words1.all (fun c => c.before args0 about1) = true
  refine all_split ?_ w_codes
  rw [w_t1]
set_option maxRecDepth 65536 in
theorem w_case : (Jvm.Cond.and given_1 narrow_1).before args0 about1 = true := by decide +kernel
theorem w_applies : (headSpec (Jvm.Cond.code x code maxLocals ret :: tables_1) room_1).applies x e0.platform about1 = true :=
  (Spec.applies_iff w_frames).mpr ⟨w_running, w_runnable, w_alone, w_named, w_hears, w_ripe, w_room, w_tables⟩
theorem atStart : AtStart classFile x code maxLocals ret World_1 tables_1 room_1 Calls_1 rest_1 Pre_1 launch0 p0 e0 about1 theMethod args0 below0 :=
  ⟨lists_1, trivial, launch0.admits_env _ _ _, launch0.least_env, fairChoices_fair.cas, fairChoices_fair.clock, w_frames, w_args, w_heap, w_applies, trivial, trivial, w_case⟩
end start1
theorem witness_1 : WitnessClaimed_1 := ⟨start1.p0, start1.e0, start1.about1, start1.theMethod, start1.args0, start1.below0, start1.atStart⟩
end Jvm.Pilot.@@N@@
