import PyProof.Rows.All
import Wide.All
import OpenK.AllK
import Wide.FinOn
import Lean
import PySem.Challenge.RW_pe0170_02

set_option Elab.async false
set_option maxRecDepth 100000

namespace Mine
open PySem PySem.Calls PySem.Spec PyProof.Rows PySem.W

noncomputable abbrev Stays (h h' : Heap) : Prop := ∀ a o, h.get? a = some o → h'.get? a = some o
theorem Stays.refl (h : Heap) : Stays h h := fun _ _ e => e
theorem Stays.trans {h h' h'' : Heap} (x : Stays h h') (y : Stays h' h'') : Stays h h'' := fun a o e => y a o (x a o e)
theorem stays_push (h : Heap) (o : Obj) : Stays h (h.push o) := fun _ _ e => Heap.get?_push_of_some o e

/-- data read at a value, its lists at addresses of U -/
noncomputable def Rep (U : Addr → Prop) (h : Heap) (v : Value) (d : PyData) : Prop := ∃ as, Reads h v d as ∧ ∀ a ∈ as, U a
noncomputable def RepAll (U : Addr → Prop) (h : Heap) (vs : List Value) (ds : List PyData) : Prop := ∃ as, ReadsAll h vs ds as ∧ ∀ a ∈ as, U a

/-- the objects that bear data -/
noncomputable def IsDat (o : Obj) : Prop := (∃ vs n, o.data = .seq vs n) ∨ (∃ es n, o.data = .dict es n)
noncomputable def IsTupO (o : Obj) : Prop := o.cls = .type "tuple" ∧ ∃ vs n, o.data = .seq vs n
theorem reads_tr2 {h h' : Heap} {G : Addr → Prop} (k : ∀ a o, h.get? a = some o → IsDat o → (G a ∨ IsTupO o) → h'.get? a = some o) :
    (∀ v d as, Reads h v d as → (∀ a ∈ as, G a) → Reads h' v d as) ∧ (∀ vs ds as, ReadsAll h vs ds as → (∀ a ∈ as, G a) → ReadsAll h' vs ds as) := by
  have c5 : ∀ {a o vs n xs as}, h.get? a = some o → o.cls = .type "list" → o.data = .seq vs n → ReadsAll h vs.toList xs as → ((∀ a ∈ as, G a) → ReadsAll h' vs.toList xs as) → (∀ c ∈ a :: as, G c) → Reads h' (.ref a) (.list xs) (a :: as) :=
    fun e c d _ i u => .list (k _ _ e (.inl ⟨_, _, d⟩) (.inl (u _ List.mem_cons_self))) c d (i fun z hz => u z (List.mem_cons_of_mem _ hz))
  have c6 : ∀ {a o vs n xs as}, h.get? a = some o → o.cls = .type "tuple" → o.data = .seq vs n → ReadsAll h vs.toList xs as → ((∀ a ∈ as, G a) → ReadsAll h' vs.toList xs as) → (∀ c ∈ as, G c) → Reads h' (.ref a) (.tuple xs) as :=
    fun e c d _ i u => .tuple (k _ _ e (.inl ⟨_, _, d⟩) (.inr ⟨c, _, _, d⟩)) c d (i u)
  have c7 : ∀ {a o es n} {kvs : List (PyData × PyData)} {as bs}, h.get? a = some o → o.cls = .type "dict" → o.data = .dict es n → ReadsAll h (es.toList.map (·.key)) (kvs.map (·.1)) as → ReadsAll h (es.toList.map (·.val)) (kvs.map (·.2)) bs →
      ((∀ a ∈ as, G a) → ReadsAll h' (es.toList.map (·.key)) (kvs.map (·.1)) as) → ((∀ a ∈ bs, G a) → ReadsAll h' (es.toList.map (·.val)) (kvs.map (·.2)) bs) → (∀ c ∈ a :: as ++ bs, G c) → Reads h' (.ref a) (.dict kvs) (a :: as ++ bs) :=
    fun e c d _ _ i j u => .dict (k _ _ e (.inr ⟨_, _, d⟩) (.inl (u _ (List.mem_append_left _ List.mem_cons_self)))) c d (i fun z hz => u z (List.mem_append_left _ (List.mem_cons_of_mem _ hz))) (j fun z hz => u z (List.mem_append_right _ hz))
  have c9 : ∀ {v vs d ds as bs}, Reads h v d as → ReadsAll h vs ds bs → ((∀ a ∈ as, G a) → Reads h' v d as) → ((∀ a ∈ bs, G a) → ReadsAll h' vs ds bs) → (∀ c ∈ as ++ bs, G c) → ReadsAll h' (v :: vs) (d :: ds) (as ++ bs) :=
    fun _ _ i j u => .cons (i fun z hz => u z (List.mem_append_left _ hz)) (j fun z hz => u z (List.mem_append_right _ hz))
  exact ⟨fun _ _ _ r => Reads.rec (motive_1 := fun v d as _ => (∀ a ∈ as, G a) → Reads h' v d as) (motive_2 := fun vs ds as _ => (∀ a ∈ as, G a) → ReadsAll h' vs ds as) (fun _ => .none) (fun b _ => .bool b) (fun i t _ => .int i t) (fun x t _ => .str x t) c5 c6 c7 (fun _ => .nil) c9 r,
    fun _ _ _ r => ReadsAll.rec (motive_1 := fun v d as _ => (∀ a ∈ as, G a) → Reads h' v d as) (motive_2 := fun vs ds as _ => (∀ a ∈ as, G a) → ReadsAll h' vs ds as) (fun _ => .none) (fun b _ => .bool b) (fun i t _ => .int i t) (fun x t _ => .str x t) c5 c6 c7 (fun _ => .nil) c9 r⟩
theorem reads_dat2 {h : Heap} : (∀ v d as, Reads h v d as → ∀ a ∈ as, ∃ o, h.get? a = some o ∧ IsDat o) ∧ (∀ vs ds as, ReadsAll h vs ds as → ∀ a ∈ as, ∃ o, h.get? a = some o ∧ IsDat o) := by
  have c0 : ∀ a ∈ ([] : List Addr), ∃ o, h.get? a = some o ∧ IsDat o := fun _ m => nomatch m
  have cc : ∀ {as bs : List Addr}, (∀ a ∈ as, ∃ o, h.get? a = some o ∧ IsDat o) → (∀ a ∈ bs, ∃ o, h.get? a = some o ∧ IsDat o) → ∀ a ∈ as ++ bs, ∃ o, h.get? a = some o ∧ IsDat o := fun i j a m => (List.mem_append.mp m).elim (i a) (j a)
  have c1 : ∀ {a o} {as : List Addr}, h.get? a = some o → IsDat o → (∀ a ∈ as, ∃ o, h.get? a = some o ∧ IsDat o) → ∀ c ∈ a :: as, ∃ o, h.get? c = some o ∧ IsDat o := fun e d i c m => (List.mem_cons.mp m).elim (fun q => q ▸ ⟨_, e, d⟩) (i c)
  exact ⟨fun _ _ _ r => Reads.rec (motive_1 := fun v d as _ => ∀ a ∈ as, ∃ o, h.get? a = some o ∧ IsDat o) (motive_2 := fun vs ds as _ => ∀ a ∈ as, ∃ o, h.get? a = some o ∧ IsDat o) c0 (fun _ => c0) (fun _ _ => c0) (fun _ _ => c0) (fun e _ d _ i => c1 e (.inl ⟨_, _, d⟩) i) (fun _ _ _ _ i => i) (fun e _ d _ _ i j => cc (c1 e (.inr ⟨_, _, d⟩) i) j) c0 (fun _ _ i j => cc i j) r,
    fun _ _ _ r => ReadsAll.rec (motive_1 := fun v d as _ => ∀ a ∈ as, ∃ o, h.get? a = some o ∧ IsDat o) (motive_2 := fun vs ds as _ => ∀ a ∈ as, ∃ o, h.get? a = some o ∧ IsDat o) c0 (fun _ => c0) (fun _ _ => c0) (fun _ _ => c0) (fun e _ d _ i => c1 e (.inl ⟨_, _, d⟩) i) (fun _ _ _ _ i => i) (fun e _ d _ _ i j => cc (c1 e (.inr ⟨_, _, d⟩) i) j) c0 (fun _ _ i j => cc i j) r⟩
theorem reads_stays {h h' : Heap} (k : Stays h h') {v d as} (r : Reads h v d as) : Reads h' v d as := (reads_tr2 (G := fun _ => True) fun a o e _ _ => k a o e).1 _ _ _ r fun _ _ => trivial
theorem readsAll_stays {h h' : Heap} (k : Stays h h') {vs ds as} (r : ReadsAll h vs ds as) : ReadsAll h' vs ds as := (reads_tr2 (G := fun _ => True) fun a o e _ _ => k a o e).2 _ _ _ r fun _ _ => trivial

/-- a changed address that bears no tuple -/
noncomputable def NoTup (h : Heap) (a : Addr) : Prop := ∀ o vs n, h.get? a = some o → o.cls = .type "tuple" → o.data ≠ .seq vs n
theorem but_tr {h h' : Heap} {b : Addr} (hs : Heap.SameBut b h h') (hb : NoTup h b) (a : Addr) (o : Obj) (e : h.get? a = some o) (_ : IsDat o) (g : a ≠ b ∨ IsTupO o) : h'.get? a = some o :=
  (hs.2 a fun q => g.elim (fun n => n q) fun ⟨c, _, _, d⟩ => hb _ _ _ (q ▸ e) c d).trans e
theorem reads_but {h h' : Heap} {b : Addr} (hs : Heap.SameBut b h h') (hb : NoTup h b) {v d as} (r : Reads h v d as) (n : b ∉ as) : Reads h' v d as := (reads_tr2 (but_tr hs hb)).1 _ _ _ r fun _ m q => n (q ▸ m)
theorem readsAll_but {h h' : Heap} {b : Addr} (hs : Heap.SameBut b h h') (hb : NoTup h b) {vs ds as} (r : ReadsAll h vs ds as) (n : b ∉ as) : ReadsAll h' vs ds as := (reads_tr2 (but_tr hs hb)).2 _ _ _ r fun _ m q => n (q ▸ m)

section
variable {U U' : Addr → Prop} {h h' : Heap} {v : Value} {d : PyData} {vs ws : List Value} {ds es : List PyData}
theorem Rep.stays (k : Stays h h') (x : Rep U h v d) : Rep U h' v d := let ⟨as, r, u⟩ := x; ⟨as, reads_stays k r, u⟩
theorem RepAll.stays (k : Stays h h') (x : RepAll U h vs ds) : RepAll U h' vs ds := let ⟨as, r, u⟩ := x; ⟨as, readsAll_stays k r, u⟩
theorem Rep.mono (k : ∀ a, U a → U' a) (x : Rep U h v d) : Rep U' h v d := let ⟨as, r, u⟩ := x; ⟨as, r, fun a m => k a (u a m)⟩
theorem RepAll.mono (k : ∀ a, U a → U' a) (x : RepAll U h vs ds) : RepAll U' h vs ds := let ⟨as, r, u⟩ := x; ⟨as, r, fun a m => k a (u a m)⟩
theorem Rep.but {b : Addr} (hs : Heap.SameBut b h h') (hb : NoTup h b) (n : ¬ U b) (x : Rep U h v d) : Rep U h' v d :=
  let ⟨as, r, u⟩ := x; ⟨as, reads_but hs hb r fun m => n (u b m), u⟩
theorem RepAll.but {b : Addr} (hs : Heap.SameBut b h h') (hb : NoTup h b) (n : ¬ U b) (x : RepAll U h vs ds) : RepAll U h' vs ds :=
  let ⟨as, r, u⟩ := x; ⟨as, readsAll_but hs hb r fun m => n (u b m), u⟩
theorem RepAll.nil : RepAll U h [] [] := ⟨[], .nil, fun _ m => nomatch m⟩
theorem RepAll.cons (x : Rep U h v d) (y : RepAll U h vs ds) : RepAll U h (v :: vs) (d :: ds) :=
  let ⟨as, r, u⟩ := x; let ⟨bs, q, z⟩ := y; ⟨as ++ bs, .cons r q, fun a m => (List.mem_append.mp m).elim (u a) (z a)⟩
theorem RepAll.head (x : RepAll U h (v :: vs) (d :: ds)) : Rep U h v d := by
  obtain ⟨as, r, u⟩ := x
  cases r with
  | cons r q => exact ⟨_, r, fun a m => u a (List.mem_append_left _ m)⟩
theorem RepAll.tail (x : RepAll U h (v :: vs) (d :: ds)) : RepAll U h vs ds := by
  obtain ⟨as, r, u⟩ := x
  cases r with
  | cons r q => exact ⟨_, q, fun a m => u a (List.mem_append_right _ m)⟩
theorem RepAll.length : ∀ {vs : List Value} {ds : List PyData}, RepAll U h vs ds → vs.length = ds.length
  | _, _, ⟨_, .nil, _⟩ => rfl
  | _, _, ⟨_, .cons r q, u⟩ => by
    rw [List.length_cons, List.length_cons, RepAll.length ⟨_, q, fun a m => u a (List.mem_append_right _ m)⟩]
theorem RepAll.append : ∀ {vs : List Value} {ds : List PyData}, RepAll U h vs ds → RepAll U h ws es → RepAll U h (vs ++ ws) (ds ++ es)
  | [], [], _, y => y
  | [], _ :: _, x, _ => by have := x.length; simp at this
  | _ :: _, [], x, _ => by have := x.length; simp at this
  | _ :: _, _ :: _, x, y => .cons x.head (x.tail.append y)
theorem RepAll.get : ∀ {vs : List Value} {ds : List PyData} {i : Nat} {d : PyData}, RepAll U h vs ds → ds[i]? = some d → ∃ v, vs[i]? = some v ∧ Rep U h v d
  | [], [], _, _, _, e => by simp at e
  | [], _ :: _, _, _, x, _ => by have := x.length; simp at this
  | _ :: _, [], _, _, x, _ => by have := x.length; simp at this
  | v :: _, _ :: _, 0, _, x, e => ⟨v, rfl, by simp at e; exact e ▸ x.head⟩
  | _ :: _, _ :: _, i + 1, _, x, e => by
    obtain ⟨v, e', r⟩ := x.tail.get (i := i) (by simpa using e)
    exact ⟨v, by simpa using e', r⟩
theorem RepAll.get' : ∀ {vs : List Value} {ds : List PyData} {i : Nat} {v : Value}, RepAll U h vs ds → vs[i]? = some v → ∃ d, ds[i]? = some d ∧ Rep U h v d
  | [], [], _, _, _, e => by simp at e
  | [], _ :: _, _, _, x, _ => by have := x.length; simp at this
  | _ :: _, [], _, _, x, _ => by have := x.length; simp at this
  | _ :: _, d :: _, 0, _, x, e => ⟨d, rfl, by simp at e; exact e ▸ x.head⟩
  | _ :: _, _ :: _, i + 1, _, x, e => by
    obtain ⟨d, e', r⟩ := x.tail.get' (i := i) (by simpa using e)
    exact ⟨d, by simpa using e', r⟩
theorem RepAll.take : ∀ (n : Nat) {vs : List Value} {ds : List PyData}, RepAll U h vs ds → RepAll U h (vs.take n) (ds.take n)
  | 0, _, _, _ => by simp; exact .nil
  | n + 1, [], [], _ => by simp; exact .nil
  | _ + 1, [], _ :: _, x => by have := x.length; simp at this
  | _ + 1, _ :: _, [], x => by have := x.length; simp at this
  | n + 1, _ :: _, _ :: _, x => by simp; exact .cons x.head (x.tail.take n)
theorem RepAll.drop : ∀ (n : Nat) {vs : List Value} {ds : List PyData}, RepAll U h vs ds → RepAll U h (vs.drop n) (ds.drop n)
  | 0, _, _, x => by simpa using x
  | n + 1, [], [], _ => by simp; exact .nil
  | _ + 1, [], _ :: _, x => by have := x.length; simp at this
  | _ + 1, _ :: _, [], x => by have := x.length; simp at this
  | n + 1, _ :: _, _ :: _, x => by simp; exact x.tail.drop n
theorem RepAll.reverse : ∀ {vs : List Value} {ds : List PyData}, RepAll U h vs ds → RepAll U h vs.reverse ds.reverse
  | [], [], _ => .nil
  | [], _ :: _, x => by have := x.length; simp at this
  | _ :: _, [], x => by have := x.length; simp at this
  | _ :: _, _ :: _, x => by simp; exact x.tail.reverse.append (.cons x.head .nil)
theorem Rep.none' : Rep U h .none .none := ⟨[], .none, fun _ m => nomatch m⟩
theorem Rep.bool (b : Bool) : Rep U h (.bool b) (.bool b) := ⟨[], .bool b, fun _ m => nomatch m⟩
theorem Rep.int (i : Int) (t : Tok) : Rep U h (.int i t) (.int i) := ⟨[], .int i t, fun _ m => nomatch m⟩
theorem Rep.str (x : Str) (t : Tok) : Rep U h (.str x t) (.str x) := ⟨[], .str x t, fun _ m => nomatch m⟩
theorem Rep.tuple {a : Addr} {vs : List Value} (e : h.IsTuple a vs.toArray) (r : RepAll U h vs ds) : Rep U h (.ref a) (.tuple ds) := by
  obtain ⟨as, r, u⟩ := r
  obtain ⟨o, ho, hc, n, hd⟩ := e
  exact ⟨as, .tuple ho hc hd (by simpa using r), u⟩
theorem Rep.list {a : Addr} {vs : List Value} (e : h.IsList a vs.toArray) (r : RepAll U h vs ds) (ua : U a) : Rep U h (.ref a) (.list ds) := by
  obtain ⟨as, r, u⟩ := r
  obtain ⟨o, ho, hc, n, hd⟩ := e
  exact ⟨a :: as, .list ho hc hd (by simpa using r), fun b m => (List.mem_cons.mp m).elim (fun q => q ▸ ua) (u b)⟩
theorem Rep.listInv (x : Rep U h v (.list ds)) : ∃ a vs, v = .ref a ∧ h.IsList a vs.toArray ∧ RepAll U h vs ds ∧ U a := by
  obtain ⟨as, r, u⟩ := x
  cases r with
  | list ho hc hd q => exact ⟨_, _, rfl, ⟨_, ho, hc, _, by simpa using hd⟩, ⟨_, q, fun a m => u a (List.mem_cons_of_mem _ m)⟩, u _ List.mem_cons_self⟩
theorem Rep.tupleInv (x : Rep U h v (.tuple ds)) : ∃ a vs, v = .ref a ∧ h.IsTuple a vs.toArray ∧ RepAll U h vs ds := by
  obtain ⟨as, r, u⟩ := x
  cases r with
  | tuple ho hc hd q => exact ⟨_, _, rfl, ⟨_, ho, hc, _, by simpa using hd⟩, ⟨_, q, u⟩⟩
theorem Rep.intInv {i : Int} (x : Rep U h v (.int i)) : ∃ t, v = .int i t := by
  obtain ⟨as, r, u⟩ := x; cases r; exact ⟨_, rfl⟩
theorem Rep.strInv {i : Str} (x : Rep U h v (.str i)) : ∃ t, v = .str i t := by
  obtain ⟨as, r, u⟩ := x; cases r; exact ⟨_, rfl⟩
theorem Rep.boolInv {i : Bool} (x : Rep U h v (.bool i)) : v = .bool i := by
  obtain ⟨as, r, u⟩ := x; cases r; rfl
theorem Rep.noneInv (x : Rep U h v .none) : v = .none := by
  obtain ⟨as, r, u⟩ := x; cases r; rfl
end
/-! what an answer says of a choice -/
theorem iteS {c : Prop} [Decidable c] {α : Type} {x : Option α} {y : α} (h : (if c then x else none) = some y) : c ∧ x = some y := by
  by_cases z : c
  · rw [if_pos z] at h; exact ⟨z, h⟩
  · rw [if_neg z] at h; cases h
theorem iteN {c : Prop} [Decidable c] {α : Type} {x : Option α} {y : α} (h : (if c then none else x) = some y) : ¬c ∧ x = some y := by
  by_cases z : c
  · rw [if_pos z] at h; cases h
  · rw [if_neg z] at h; exact ⟨z, h⟩
theorem noSome {α : Type} {y : α} {p : Prop} (h : (none : Option α) = some y) : p := by cases h
end Mine

namespace Mine
open PySem PySem.Calls PySem.Spec PyProof.Rows PySem.W

/-! the evaluator: plain data in, plain data out -/
inductive Ent where
  | val (d : PyData)
  | own (ds : List PyData)
  | hdr (ps : List PyData)
  | slf (ps : List PyData)
noncomputable abbrev Rho := List (Str × Ent)
inductive Md where
  | value | read | truth
/-- what is known of the calls: functions by name; and, ahead of the evaluator's own rules, expressions of any other kind -/
structure Tab where
  fn : Str → List PyData → Option PyData
  hook : (Md → Scope → Rho → Expr → Option PyData) → Scope → Rho → Expr → Option PyData
noncomputable def isFresh : Expr → Bool
  | .List .. => true
  | .ListComp .. => true
  | .SetComp .. => true
  | .DictComp .. => true
  | .BinOp _ .Add _ _ => true
  | .Subscript _ (.Slice ..) _ => true
  | .Call (.Name f _) _ [] _ => f == ("list" : Str)
  | _ => false

noncomputable def Rho.set (ρ : Rho) (x : Str) (e : Ent) : Rho := (x, e) :: ρ.filter fun p => !(p.1 == x)

noncomputable def isVar : Option NameKind → Bool
  | some .local => true
  | some .cell => true
  | some .free => true
  | _ => false
noncomputable def okName (x : Str) : Bool := !(x == ("__debug__" : Str)) && !(x == ("__classdict__" : Str))
noncomputable def look (sc : Scope) (ρ : Rho) (x : Str) : Option Ent := if isVar (sc.names.lookup x) && okName x then ρ.lookup x else none
noncomputable def nameD (rd : Bool) (sc : Scope) (ρ : Rho) (x : Str) : Option PyData :=
  match look sc ρ x with
  | some (.val d) => some d
  | some (.own ds) => if rd then some (.list ds) else none
  | _ => none

noncomputable def constD : Const → Option PyData
  | .none => some .none
  | .bool b => some (.bool b)
  | .int i => some (.int i)
  | .str x => some (.str x)
  | _ => none

noncomputable def top : Nat := 1048576
noncomputable def mkList (ds : List PyData) : Option PyData := if ds.length ≤ top then some (.list ds) else none
noncomputable def smallD (d : PyData) : Bool := d.canLay0 && decide (d.depth ≤ 64)

noncomputable def mulOk (a : Int) : Bool := decide (a.natAbs < 1073741824)
noncomputable def divOk (b : Int) : Bool := decide (b.natAbs < 1073741824) && decide (b ≠ 0)
noncomputable def powOk (a b : Int) : Bool := decide (0 ≤ b) && decide (b ≤ 6) && decide (a.natAbs ≤ 16)
noncomputable def intsD (f : Int → Int → Option PyData) (a b : PyData) : Option PyData := match a with
  | .int i => (match b with
    | .int j => f i j
    | _ => none)
  | _ => none
theorem intsD_eq {f : Int → Int → Option PyData} {a b d : PyData} (q : intsD f a b = some d) : ∃ i j, a = .int i ∧ b = .int j ∧ f i j = some d := by
  cases a with
  | int i =>
    cases b with
    | int j => exact ⟨_, _, rfl, rfl, q⟩
    | _ => exact noSome q
  | _ => exact noSome q
noncomputable def addD (a b : PyData) : Option PyData := match a with
  | .int _ => intsD (fun i j => some (.int (i + j))) a b
  | .str x => (match b with
    | .str y => if x.length + y.length ≤ top then some (.str (x ++ y)) else none
    | _ => none)
  | .list l => (match b with
    | .list m => mkList (l ++ m)
    | _ => none)
  | _ => none
noncomputable def binD (op : Operator) (a b : PyData) : Option PyData := match op with
  | .Add => addD a b
  | .Sub => intsD (fun a b => some (.int (a - b))) a b
  | .Mult => intsD (fun a b => if mulOk a then some (.int (a * b)) else none) a b
  | .FloorDiv => intsD (fun a b => if divOk b then some (.int (a.fdiv b)) else none) a b
  | .Mod => intsD (fun a b => if b = 0 then none else some (.int (a.fmod b))) a b
  | .Pow => intsD (fun a b => if powOk a b then some (.int (a ^ b.toNat)) else none) a b
  | _ => none
noncomputable def negD : PyData → Option PyData
  | .int a => some (.int (-a))
  | _ => none

noncomputable def isNoneD : PyData → Bool
  | .none => true
  | _ => false
noncomputable def cmpD (op : CmpOp) (a b : PyData) : Option PyData := match op with
  | .Eq => if smallD a && smallD b then some (.bool (PyData.eqv a b)) else none
  | .NotEq => if smallD a && smallD b then some (.bool (!PyData.eqv a b)) else none
  | .Is => (match b with
    | .none => some (.bool (isNoneD a))
    | _ => none)
  | .IsNot => (match b with
    | .none => some (.bool (!isNoneD a))
    | _ => none)
  | .Lt => intsD (fun a b => some (.bool (decide (a < b)))) a b
  | .Gt => intsD (fun a b => some (.bool (decide (b < a)))) a b
  | .In => (match b with
    | .list xs => if smallD a && smallD (.list xs) then some (.bool (xs.any fun y => PyData.eqv y a)) else none
    | _ => none)
  | .NotIn => (match b with
    | .list xs => if smallD a && smallD (.list xs) then some (.bool (!xs.any fun y => PyData.eqv y a)) else none
    | _ => none)
  | _ => none

noncomputable def truthD : PyData → Option Bool
  | .bool b => some b
  | .int i => some (!(i == 0))
  | _ => none

noncomputable def idxOk (i : Int) : Bool := decide (i.natAbs < 2 ^ 60)
noncomputable def idxD : PyData → PyData → Option PyData
  | .list ds, .int i => if idxOk i then (seqIndex? i ds.length).bind fun k => ds[k]? else none
  | .tuple ds, .int i => if idxOk i then (seqIndex? i ds.length).bind fun k => ds[k]? else none
  | .str x, .int i => if idxOk i then ((seqIndex? i x.length).bind fun k => x.cps[k]?).map fun c => .str ⟨#[c]⟩ else none
  | _, _ => none
noncomputable def cutL (ds : List PyData) (lo hi : Option Int) : List PyData :=
  (ds.drop (lo.elim 0 (clipAt ds.length))).take (hi.elim ds.length (clipAt ds.length) - lo.elim 0 (clipAt ds.length))
noncomputable def cutD (d : PyData) (lo hi st : Option Int) : Option PyData :=
  match d, lo, hi, st with
  | .list ds, lo, hi, none => if ds.length ≤ top then some (.list (cutL ds lo hi)) else none
  | .list ds, none, none, some (.negSucc 0) => if ds.length ≤ top then some (.list ds.reverse) else none
  | _, _, _, _ => none

noncomputable def lenD : PyData → Option PyData
  | .list ds => if ds.length ≤ top then some (.int ds.length) else none
  | _ => none
noncomputable def copyD : PyData → Option PyData
  | .list ds => mkList ds
  | _ => none
noncomputable def caseD (m : Str) : PyData → Option PyData
  | .str x => if x.length ≤ 1000 then
      (if m == ("lower" : Str) then some (.str (Txt.lower x)) else if m == ("upper" : Str) then some (.str (Txt.upper x)) else if m == ("swapcase" : Str) then some (.str (Txt.swapcase x)) else none) else none
  | _ => none

noncomputable def relabelS (scope sc : Scope) : Scope :=
  { scope with names := scope.names.map fun (n, k) => if (k == .free && sc.kind == .function && sc.names.lookup n == some .cell) then (n, .cell) else (n, k) }

/-- what a target binds -/
noncomputable def nameOfE : Expr → Option Str
  | .Name x _ => some x
  | _ => none
noncomputable def bindD : Expr → PyData → Option (List (Str × PyData))
  | .Name x _, d => some [(x, d)]
  | .Tuple es _ _, .tuple ds => (es.mapM nameOfE).bind fun xs => if xs.length = ds.length then some (xs.zip ds) else none
  | .Tuple es _ _, .list ds => (es.mapM nameOfE).bind fun xs => if xs.length = ds.length then some (xs.zip ds) else none
  | _, _ => none
noncomputable def Rho.sets (ρ : Rho) (b : List (Str × PyData)) : Rho := b.foldl (fun ρ p => ρ.set p.1 (.val p.2)) ρ

noncomputable def isSet : Expr → Bool
  | .Set .. => true
  | _ => false
noncomputable def isStar : Expr → Bool
  | .Starred .. => true
  | _ => false
section
variable (r : Md → Scope → Rho → Expr → Option PyData)
noncomputable def evL (sc : Scope) (ρ : Rho) : List Expr → Option (List PyData)
  | [] => some []
  | e :: es => if isStar e then none else (r .value sc ρ e).bind fun d => (evL sc ρ es).bind fun ds => some (d :: ds)
noncomputable def evO (sc : Scope) (ρ : Rho) : Option Expr → Option (Option Int)
  | none => some none
  | some e => (r .value sc ρ e).bind fun d => match d with | .int i => some (some i) | _ => none
noncomputable def evTests (sc : Scope) (ρ : Rho) : List Expr → Option Bool
  | [] => some true
  | [e] => (r .truth sc ρ e).bind truthD
  | _ => none
/-- the items of what is walked -/
noncomputable def itemsD (sc : Scope) (ρ : Rho) (e : Expr) : Option (List PyData) :=
  match e with
  | .Call (.Name f _) [a] [] _ => if f == ("range" : Str) && (sc.names.lookup f == some .globalImplicit) && !isStar a then
      (r .value sc ρ a).bind fun d => match d with
        | .int k => if decide (0 ≤ k) && decide (k ≤ top) then some ((List.range k.toNat).map fun (i : Nat) => PyData.int (i : Int)) else none
        | _ => none
    else (r .value sc ρ e).bind fun d => match d with | .list ds => some ds | _ => none
  | _ => if isSet e then none else (r .value sc ρ e).bind fun d => match d with | .list ds => some ds | _ => none
noncomputable def own1 (scope : Scope) (x : Str) : Bool := match scope.names.lookup x with | some .local => true | some .cell => true | _ => false
/-- a comprehension's clauses behind the first source: what is appended, in order -/
noncomputable def evG (scope sc : Scope) (elt : Expr) : List Comprehension → Rho → Option (List PyData) → Option (List PyData)
  | [], ρ, _ => (r .value sc ρ elt).map fun d => [d]
  | g :: gs, ρ, items => (items.bind fun items =>
      items.foldr (fun d acc => (bindD g.target d).bind fun b => if b.all fun p => own1 scope p.1 && (ρ.lookup p.1).isNone then
        (evTests r sc (ρ.sets b) g.ifs).bind fun t => if t then
            (evG scope sc elt gs (ρ.sets b) (match gs with | [] => none | g' :: _ => itemsD r sc (ρ.sets b) g'.iter)).bind fun l => acc.map (l ++ ·)
          else acc
        else none) (some []))
end

noncomputable def okBase : Expr → Bool
  | .Name .. => true
  | .Constant .. => true
  | .Subscript .. => true
  | _ => false

section
variable (r : Md → Scope → Rho → Expr → Option PyData) (Φ : Tab) (srt : PyData → Option PyData)
noncomputable def evCall (sc : Scope) (ρ : Rho) (f : Str) (args : List Expr) : Option PyData :=
  if (sc.names.lookup f == some .globalImplicit) && okName f then
    (if f == ("len" : Str) then (match args with | [a] => if isStar a then none else (r .read sc ρ a).bind lenD | _ => none)
    else if f == ("list" : Str) then (match args with | [a] => if isStar a then none else (r .read sc ρ a).bind copyD | _ => none)
    else if f == ("sorted" : Str) then (match args with | [a] => if isStar a then none else (r .read sc ρ a).bind srt | _ => none)
    else (match args with | [] => none | _ => (evL r sc ρ args).bind (Φ.fn f)))
  else none
noncomputable def isVal : Ent → Bool
  | .val _ => true
  | _ => false
noncomputable def compRho (scope : Scope) (ρ : Rho) : Rho := scope.names.filterMap fun p => if p.2 == .free then (match ρ.lookup p.1 with | some (.val d) => some (p.1, .val d) | _ => none) else none
noncomputable def zName : Str := ⟨#[]⟩
noncomputable def isCF : Option NameKind → Bool
  | some .cell => true
  | some .free => true
  | _ => false
noncomputable def scopeOk (scope sc : Scope) : Bool := (scope.kind == .function) && (scope.names.lookup zName).isNone && scope.names.all fun p => (scope.names.lookup p.1 == some p.2) && (!(p.2 == .free) || isCF (sc.names.lookup p.1))
noncomputable def evComp (sc : Scope) (ρ : Rho) (elt : Expr) (gens : List Comprehension) (scope : Scope) : Option PyData :=
  match gens with
  | [] => none
  | g :: _ => if scopeOk scope sc && gens.all fun g => g.is_async == 0 then
      (evG r scope (relabelS scope sc) elt gens (compRho scope ρ) (itemsD r sc ρ g.iter)).bind mkList else none

noncomputable def evCallX (sc : Scope) (ρ : Rho) (f : Expr) (args : List Expr) (kws : List Keyword) (p : Pos) : Option PyData :=
  if kws.isEmpty then (match f with
    | .Name f _ => evCall r Φ srt sc ρ f args
    | .Attribute o m ap => if args.isEmpty && okBase o && (ap.endLine == p.line) then (r .value sc ρ o).bind (caseD m) else none
    | _ => none) else none
noncomputable def evCmp (sc : Scope) (ρ : Rho) (a : Expr) (ops : List CmpOp) (bs : List Expr) : Option PyData :=
  match ops with
  | [op] => (match bs with
    | [b] => if isSet b then none else (r .read sc ρ a).bind fun x => (r .read sc ρ b).bind fun y => cmpD op x y
    | _ => none)
  | _ => none
noncomputable def evSub (sc : Scope) (ρ : Rho) (v i : Expr) : Option PyData :=
  match i with
  | .Slice lo hi st _ => (r .read sc ρ v).bind fun d => (evO r sc ρ lo).bind fun l => (evO r sc ρ hi).bind fun h => (evO r sc ρ st).bind fun t => cutD d l h t
  | i => (r .read sc ρ v).bind fun d => (r .value sc ρ i).bind fun k => idxD d k
noncomputable def evV (rd : Bool) (sc : Scope) (ρ : Rho) : Expr → Option PyData
  | .Constant c _ _ => constD c
  | .Name x _ => nameD rd sc ρ x
  | .BinOp a op b _ => (r .read sc ρ a).bind fun x => (r .read sc ρ b).bind fun y => binD op x y
  | .UnaryOp op a _ => (match op with | .USub => (r .value sc ρ a).bind negD | _ => none)
  | .Compare a ops bs _ => evCmp r sc ρ a ops bs
  | .IfExp t a b _ => (r .truth sc ρ t).bind fun c => match c with | .bool true => r .value sc ρ a | .bool false => r .value sc ρ b | _ => none
  | .Subscript v i _ => evSub r sc ρ v i
  | .List es _ => (evL r sc ρ es).bind mkList
  | .Tuple es _ _ => (evL r sc ρ es).bind fun ds => if ds.length ≤ top then some (.tuple ds) else none
  | .Call f args kws p => evCallX r Φ srt sc ρ f args kws p
  | .ListComp elt gens scope _ => evComp r sc ρ elt gens scope
  | _ => none

noncomputable def evB (op : BoolOp) (sc : Scope) (ρ : Rho) : List Expr → Option Bool
  | [] => some (op == .And)
  | e :: es => (r .truth sc ρ e).bind fun d => (truthD d).bind fun b => match op, b with
      | .And, false => some false
      | .Or, true => some true
      | _, _ => evB op sc ρ es
noncomputable def evT (sc : Scope) (ρ : Rho) : Expr → Option PyData
  | .UnaryOp op a _ => (match op with | .Not => (r .truth sc ρ a).bind fun d => (truthD d).map fun b => .bool (!b) | _ => none)
  | .BoolOp op es _ => (evB r op sc ρ es).map .bool
  | .Compare a ops bs _ => (match ops with
    | [op] => (match bs with
      | [b] => if isSet b then none else (r .read sc ρ a).bind fun x => (r .read sc ρ b).bind fun y => (cmpD op x y).bind fun d => (truthD d).map .bool
      | _ => none)
    | _ => none)
  | .Name x _ => (nameD false sc ρ x).bind fun d => (truthD d).map .bool
  | .Subscript v i p => (r .value sc ρ (.Subscript v i p)).bind fun d => (truthD d).map .bool
  | _ => none
noncomputable def evStep (md : Md) (sc : Scope) (ρ : Rho) (e : Expr) : Option PyData :=
  match md with
  | .value => if isFresh e then evV r Φ srt false sc ρ e else (Φ.hook r sc ρ e).or (evV r Φ srt false sc ρ e)
  | .read => if isFresh e then evV r Φ srt true sc ρ e else (Φ.hook r sc ρ e).or (evV r Φ srt true sc ρ e)
  | .truth => evT r sc ρ e
end
noncomputable def ev (Φ : Tab) (srt : PyData → Option PyData) : Nat → Md → Scope → Rho → Expr → Option PyData
  | 0, _, _, _, _ => none
  | n + 1, md, sc, ρ, e => evStep (ev Φ srt n) Φ srt md sc ρ e
end Mine

namespace Mine
open PySem PySem.Calls PySem.Spec PyProof.Rows PySem.W

noncomputable abbrev NoE : Value → Shared → Prop := fun _ _ => False

structure Room (A : Around) (k : Nat) : Prop where
  handled : A.handled = none
  depth : A.depth + k < recursionLimit
  units : A.units + 200 + 10 * k < cLine

theorem Room.cl {A : Around} {k : Nat} (r : Room A k) (n : Nat) (h : n ≤ 200) : A.units + n < cLine := by
  have := r.units; omega

/-- the top's facts that the evaluator's calls lean on -/
structure Ground0 (mg mb : Str → Option Value) (H0 : Heap) : Prop where
  g : H0.Ns mainGlobals mg
  b : H0.Ns builtinsNs mb
  nolimit : H0.NoLimit
  len : mg ("len" : Str) = none ∧ mb ("len" : Str) = some (.builtin "len")
  list : mg ("list" : Str) = none ∧ mb ("list" : Str) = some (.type "list")
  sorted : mg ("sorted" : Str) = none ∧ mb ("sorted" : Str) = some (.builtin "sorted")
  range : mg ("range" : Str) = none ∧ mb ("range" : Str) = some (.type "range")

noncomputable def VarHas (h : Heap) (env : Env) (x : Str) (v : Value) : Prop :=
  (env.kindOf x = some .local ∧ ∃ m, h.Ns env.locals m ∧ m x = some v) ∨
  ((env.kindOf x = some .cell ∨ env.kindOf x = some .free) ∧ ∃ c, env.cells.lookup x = some c ∧ h.IsCell c (some v))
theorem VarHas.stays {h h' : Heap} {env : Env} {x : Str} {v : Value} (k : Stays h h') (a : VarHas h env x v) : VarHas h' env x v := by
  rcases a with ⟨hk, m, n, e⟩ | ⟨hk, c, e, i⟩
  · exact .inl ⟨hk, m, n.keeps k, e⟩
  · exact .inr ⟨hk, c, e, i.keeps k⟩

/-- the class, and which object may have which list -/
structure Cls where
  addr : Addr
  ok : Addr → Addr → Prop
/-- a table object: its pairs' list at l -/
inductive HdrAt (Ca : Addr) (h : Heap) (x l : Addr) : Prop
  | mk (dx : Addr) (hs : _) (t : _) (e : h.get? x = some (instObj Ca dx)) (f : h.get? dx = some (dictOf [⟨hs, .str "_headers" t, .ref l⟩] 1))

inductive OwnR (U : Addr → Prop) (h : Heap) (v : Value) (ds : List PyData) : Prop
  | mk (a : Addr) (vs : List Value) (e : v = .ref a) (l : h.IsList a vs.toArray) (r : RepAll U h vs ds)
inductive HdrR (C : Cls) (U : Addr → Prop) (h : Heap) (v : Value) (ds : List PyData) : Prop
  | mk (x a : Addr) (vs : List Value) (e : v = .ref x) (i : HdrAt C.addr h x a) (l : h.IsList a vs.toArray) (r : RepAll U h vs ds)
inductive SlfR (C : Cls) (U : Addr → Prop) (h : Heap) (v : Value) (ds : List PyData) : Prop
  | mk (x a : Addr) (e : v = .ref x) (i : HdrAt C.addr h x a) (r : Rep U h (.ref a) (.list ds))
noncomputable def EntR (C : Cls) (U : Addr → Prop) (h : Heap) (v : Value) : Ent → Prop
  | .val d => Rep U h v d
  | .own ds => OwnR U h v ds
  | .hdr ds => HdrR C U h v ds
  | .slf ds => SlfR C U h v ds
theorem HdrAt.stays {Ca : Addr} {h h' : Heap} {x l : Addr} (k : Stays h h') (a : HdrAt Ca h x l) : HdrAt Ca h' x l := by
  obtain ⟨dx, hs, t, e, f⟩ := a
  exact ⟨dx, hs, t, k _ _ e, k _ _ f⟩
theorem isList_stays {h h' : Heap} {a : Addr} {its : Array Value} (k : Stays h h') (x : h.IsList a its) : h'.IsList a its := let ⟨o, e, r⟩ := x; ⟨o, k _ _ e, r⟩
theorem isTuple_stays {h h' : Heap} {a : Addr} {its : Array Value} (k : Stays h h') (x : h.IsTuple a its) : h'.IsTuple a its := let ⟨o, e, r⟩ := x; ⟨o, k _ _ e, r⟩
theorem EntR.stays {C : Cls} {U : Addr → Prop} {h h' : Heap} {v : Value} {e : Ent} (k : Stays h h') (a : EntR C U h v e) : EntR C U h' v e := by
  cases e with
  | val d => exact Rep.stays k a
  | own ds => obtain ⟨a, vs, e, l, r⟩ := a; exact ⟨a, vs, e, isList_stays k l, r.stays k⟩
  | hdr ds => obtain ⟨x, a, vs, e, i, l, r⟩ := a; exact ⟨x, a, vs, e, i.stays k, isList_stays k l, r.stays k⟩
  | slf ds => obtain ⟨x, a, e, i, r⟩ := a; exact ⟨x, a, e, i.stays k, r.stays k⟩

structure Cx (C : Cls) (H0 : Heap) (U : Addr → Prop) (env : Env) (ρ : Rho) (h : Heap) : Prop where
  fn : env.scope.kind = .function
  gl : env.globals = mainGlobals
  bl : env.builtins = builtinsNs
  h0 : Stays H0 h
  fresh : ∀ b, h.get? b = none → U b
  cells : ∀ x, env.kindOf x = some .cell ∨ env.kindOf x = some .free → ∃ c, env.cells.lookup x = some c
  isCell : ∀ x c, env.cells.lookup x = some c → ∃ v, h.IsCell c v
  vars : ∀ x ent, look env.scope ρ x = some ent → ∃ v, VarHas h env x v ∧ EntR C U h v ent
theorem Cx.stays {C : Cls} {H0 : Heap} {U : Addr → Prop} {env : Env} {ρ : Rho} {h h' : Heap} (k : Stays h h') (c : Cx C H0 U env ρ h) : Cx C H0 U env ρ h' where
  fn := c.fn
  gl := c.gl
  bl := c.bl
  h0 := c.h0.trans k
  fresh := fun b e => c.fresh b (by
    cases q : h.get? b with
    | none => rfl
    | some o => rw [k b o q] at e; cases e)
  cells := c.cells
  isCell := fun x a e => let ⟨v, i⟩ := c.isCell x a e; ⟨v, i.keeps k⟩
  vars := fun x ent e => let ⟨v, a, b⟩ := c.vars x ent e; ⟨v, a.stays k, b.stays k⟩

inductive EvPost (U : Addr → Prop) (s : Shared) (d : PyData) (v : Value) (s' : Shared) : Prop
  | mk (h' : Heap) (tk : Nat) (e : s' = { s with heap := h', toks := tk }) (st : Stays s.heap h') (r : Rep U h' v d)
/-- read: the outermost list may be one that a name owns -/
noncomputable def RepR (U : Addr → Prop) (h : Heap) (v : Value) : PyData → Prop
  | .list ds => OwnR U h v ds
  | d => Rep U h v d
theorem Rep.toR {U : Addr → Prop} {h : Heap} {v : Value} {d : PyData} (x : Rep U h v d) : RepR U h v d := by
  cases d <;> first | exact x | (obtain ⟨a, vs, e, l, r, _⟩ := x.listInv; exact ⟨a, vs, e, l, r⟩)
theorem RepR.stays {U : Addr → Prop} {h h' : Heap} {v : Value} {d : PyData} (k : Stays h h') (x : RepR U h v d) : RepR U h' v d := by
  cases d <;> first | exact Rep.stays k x | (obtain ⟨a, vs, e, l, r⟩ := x; exact ⟨a, vs, e, isList_stays k l, r.stays k⟩)
theorem RepR.reads {U : Addr → Prop} {h : Heap} {v : Value} {d : PyData} (x : RepR U h v d) : ∃ as, Reads h v d as := by
  cases d <;> first
    | exact let ⟨as, r, _⟩ := x; ⟨as, r⟩
    | (obtain ⟨a, vs, rfl, ⟨o, ho, hc, n, hd⟩, ⟨as, r, _⟩⟩ := x; exact ⟨_, .list ho hc hd (by simpa using r)⟩)
inductive EvPostR (U : Addr → Prop) (s : Shared) (d : PyData) (v : Value) (s' : Shared) : Prop
  | mk (h' : Heap) (tk : Nat) (e : s' = { s with heap := h', toks := tk }) (st : Stays s.heap h') (r : RepR U h' v d)
theorem EvPost.toR {U : Addr → Prop} {s : Shared} {d : PyData} {v : Value} {s' : Shared} (x : EvPost U s d v s') : EvPostR U s d v s' :=
  let ⟨h', tk, e, k, r⟩ := x; ⟨h', tk, e, k, r.toR⟩
inductive EvPostT (s : Shared) (d : PyData) (b : Bool) (s' : Shared) : Prop
  | mk (h' : Heap) (tk : Nat) (e : s' = { s with heap := h', toks := tk }) (st : Stays s.heap h') (r : d = .bool b)

noncomputable abbrev lst (vs : List Value) (n : Nat) : Obj := { cls := .type "list", dict := none, data := .seq vs.toArray n, slots := #[] }
/-- a list made just now -/
inductive EvPostF (U : Addr → Prop) (s : Shared) (ds : List PyData) (v : Value) (s' : Shared) : Prop
  | mk (h' : Heap) (tk : Nat) (a : Addr) (vs : List Value) (n : Nat) (e : s' = { s with heap := h', toks := tk }) (st : Stays s.heap h') (ev : v = .ref a) (new : s.heap.get? a = none) (at_ : h'.get? a = some (lst vs n)) (r : RepAll (fun b => U b ∧ b ≠ a) h' vs ds)
theorem EvPostF.plain {U : Addr → Prop} {s : Shared} {ds : List PyData} {v : Value} {s' : Shared} (fr : ∀ b, s.heap.get? b = none → U b) (x : EvPostF U s ds v s') : EvPost U s (.list ds) v s' := by
  obtain ⟨h', tk, a, vs, n, e, k, rfl, ha, ho, r⟩ := x
  exact ⟨h', tk, e, k, .list ⟨_, ho, rfl, n, rfl⟩ (r.mono fun _ z => z.1) (fr a ha)⟩

section
variable (prog : Program) (w : World) (mg : Str → Option Value) (H0 : Heap)
noncomputable def SortOk (srt : PyData → Option PyData) : Prop := ∀ d e, srt d = some e → ∃ es, e = .list es ∧
  ∀ (A : Around) (s : Shared) (U : Addr → Prop) (v : Value), Room A 0 → RepR U s.heap v d → (∀ b, s.heap.get? b = none → U b) →
    wpAny (model prog w) A (call (.builtin "sorted") [v]) (EvPostF U s es) NoE s

noncomputable def Snd (C : Cls) (k : Nat) (r : Md → Scope → Rho → Expr → Option PyData) : Prop := ∀ (sc : Scope) (ρ : Rho) (e : Expr) (d : PyData) (env : Env) (A : Around) (s : Shared) (U : Addr → Prop),
  env.scope = sc → Cx C H0 U env ρ s.heap → Room A k →
  (r .value sc ρ e = some d → wpAny (model prog w) A (eval e env) (EvPost U s d) NoE s) ∧
  (r .read sc ρ e = some d → wpAny (model prog w) A (eval e env) (EvPostR U s d) NoE s) ∧
  (r .truth sc ρ e = some d → wpAny (model prog w) A (isTrue e env (eval e env)) (EvPostT s d) NoE s)
/-- what the table says of a name's calls is so -/
noncomputable def FnsOk (Φ : Tab) (k : Nat) : Prop := ∀ f args d, Φ.fn f args = some d → ∃ a o fd, mg f = some (.ref a) ∧ H0.get? a = some o ∧ o.data = .func fd ∧
  ∀ (A : Around) (s : Shared) (vs : List Value) (as : List Addr), Room A k → Stays H0 s.heap → ReadsAll s.heap vs args as →
    wpAny (model prog w) A (call (.ref a) vs) (fun r s' => ∃ h' tk bs, s' = { s with heap := h', toks := tk } ∧ Stays s.heap h' ∧ Reads h' r d bs ∧ ∀ b ∈ bs, b ∈ as ∨ s.heap.get? b = none) NoE s
/-- and of other expressions -/
noncomputable def HookOk (C : Cls) (Φ : Tab) (k : Nat) : Prop := ∀ (r : Md → Scope → Rho → Expr → Option PyData), Snd prog w H0 C k r → ∀ (ρ : Rho) (e : Expr) (d : PyData) (env : Env) (A : Around) (s : Shared) (U : Addr → Prop),
  Φ.hook r env.scope ρ e = some d → Cx C H0 U env ρ s.heap → Room A k → wpAny (model prog w) A (eval e env) (EvPost U s d) NoE s
structure SpecOk (C : Cls) (Φ : Tab) (k : Nat) : Prop where
  fns : FnsOk prog w mg H0 Φ k
  hook : HookOk prog w H0 C Φ k
end
end Mine

namespace Mine
open PySem PySem.Calls PySem.Spec PyProof.Rows PySem.W

section
variable {prog : Program} {w : World} {A : Around} {s : Shared} {env : Env} {C : Cls} {H0 : Heap} {U : Addr → Prop} {ρ : Rho} {mg mb : Str → Option Value} {k : Nat}

theorem evPost_val {d : PyData} {v : Value} (r : Rep U s.heap v d) : EvPost U s d v s := ⟨s.heap, s.toks, rfl, Stays.refl _, r⟩
theorem evPost_tok {d : PyData} {v : Value} {tk : Nat} (r : Rep U s.heap v d) : EvPost U s d v { s with toks := tk } := ⟨s.heap, tk, rfl, Stays.refl _, r⟩

theorem const_ok {c : Const} {kk : Nat} {pos : Pos} {d : PyData} (e : constD c = some d) : wpAny (model prog w) A (eval (.Constant c kk pos) env) (EvPost U s d) NoE s := by
  cases c <;> simp only [constD, Option.some.injEq, reduceCtorEq] at e <;> subst e
  · exact wpAny_Constant_none (evPost_val Rep.none')
  · exact wpAny_Constant_bool (evPost_val (.bool _))
  · exact wpAny_Constant_int (evPost_tok (.int _ _))
  · exact wpAny_Constant_str (evPost_tok (.str _ _))

theorem isVar_iff {k : Option NameKind} (h : isVar k = true) : k = some .local ∨ k = some .cell ∨ k = some .free := by
  cases k with
  | none => cases h
  | some k => cases k <;> first | exact .inl rfl | exact .inr (.inl rfl) | exact .inr (.inr rfl) | cases h

theorem look_ok {x : Str} {ent : Ent} (e : look env.scope ρ x = some ent) : isVar (env.kindOf x) = true ∧ (x == ("__debug__" : Str)) = false ∧ (x == ("__classdict__" : Str)) = false := by
  unfold look at e
  replace e := iteS e
  obtain ⟨h, e⟩ := e
  simp only [Bool.and_eq_true, okName, Bool.not_eq_true'] at h
  exact ⟨h.1, h.2.1, h.2.2⟩

theorem load_ok {x : Str} {ent : Ent} {v : Value} {Q : Value → Shared → Prop} {E : Value → Shared → Prop} (hk : env.scope.kind = .function) (e : look env.scope ρ x = some ent) (hv : VarHas s.heap env x v) (h : Q v s) :
    wpAny (model prog w) A (loadName env x) Q E s := by
  obtain ⟨_, _, hc⟩ := look_ok e
  rcases hv with ⟨hl, m, n, hx⟩ | ⟨hl, c, hcl, hi⟩
  · exact wpAny_loadName_local hk hl n hx h
  · rcases hl with hl | hl
    · exact wpAny_loadName_cell hk hl hcl hi h
    · exact wpAny_loadName_free hk hl hcl hi h hc

theorem name_ok {rd : Bool} {x : Str} {pos : Pos} {d : PyData} (c : Cx C H0 U env ρ s.heap) (e : nameD rd env.scope ρ x = some d) :
    wpAny (model prog w) A (eval (.Name x pos) env) (EvPostR U s d) NoE s ∧ (rd = false → wpAny (model prog w) A (eval (.Name x pos) env) (EvPost U s d) NoE s) := by
  unfold nameD at e
  split at e
  · rename_i d' q
    cases e
    obtain ⟨v, hv, r⟩ := c.vars x _ q
    obtain ⟨_, hd, _⟩ := look_ok q
    have z : wpAny (model prog w) A (eval (.Name x pos) env) (EvPost U s d) NoE s := wpAny_Name (load_ok c.fn q hv (evPost_val r)) hd
    exact ⟨wpAny_mono z (fun _ _ h => h.toR) fun _ _ h => h, fun _ => z⟩
  · rename_i ds q
    replace e := iteS e
    obtain ⟨hr, e⟩ := e
    cases e
    obtain ⟨v, hv, a, vs, e1, l, r⟩ := c.vars x _ q
    obtain ⟨_, hd, _⟩ := look_ok q
    refine ⟨wpAny_Name (load_ok c.fn q hv ⟨s.heap, s.toks, rfl, Stays.refl _, a, vs, e1, l, r⟩) hd, fun h => ?_⟩
    rw [hr] at h; cases h
  · cases e

/-- one evaluation behind another -/
theorem thenR {t : Sem Value} {d : PyData} {P : Value → Shared → Prop} (h : wpAny (model prog w) A t (EvPostR U s d) NoE s)
    (g : ∀ v h' tk, Stays s.heap h' → RepR U h' v d → P v { s with heap := h', toks := tk }) : wpAny (model prog w) A t P NoE s :=
  wpAny_mono h (fun v s₁ ⟨h', tk, e, k, r⟩ => by subst e; exact g v h' tk k r) fun _ _ x => x
theorem thenV {t : Sem Value} {d : PyData} {P : Value → Shared → Prop} (h : wpAny (model prog w) A t (EvPost U s d) NoE s)
    (g : ∀ v h' tk, Stays s.heap h' → Rep U h' v d → P v { s with heap := h', toks := tk }) : wpAny (model prog w) A t P NoE s :=
  wpAny_mono h (fun v s₁ ⟨h', tk, e, k, r⟩ => by subst e; exact g v h' tk k r) fun _ _ x => x
theorem thenT {t : Sem Bool} {d : PyData} {P : Bool → Shared → Prop} (h : wpAny (model prog w) A t (EvPostT s d) NoE s)
    (g : ∀ b h' tk, Stays s.heap h' → d = .bool b → P b { s with heap := h', toks := tk }) : wpAny (model prog w) A t P NoE s :=
  wpAny_mono h (fun v s₁ ⟨h', tk, e, k, r⟩ => by subst e; exact g v h' tk k r) fun _ _ x => x

theorem evPost_from {h' : Heap} {tk : Nat} {d : PyData} {v : Value} {s' : Shared} (k : Stays s.heap h') (x : EvPost U { s with heap := h', toks := tk } d v s') : EvPost U s d v s' :=
  let ⟨h'', tk', e, k', r⟩ := x; ⟨h'', tk', e, k.trans k', r⟩
theorem evPostR_from {h' : Heap} {tk : Nat} {d : PyData} {v : Value} {s' : Shared} (k : Stays s.heap h') (x : EvPostR U { s with heap := h', toks := tk } d v s') : EvPostR U s d v s' :=
  let ⟨h'', tk', e, k', r⟩ := x; ⟨h'', tk', e, k.trans k', r⟩
theorem evPostT_from {h' : Heap} {tk : Nat} {d : PyData} {v : Bool} {s' : Shared} (k : Stays s.heap h') (x : EvPostT { s with heap := h', toks := tk } d v s') : EvPostT s d v s' :=
  let ⟨h'', tk', e, k', r⟩ := x; ⟨h'', tk', e, k.trans k', r⟩
theorem none_of_stays {h h' : Heap} {a : Addr} (k : Stays h h') (e : h'.get? a = none) : h.get? a = none := by
  cases q : h.get? a with
  | none => rfl
  | some o => rw [k a o q] at e; cases e
theorem evPostF_from {h' : Heap} {tk : Nat} {ds : List PyData} {v : Value} {s' : Shared} (k : Stays s.heap h') (x : EvPostF U { s with heap := h', toks := tk } ds v s') : EvPostF U s ds v s' :=
  let ⟨h'', tk', a, vs, n, e, k', ev, ha, ho, r⟩ := x; ⟨h'', tk', a, vs, n, e, k.trans k', ev, none_of_stays k ha, ho, r⟩

theorem new_none (h : Heap) : h.get? h.objs.size = none := by
  cases q : h.get? h.objs.size with
  | none => rfl
  | some o => exact absurd (Heap.lt_size q) (Nat.lt_irrefl _)

/-- data that stands in a heap does not reach the next address -/
theorem repAll_new {h : Heap} {vs : List Value} {ds : List PyData} (r : RepAll U h vs ds) (h' : Heap) (k : Stays h h') : RepAll (fun b => U b ∧ b ≠ h.objs.size) h' vs ds := by
  obtain ⟨as, q, u⟩ := r
  refine ⟨as, readsAll_stays k q, fun a m => ⟨u a m, fun e => ?_⟩⟩
  obtain ⟨o, ho⟩ := readsAll_alloc q a m
  exact absurd (Heap.lt_size ho) (e ▸ Nat.lt_irrefl _)
where
  readsAll_alloc {h : Heap} {vs : List Value} {ds : List PyData} {as : List Addr} (r : ReadsAll h vs ds as) (a : Addr) (m : a ∈ as) : ∃ o, h.get? a = some o := let ⟨o, e, _⟩ := reads_dat2.2 _ _ _ r a m; ⟨o, e⟩
  reads_alloc {h : Heap} {v : Value} {d : PyData} {as : List Addr} (r : Reads h v d as) (a : Addr) (m : a ∈ as) : ∃ o, h.get? a = some o := let ⟨o, e, _⟩ := reads_dat2.1 _ _ _ r a m; ⟨o, e⟩

/-- a list put onto the heap -/
theorem evPostF_new {vs : List Value} {ds : List PyData} {tk : Nat} (r : RepAll U s.heap vs ds) : EvPostF U s ds (.ref s.heap.objs.size) { s with heap := s.heap.push (lst vs 0), toks := tk } :=
  ⟨_, _, _, vs, 0, rfl, stays_push _ _, rfl, new_none _, Heap.get?_push_size _ rfl, repAll_new r _ (stays_push _ _)⟩
end
end Mine

namespace Mine
open PySem PySem.Calls PySem.Spec PyProof.Rows PySem.W PySem.SeqAt

section
variable {prog : Program} {w : World} {A : Around} {s : Shared} {env : Env} {C : Cls} {H0 : Heap} {U : Addr → Prop} {ρ : Rho} {mg mb : Str → Option Value} {k : Nat}

theorem add_lists0 {l b : Addr} {vs ws : List Value} {Q : Value → Shared → Prop} {E : Value → Shared → Prop} (hl : s.heap.IsList l vs.toArray) (hb : s.heap.IsList b ws.toArray)
    (h : Q (.ref s.heap.objs.size) { s with heap := s.heap.push (lst (vs ++ ws) 0) }) (hsz : vs.length + ws.length ≤ sizeLine) :
    wpAny (model prog w) A (binaryOp .Add (.ref l) (.ref b)) Q E s := by
  obtain ⟨⟨cls, dd, data, sl⟩, ho, hc, n, hd⟩ := id hl
  obtain ⟨⟨cls2, dd2, data2, sl2⟩, ho2, hc2, n2, hd2⟩ := id hb
  simp only at hc hd hc2 hd2
  subst hc hd hc2 hd2
  have e : vs.toArray ++ ws.toArray = (vs ++ ws).toArray := by simp
  refine concat_meets ⟨_, ho, rfl⟩ ⟨_, ho2, rfl⟩ noFill_list_add seq_list_add PySem.F.slot_list_add PySem.F.entry_list_add (PySem.F.args_list_add_2 _ _) (list_addW l b vs.toArray ws.toArray n n2 dd dd2 sl sl2 (by simpa using hsz)) ⟨ho, ho2, ?_⟩
  rw [e]
  exact h

theorem top_le : top ≤ sizeLine := by decide
theorem mkList_some {ds : List PyData} {d : PyData} (e : mkList ds = some d) : d = .list ds ∧ ds.length ≤ top := by
  unfold mkList at e
  split at e
  · cases e; exact ⟨rfl, by assumption⟩
  · cases e

theorem addL_ok {a b : List PyData} {x y : Value} (hx : RepR U s.heap x (.list a)) (hy : RepR U s.heap y (.list b)) (hl : (a ++ b).length ≤ top) :
    wpAny (model prog w) A (binaryOp .Add x y) (EvPostF U s (a ++ b)) NoE s := by
  obtain ⟨l, vs, rfl, hl1, r1⟩ := hx
  obtain ⟨m, ws, rfl, hl2, r2⟩ := hy
  refine add_lists0 hl1 hl2 ?_ ?_
  · exact evPostF_new (tk := s.toks) (r1.append r2)
  · rw [r1.length, r2.length, ← List.length_append]; exact Nat.le_trans hl top_le

theorem bits_le {a : Int} (h : a.natAbs ≤ 1073741824) : Builtin.Int.intBits a ≤ 64 := by
  unfold Builtin.Int.intBits
  split
  · omega
  · rename_i hz
    have hz' : a.natAbs ≠ 0 := by simpa using hz
    have := (Nat.log2_lt (n := a.natAbs) (k := 31) hz').mpr (by omega)
    omega
theorem bin_ok {op : Operator} {a b d : PyData} {x y : Value} (fr : ∀ c, s.heap.get? c = none → U c) (hx : RepR U s.heap x a) (hy : RepR U s.heap y b) (e : binD op a b = some d) :
    wpAny (model prog w) A (binaryOp op x y) (EvPost U s d) NoE s := by
  have twoI : ∀ {f : Int → Int → Option PyData}, intsD f a b = some d → ∃ i j t u, x = .int i t ∧ y = .int j u ∧ f i j = some d := fun q => by
    obtain ⟨i, j, rfl, rfl, q⟩ := intsD_eq q
    obtain ⟨t, rfl⟩ := Rep.intInv hx
    obtain ⟨u, rfl⟩ := Rep.intInv hy
    exact ⟨i, j, t, u, rfl, rfl, q⟩
  unfold binD at e
  split at e
  · unfold addD at e
    split at e
    · obtain ⟨i, j, t, u, rfl, rfl, e⟩ := twoI e
      cases e
      exact PyProof.Rows.add_int (evPost_tok (.int _ _))
    · split at e
      · split at e
        · rename_i ho; cases e; obtain ⟨_, rfl⟩ := Rep.strInv hx; obtain ⟨_, rfl⟩ := Rep.strInv hy
          exact PyProof.Rows.add_str (fun _ _ => evPost_tok (.str _ _)) (Nat.le_trans ho top_le)
        · cases e
      · cases e
    · split at e
      · obtain ⟨rfl, hl⟩ := mkList_some e
        exact wpAny_mono (addL_ok hx hy hl) (fun _ _ h => h.plain fr) fun _ _ h => h
      · cases e
    · cases e
  · obtain ⟨i, j, t, u, rfl, rfl, e⟩ := twoI e
    cases e
    exact PyProof.Rows.sub_int (evPost_tok (.int _ _))
  · obtain ⟨i, j, t, u, rfl, rfl, e⟩ := twoI e
    split at e
    · rename_i ho; cases e
      refine PyProof.Rows.mul_int (evPost_tok (.int _ _)) ?_
      simp only [mulOk, decide_eq_true_eq] at ho
      exact IntMulOk.of_left (bits_le (Nat.le_of_lt ho))
    · cases e
  · obtain ⟨i, j, t, u, rfl, rfl, e⟩ := twoI e
    split at e
    · rename_i ho; cases e
      simp only [divOk, Bool.and_eq_true, decide_eq_true_eq] at ho
      exact PyProof.Rows.floordiv_int ho.2 (evPost_tok (.int _ _)) (Or.inl (PyProof.noPylong_small ho.1))
    · cases e
  · obtain ⟨i, j, t, u, rfl, rfl, e⟩ := twoI e
    split at e
    · cases e
    · rename_i ho; cases e
      exact PyProof.Rows.mod_int ho (evPost_tok (.int _ _))
  · obtain ⟨i, j, t, u, rfl, rfl, e⟩ := twoI e
    split at e
    · rename_i ho; cases e
      simp only [powOk, Bool.and_eq_true, decide_eq_true_eq] at ho
      refine PyProof.Rows.pow_int ho.1.1 ?_ (evPost_tok (.int _ _))
      have h1 : Builtin.Int.intBits _ ≤ 64 := bits_le (Nat.le_trans ho.2 (by decide))
      exact Int.le_trans (Int.mul_le_mul (Int.ofNat_le.mpr h1) ho.1.2 ho.1.1 (by decide)) (by decide)
    · cases e
  · cases e

theorem small_iff {d : PyData} (h : smallD d = true) : d.canLay0 = true ∧ d.depth ≤ 64 := by
  simpa [smallD] using h
theorem cmp_ok {op : CmpOp} {a b d : PyData} {x y : Value} (rm : Room A k) (hx : RepR U s.heap x a) (hy : RepR U s.heap y b) (e : cmpD op a b = some d) :
    wpAny (model prog w) A (compareOp op x y) (fun v s' => s' = s ∧ ∃ c, v = .bool c ∧ d = .bool c) NoE s := by
  obtain ⟨as, ra⟩ := hx.reads
  obtain ⟨bs, rb⟩ := hy.reads
  unfold cmpD at e
  split at e
  · split at e
    · rename_i ho; cases e
      obtain ⟨h1, h2⟩ := Bool.and_eq_true_iff.mp ho
      exact compareEq_reads ra rb (small_iff h1).1 (small_iff h2).1 (by have := rm.cl 64 (by omega); have := (small_iff h1).2; have := Nat.min_le_left a.depth b.depth; omega) ⟨rfl, _, rfl, rfl⟩
    · cases e
  · split at e
    · rename_i ho; cases e
      obtain ⟨h1, h2⟩ := Bool.and_eq_true_iff.mp ho
      exact compareNe_reads ra rb (small_iff h1).1 (small_iff h2).1 (by have := rm.cl 64 (by omega); have := (small_iff h1).2; have := Nat.min_le_left a.depth b.depth; omega) ⟨rfl, _, rfl, rfl⟩
    · cases e
  · split at e
    · cases e; cases rb
      cases ra <;> exact wpAny_is_plain (by rfl) ⟨rfl, _, rfl, rfl⟩
    · cases e
  · split at e
    · cases e; cases rb
      cases ra <;> exact wpAny_isNot_plain (by rfl) ⟨rfl, _, rfl, rfl⟩
    · cases e
  · obtain ⟨i, j, rfl, rfl, e⟩ := intsD_eq e
    cases e; obtain ⟨_, rfl⟩ := Rep.intInv hx; obtain ⟨_, rfl⟩ := Rep.intInv hy
    exact PyProof.Rows.lt_int ⟨rfl, _, rfl, rfl⟩
  · obtain ⟨i, j, rfl, rfl, e⟩ := intsD_eq e
    cases e; obtain ⟨_, rfl⟩ := Rep.intInv hx; obtain ⟨_, rfl⟩ := Rep.intInv hy
    exact PyProof.Rows.gt_int ⟨rfl, _, rfl, rfl⟩
  · cases b with
    | list xs =>
      replace e := iteS e
      have ho := e.1
      cases e.2
      obtain ⟨h1, h2⟩ := Bool.and_eq_true_iff.mp ho
      have z := (small_iff h2).1
      refine in_list_reads rb ra (by simpa [PyData.canLay0] using z) (small_iff h1).1 ?_ ⟨rfl, _, rfl, rfl⟩
      have := rm.cl 65 (by omega); have := (small_iff h1).2; have := Nat.min_le_right (PyData.depthAll xs) a.depth; omega
    | _ => exact noSome e
  · cases b with
    | list xs =>
      replace e := iteS e
      have ho := e.1
      cases e.2
      obtain ⟨h1, h2⟩ := Bool.and_eq_true_iff.mp ho
      have z := (small_iff h2).1
      refine notIn_list_reads rb ra (by simpa [PyData.canLay0] using z) (small_iff h1).1 ?_ ⟨rfl, _, rfl, rfl⟩
      have := rm.cl 65 (by omega); have := (small_iff h1).2; have := Nat.min_le_right (PyData.depthAll xs) a.depth; omega
    | _ => exact noSome e
  · cases e
end
end Mine

namespace Mine
open PySem PySem.Calls PySem.Spec PyProof.Rows PySem.W PySem.SeqAt

section
variable {prog : Program} {w : World} {A : Around} {s : Shared} {env : Env} {C : Cls} {H0 : Heap} {U : Addr → Prop} {ρ : Rho} {mg mb : Str → Option Value} {k : Nat}

theorem sub_ops (slice : Expr) (o i : Value) : ∃ ops, subscripted slice false o i = operate ops (getItem o i) := by
  cases slice with
  | Slice a b c p => cases c <;> first | exact ⟨_, rfl⟩ | exact ⟨_, rfl⟩
  | _ => exact ⟨_, rfl⟩

theorem seqIndex_lt {i : Int} {n j : Nat} (h : seqIndex? i n = some j) : j < n ∧ (if i < 0 then i + n else i) = (j : Int) := by
  unfold seqIndex? at h
  by_cases hi : i < 0
  · simp only [hi, if_true, Option.ite_none_right_eq_some, Bool.and_eq_true, decide_eq_true_eq, Option.some.injEq] at h ⊢
    omega
  · simp only [hi, if_false, Option.ite_none_right_eq_some, Bool.and_eq_true, decide_eq_true_eq, Option.some.injEq] at h ⊢
    omega

theorem idx_ok {value slice : Expr} {a b d : PyData} {x y : Value} (hx : RepR U s.heap x a) (hy : Rep U s.heap y b) (e : idxD a b = some d) :
    wpAny (model prog w) A (subscriptTail value slice x y) (EvPost U s d) NoE s := by
  obtain ⟨ops, hs⟩ := sub_ops slice x y
  unfold idxD at e
  split at e
  · split at e
    · rename_i ds i ho
      obtain ⟨l, vs, rfl, hl, r⟩ := hx
      obtain ⟨t, rfl⟩ := Rep.intInv hy
      obtain ⟨j, hj, hd⟩ := Option.bind_eq_some_iff.mp e
      obtain ⟨v, hv, rv⟩ := r.get hd
      obtain ⟨lt, ej⟩ := seqIndex_lt hj
      simp only [idxOk, decide_eq_true_eq] at ho
      have hlen := r.length
      refine tail_any hl.typeIs slot_list_getitem.lookup ?_ hs
      by_cases hn : i < 0
      · rw [if_pos hn] at ej
        refine wpAny_getItem_list_neg hl hn ?_ (by omega) ?_ (evPost_val rv)
        · simp only [List.size_toArray]; omega
        · simp only [List.size_toArray]
          rw [hlen, ej]; simpa using hv
      · rw [if_neg hn] at ej
        refine wpAny_getItem_list hl (by omega) (by omega) ?_ (evPost_val rv)
        rw [ej]; simpa using hv
    · cases e
  · split at e
    · rename_i ds i ho
      obtain ⟨l, vs, rfl, hl, r⟩ := Rep.tupleInv hx
      obtain ⟨t, rfl⟩ := Rep.intInv hy
      obtain ⟨j, hj, hd⟩ := Option.bind_eq_some_iff.mp e
      obtain ⟨v, hv, rv⟩ := r.get hd
      simp only [idxOk, decide_eq_true_eq] at ho
      have hlen := r.length
      exact tail_any (IsTup.typeIs hl) slot_tuple_getitem.lookup (PyProof.Rows.getItem_tuple hl (by omega) (by omega) (by simpa [hlen] using hj) (by simpa using hv) (evPost_val rv)) hs
    · cases e
  · split at e
    · rename_i z i ho
      obtain ⟨t, rfl⟩ := Rep.strInv hx
      obtain ⟨u, rfl⟩ := Rep.intInv hy
      obtain ⟨c, hc, rfl⟩ := Option.map_eq_some_iff.mp e
      simp only [idxOk, decide_eq_true_eq] at ho
      refine tail_any (typeIs_str s z t) PyProof.Rows.slot_str_getitem.lookup ?_ hs
      refine PyProof.Rows.getItem_str ?_ hc (evPost_tok (.str _ _))
      simp only [Bool.or_eq_false_iff, decide_eq_false_iff_not]
      constructor <;> omega
    · cases e
  · cases e

/-- a slice's parts -/
theorem part_ok {r : Md → Scope → Rho → Expr → Option PyData} (S : Snd prog w H0 C k r) (c : Cx C H0 U env ρ s.heap) (rm : Room A k) {x : Option Expr} {i : Option Int} (e : evO r env.scope ρ x = some i) :
    wpAny (model prog w) A (evalPart x env) (fun v s' => IsPart v i ∧ ∃ h' tk, s' = { s with heap := h', toks := tk } ∧ Stays s.heap h') NoE s := by
  cases x with
  | none =>
    simp only [evO, Option.some.injEq] at e
    subst e
    exact wpAny_pure ⟨.none, s.heap, s.toks, rfl, Stays.refl _⟩
  | some x =>
    simp only [evO] at e
    obtain ⟨d, hd, e⟩ := Option.bind_eq_some_iff.mp e
    rw [evalPart_some]
    refine wpAny_mono ((S _ _ _ _ _ _ _ _ rfl c rm).1 hd) (fun v s' zP => ?_) fun _ _ h => h
    obtain ⟨h', tk, es, st, rp⟩ := zP
    cases d <;> simp only [Option.some.injEq, reduceCtorEq] at e
    subst e
    obtain ⟨t, rfl⟩ := rp.intInv
    exact ⟨.int _ _, h', tk, es, st⟩

theorem cut_list {vs : List Value} {ds : List PyData} {h : Heap} (r : RepAll U h vs ds) (lo hi : Option Int) : RepAll U h (slicePick vs.toArray lo hi none).toList (cutL ds lo hi) := by
  rw [slicePick_plain]
  simp only [List.size_toArray]
  rw [r.length]
  exact (r.drop _).take _
theorem cut_rev {vs : List Value} {ds : List PyData} {h : Heap} (r : RepAll U h vs ds) : RepAll U h (slicePick vs.toArray none none (some (-1))).toList ds.reverse := by
  rw [krv_pick]
  exact r.reverse

theorem cut_ok {value slice : Expr} {d e : PyData} {lo hi st : Option Int} {x vl vu vt : Value} (hx : RepR U s.heap x d) (pl : IsPart vl lo) (pu : IsPart vu hi) (pt : IsPart vt st) (q : cutD d lo hi st = some e)
    (tk : Nat) : ∃ es, e = .list es ∧ wpAny (model prog w) A (subscriptTail value slice x (.ref s.heap.objs.size)) (EvPostF U s es) NoE { s with heap := s.heap.push { cls := .type "slice", data := .fields #[vl, vu, vt] }, toks := tk } := by
  obtain ⟨ops, hs⟩ := sub_ops slice x (.ref s.heap.objs.size)
  have main : ∀ (ds es : List PyData), RepR U s.heap x (.list ds) → st ≠ some 0 → ds.length ≤ top → (∀ vs, RepAll U s.heap vs ds → RepAll U s.heap (slicePick vs.toArray lo hi st).toList es) →
      wpAny (model prog w) A (subscriptTail value slice x (.ref s.heap.objs.size)) (EvPostF U s es) NoE { s with heap := s.heap.push { cls := .type "slice", data := .fields #[vl, vu, vt] }, toks := tk } := by
    intro ds es hx h0 hlen hp
    obtain ⟨l, vs, rfl, hl, r⟩ := hx
    have rr := hp vs r
    have fin : EvPostF U s es (.ref (s.heap.push { cls := .type "slice", data := .fields #[vl, vu, vt] }).objs.size) { s with heap := (s.heap.push { cls := .type "slice", data := .fields #[vl, vu, vt] }).push { cls := .type "list", data := .seq (slicePick vs.toArray lo hi st) }, toks := tk } :=
      evPostF_from (s := s) (tk := tk) (stays_push s.heap _) (evPostF_new (s := { s with heap := s.heap.push _, toks := tk }) (vs := (slicePick vs.toArray lo hi st).toList) (rr.stays (stays_push _ _)))
    refine tail_any (Heap.IsList.typeIs (s := { s with heap := s.heap.push { cls := .type "slice", data := .fields #[vl, vu, vt] }, toks := tk }) (hl.push _)) list_getitem_lookup ?_ hs
    exact wpAny_getItem_list_slice (s := { s with heap := s.heap.push { cls := .type "slice", data := .fields #[vl, vu, vt] }, toks := tk }) (hl.push _) (Heap.IsSliceOf.new ..) pl pu pt h0 fin (by
      rw [List.size_toArray, r.length]; exact Nat.le_trans hlen top_le)
  unfold cutD at q
  split at q
  · split at q
    · rename_i ds _ _ hl
      cases q
      exact ⟨_, rfl, main _ _ hx (by simp) (by assumption) fun vs r => cut_list r _ _⟩
    · cases q
  · split at q
    · rename_i ds _ hl
      cases q
      exact ⟨_, rfl, main _ _ hx (by decide) (by assumption) fun vs r => cut_rev r⟩
    · cases q
  · cases q
end
end Mine

namespace Mine
open PySem PySem.Calls PySem.Spec PyProof.Rows PySem.W PySem.SeqAt

section
variable {prog : Program} {w : World} {A : Around} {s : Shared} {env : Env} {C : Cls} {H0 : Heap} {U : Addr → Prop} {ρ : Rho} {mg mb : Str → Option Value} {k : Nat}
variable {r : Md → Scope → Rho → Expr → Option PyData}

noncomputable def EvPostL (U : Addr → Prop) (s : Shared) (ds : List PyData) (vs : List Value) (s' : Shared) : Prop :=
  ∃ h' tk, s' = { s with heap := h', toks := tk } ∧ Stays s.heap h' ∧ RepAll U h' vs ds

theorem star_cons {e : Expr} {rest : List Expr} (h : isStar e = false) : starEach (e :: rest) env = (false, eval e env) :: starEach rest env := by
  cases e <;> first | rfl | cases h

theorem evL_ok (S : Snd prog w H0 C k r) (rm : Room A k) (pos : Pos) : ∀ (es : List Expr) (ds : List PyData) (s : Shared), Cx C H0 U env ρ s.heap → evL r env.scope ρ es = some ds →
    wpAny (model prog w) A (spliced (backTo pos (starEach es env))) (EvPostL U s ds) NoE s
  | [], ds, s, _, e => by
    simp only [evL, Option.some.injEq] at e
    subst e
    exact wpAny_items_nil ⟨s.heap, s.toks, rfl, Stays.refl _, .nil⟩
  | e :: es, ds, s, c, q => by
    simp only [evL] at q
    split at q
    · cases q
    · rename_i hs
      obtain ⟨d, hd, q⟩ := Option.bind_eq_some_iff.mp q
      obtain ⟨ds', hds, q⟩ := Option.bind_eq_some_iff.mp q
      cases q
      refine wpAny_items_cons ?_ (star_cons (by simpa using hs))
      refine thenV ((S _ _ _ _ _ _ _ _ rfl c rm).1 hd) fun v h' tk st rp => ?_
      refine wpAny_mono (evL_ok S rm pos es ds' _ (c.stays st) hds) (fun vs s' zP => ?_) fun _ _ x => x
      obtain ⟨h'', tk', e', st', rr⟩ := zP
      exact ⟨h'', tk', e', st.trans st', .cons (rp.stays st') rr⟩

theorem starEach_any (pos : Pos) : ∀ (es : List Expr) (ds : List PyData), evL r env.scope ρ es = some ds → (backTo pos (starEach es env)).any (·.1) = false
  | [], _, _ => rfl
  | e :: es, ds, q => by
    simp only [evL] at q
    split at q
    · cases q
    · rename_i hs
      obtain ⟨d, hd, q⟩ := Option.bind_eq_some_iff.mp q
      obtain ⟨ds', hds, q⟩ := Option.bind_eq_some_iff.mp q
      rw [star_cons (by simpa using hs)]
      have := starEach_any pos es ds' hds
      unfold backTo at this ⊢
      rw [List.map_cons, List.any_cons, this]
      rfl

theorem listDisplay_ok (S : Snd prog w H0 C k r) (c : Cx C H0 U env ρ s.heap) (rm : Room A k) {es : List Expr} {pos : Pos} {ds : List PyData} (e : evL r env.scope ρ es = some ds) (hl : ds.length ≤ top) :
    wpAny (model prog w) A (eval (.List es pos) env) (EvPostF U s ds) NoE s := by
  refine wpAny_List (wpAny_mono (evL_ok S rm pos es ds s c e) (fun vs s' zP => ?_) fun _ _ x => x)
  obtain ⟨h', tk, e', st, rr⟩ := zP
  subst e'
  refine ⟨?_, evPostF_from (tk := tk) st (evPostF_new rr)⟩
  rw [rr.length]; exact Nat.le_trans hl top_le
theorem tupleDisplay_ok (S : Snd prog w H0 C k r) (c : Cx C H0 U env ρ s.heap) (rm : Room A k) {es : List Expr} {pos : Pos} {kk : Nat} {ds : List PyData} (e : evL r env.scope ρ es = some ds) (hl : ds.length ≤ top) :
    wpAny (model prog w) A (eval (.Tuple es kk pos) env) (EvPost U s (.tuple ds)) NoE s := by
  refine wpAny_Tuple (wpAny_mono (evL_ok S rm pos es ds s c e) (fun vs s' zP => ?_) fun _ _ x => x)
  obtain ⟨h', tk, e', st, rr⟩ := zP
  subst e'
  refine ⟨?_, ?_⟩
  · rw [rr.length]; exact Nat.le_trans hl top_le
  · refine ⟨_, tk, rfl, st.trans (stays_push _ _), .tuple (vs := vs) ⟨_, Heap.get?_push_size _ rfl, rfl, 0, rfl⟩ (rr.stays (stays_push _ _))⟩

theorem truth_ok {d : PyData} {b : Bool} {v : Value} (h : Rep U s.heap v d) (e : truthD d = some b) {Q : Bool → Shared → Prop} (q : Q b s) : wpAny (model prog w) A (truthy v) Q NoE s := by
  cases d <;> simp only [truthD, Option.some.injEq, reduceCtorEq] at e
  · subst e; rw [h.boolInv]; exact wpAny_truthy_bool q
  · subst e; obtain ⟨t, rfl⟩ := h.intInv; exact PyProof.Rows.truthy_int q

theorem len_ok {d e : PyData} {v : Value} (h : RepR U s.heap v d) (q : lenD d = some e) : wpAny (model prog w) A (call (.builtin "len") [v]) (EvPost U s e) NoE s := by
  cases d <;> simp only [lenD, reduceCtorEq] at q
  split at q
  · rename_i ds hl
    cases q
    obtain ⟨a, vs, rfl, l, rr⟩ := h
    have hn := rr.length
    refine Calls.call_len_list l ?_ ?_
    · rw [List.size_toArray, hn]; unfold top at hl; omega
    · rw [List.size_toArray, hn]; exact ⟨s.heap, _, rfl, Stays.refl _, .int _ _⟩
  · cases q
theorem copy_ok {d e : PyData} {v : Value} (h : RepR U s.heap v d) (q : copyD d = some e) : ∃ es, e = .list es ∧ wpAny (model prog w) A (call (.type "list") [v]) (EvPostF U s es) NoE s := by
  cases d <;> simp only [copyD, reduceCtorEq] at q
  obtain ⟨rfl, hl⟩ := mkList_some q
  obtain ⟨a, vs, rfl, ⟨o, ho, hc, n, hd⟩, rr⟩ := h
  refine ⟨_, rfl, call_list_seq a (.inl rfl) ho hc hd (fun h' c' st e => ?_) ?_⟩
  · exact ⟨h', s.toks, s.heap.objs.size, vs, c', rfl, st, rfl, new_none _, e, repAll_new rr _ st⟩
  · rw [List.size_toArray, rr.length]; exact Nat.le_trans hl top_le
end
end Mine

namespace Mine
open PySem PySem.Calls PySem.Spec PyProof.Rows PySem.W PySem.SeqAt

section
variable {prog : Program} {w : World} {A : Around} {s : Shared} {env : Env} {C : Cls} {H0 : Heap} {U : Addr → Prop} {ρ : Rho} {mg mb : Str → Option Value} {k : Nat}
variable {r : Md → Scope → Rho → Expr → Option PyData}

theorem ns_stays {h h' : Heap} {a : Addr} {m : Str → Option Value} (k : Stays h h') (x : h.Ns a m) : h'.Ns a m := x.keeps k

theorem glob_ok (G : Ground0 mg mb H0) (c : Cx C H0 U env ρ s.heap) {f : Str} {pos : Pos} {v : Value} {Q : Value → Shared → Prop} (hk : env.scope.names.lookup f = some .globalImplicit) (hd : (f == ("__debug__" : Str)) = false)
    (e : mg f = some v) (h : Q v s) : wpAny (model prog w) A (eval (.Name f pos) env) Q NoE s :=
  Name_function_global c.fn hk (loadGlobal_global (by rw [c.gl]; exact ns_stays c.h0 G.g) e h) hd
theorem built_ok (G : Ground0 mg mb H0) (c : Cx C H0 U env ρ s.heap) {f : Str} {pos : Pos} {v : Value} {Q : Value → Shared → Prop} (hk : env.scope.names.lookup f = some .globalImplicit) (hd : (f == ("__debug__" : Str)) = false)
    (e : mg f = none ∧ mb f = some v) (h : Q v s) : wpAny (model prog w) A (eval (.Name f pos) env) Q NoE s :=
  Name_function_global c.fn hk (loadGlobal_builtin (by rw [c.gl]; exact ns_stays c.h0 G.g) e.1 (by rw [c.bl]; exact ns_stays c.h0 G.b) e.2 h) hd

/-- one argument, read -/
theorem arg1_ok {P : List Value → Shared → Prop} {a : Expr} {pos : Pos} {d : PyData} (h : wpAny (model prog w) A (eval a env) (EvPostR U s d) NoE s) (hs : isStar a = false)
    (g : ∀ v h' tk, Stays s.heap h' → RepR U h' v d → P [v] { s with heap := h', toks := tk }) : wpAny (model prog w) A (spliced (backTo pos (starEach [a] env))) P NoE s := by
  refine wpAny_items_cons ?_ (star_cons hs)
  refine thenR h fun v h' tk st rp => wpAny_items_nil (g v h' tk st rp)

theorem oneArg {args : List Expr} {F : Expr → Option PyData} {d : PyData} (e : (match args with | [a] => if isStar a then none else F a | _ => none) = some d) : ∃ a, args = [a] ∧ isStar a = false ∧ F a = some d := by
  rcases args with _ | ⟨a, _ | ⟨_, _⟩⟩
  · exact noSome e
  · replace e := iteN e
    exact ⟨a, rfl, by simpa using e.1, e.2⟩
  · exact noSome e
theorem evCall_ok {Φ : Tab} {srt : PyData → Option PyData} (S : Snd prog w H0 C k r) (P : SpecOk prog w mg H0 C Φ k) (T : SortOk prog w srt) (G : Ground0 mg mb H0) (c : Cx C H0 U env ρ s.heap) (rm : Room A k) {f : Str} {fp pos : Pos} {args : List Expr} {d : PyData}
    (e : evCall r Φ srt env.scope ρ f args = some d) :
    wpAny (model prog w) A (eval (.Call (.Name f fp) args [] pos) env) (EvPost U s d) NoE s ∧
      (f = ("list" : Str) → ∃ ds, d = .list ds ∧ wpAny (model prog w) A (eval (.Call (.Name f fp) args [] pos) env) (EvPostF U s ds) NoE s) := by
  unfold evCall at e
  replace e := iteS e
  obtain ⟨hg, e⟩ := e
  simp only [okName, Bool.and_eq_true, beq_iff_eq, Bool.not_eq_true'] at hg
  obtain ⟨hk, hd, _⟩ := hg
  split at e
  · rename_i hf
    have hf := beq_iff_eq.mp hf
    subst hf
    refine ⟨?_, fun q => absurd q (by decide)⟩
    obtain ⟨a, rfl, hs, e⟩ := oneArg e
    obtain ⟨x, hx, e⟩ := Option.bind_eq_some_iff.mp e
    refine Call_ (built_ok G c hk hd G.len ?_)
    refine callWith_builtin1 ?_ (star_cons (by simpa using hs)) rfl
    exact arg1_ok ((S _ _ _ _ _ _ _ _ rfl c rm).2.1 hx) (by simpa using hs) fun v h' tk st rp => wpAny_mono (len_ok (s := { s with heap := h', toks := tk }) rp e) (fun _ _ h => evPost_from st h) fun _ _ h => h
  · split at e
    · rename_i hf
      have hf := beq_iff_eq.mp hf
      subst hf
      obtain ⟨a, rfl, hs, e⟩ := oneArg e
      obtain ⟨x, hx, e⟩ := Option.bind_eq_some_iff.mp e
      have z : ∃ ds, d = .list ds ∧ wpAny (model prog w) A (eval (.Call (.Name ("list" : Str) fp) [a] [] pos) env) (EvPostF U s ds) NoE s := by
        cases x <;> simp only [copyD, reduceCtorEq] at e
        obtain ⟨rfl, hl⟩ := mkList_some e
        refine ⟨_, rfl, Call_ (built_ok G c hk hd G.list ?_)⟩
        refine PyProof.Rows.callWith_type1 ?_ (star_cons (by simpa using hs)) rfl
        refine arg1_ok ((S _ _ _ _ _ _ _ _ rfl c rm).2.1 hx) (by simpa using hs) fun v h' tk st rp => ?_
        obtain ⟨es, q, z⟩ := copy_ok (prog := prog) (w := w) (A := A) (s := { s with heap := h', toks := tk }) rp (show copyD (.list _) = some (.list _) by simp only [copyD]; exact e)
        cases q
        exact wpAny_mono z (fun _ _ h => evPostF_from st h) fun _ _ h => h
      obtain ⟨ds, rfl, z⟩ := z
      exact ⟨wpAny_mono z (fun _ _ h => h.plain c.fresh) fun _ _ h => h, fun _ => ⟨ds, rfl, z⟩⟩
    · rename_i hnl
      refine ⟨?_, fun q => absurd (by rw [q]; exact beq_self_eq_true _) hnl⟩
      split at e
      · rename_i hf
        have hf := beq_iff_eq.mp hf
        subst hf
        obtain ⟨a, rfl, hs, e⟩ := oneArg e
        obtain ⟨x, hx, e⟩ := Option.bind_eq_some_iff.mp e
        obtain ⟨es, rfl, T⟩ := T x d e
        refine Call_ (built_ok G c hk hd G.sorted ?_)
        refine callWith_builtin1 ?_ (star_cons (by simpa using hs)) rfl
        exact arg1_ok ((S _ _ _ _ _ _ _ _ rfl c rm).2.1 hx) (by simpa using hs) fun v h' tk st rp =>
          wpAny_mono (T A { s with heap := h', toks := tk } U v ⟨rm.handled, by have := rm.depth; omega, by have := rm.units; omega⟩ rp (c.stays st).fresh) (fun _ _ h => evPost_from st (h.plain (c.stays st).fresh)) fun _ _ h => h
      · split at e
        · cases e
        · rename_i args' hne
          obtain ⟨ds, hds, e⟩ := Option.bind_eq_some_iff.mp e
          obtain ⟨a, o, fd, hm, ho, hfd, P⟩ := P.fns f ds d e
          refine Call_ (glob_ok G c hk hd hm ?_)
          cases args with
          | nil => exact absurd rfl hne
          | cons x rest =>
            have hs : isStar x = false := by
              simp only [evL] at hds
              split at hds
              · cases hds
              · rename_i hs; simpa using hs
            refine callWith_def hfd ?_ (star_cons hs)
            refine wpAny_mono (evL_ok S rm pos _ ds s c hds) (fun vs s' zP => ?_) fun _ _ h => h
            obtain ⟨h', tk, es, st, rr⟩ := zP
            subst es
            refine ⟨(c.h0.trans st) _ _ ho, ?_⟩
            obtain ⟨as, rr, u⟩ := rr
            refine wpAny_mono (P A { s with heap := h', toks := tk } vs as rm (c.h0.trans st) rr) (fun v s' zP => ?_) fun _ _ h => h
            obtain ⟨h'', tk', bs, es, st', rd, hb⟩ := zP
            refine ⟨h'', tk', es, st.trans st', bs, rd, fun b m => (hb b m).elim (u b) fun z => (c.stays st).fresh b z⟩

theorem case_ok {o : Expr} {m : Str} {ap pos : Pos} {d e : PyData} (h : wpAny (model prog w) A (eval o env) (EvPost U s d) NoE s) (hb : okBase o = true) (hl : (ap.endLine == pos.line) = true) (q : caseD m d = some e) :
    wpAny (model prog w) A (eval (.Call (.Attribute o m ap) [] [] pos) env) (EvPost U s e) NoE s := by
  refine wpAny_Call_method_lateS ?_ rfl hl ?_
  · cases o <;> first | rfl | cases hb
  refine thenV h fun v h' tk st rp => ?_
  cases d <;> simp only [caseD, reduceCtorEq] at q
  split at q
  · rename_i x hx
    obtain ⟨t, rfl⟩ := rp.strInv
    split at q
    · rename_i hm; have hm := beq_iff_eq.mp hm; subst hm; cases q
      exact SB.lower (fit_lower (by omega)) ⟨h', _, rfl, st, .str _ _⟩
    · split at q
      · rename_i hm; have hm := beq_iff_eq.mp hm; subst hm; cases q
        exact SB.upper (fit_upper (by omega)) ⟨h', _, rfl, st, .str _ _⟩
      · split at q
        · rename_i hm; have hm := beq_iff_eq.mp hm; subst hm; cases q
          exact SB.swapcase (fit_swapcase (by omega)) ⟨h', _, rfl, st, .str _ _⟩
        · cases q
  · cases q

theorem evB_ok (S : Snd prog w H0 C k r) (rm : Room A k) (op : BoolOp) : ∀ (es : List Expr) (b : Bool) (s : Shared), Cx C H0 U env ρ s.heap → evB r op env.scope ρ es = some b →
    wpAny (model prog w) A (allTrue op es env) (fun b' s' => b' = b ∧ ∃ h' tk, s' = { s with heap := h', toks := tk } ∧ Stays s.heap h') NoE s
  | [], b, s, _, e => by
    simp only [evB, Option.some.injEq] at e
    subst e
    exact wpAny_pure ⟨rfl, s.heap, s.toks, rfl, Stays.refl _⟩
  | x :: es, b, s, c, e => by
    simp only [evB] at e
    obtain ⟨d, hd, e⟩ := Option.bind_eq_some_iff.mp e
    obtain ⟨b1, hb, e⟩ := Option.bind_eq_some_iff.mp e
    have z := (S _ _ _ _ _ _ _ _ rfl c rm).2.2 hd
    cases op with
    | And =>
      refine wpAny_allTrue_And_cons (thenT z fun v h' tk st q => ?_)
      subst q
      simp only [truthD, Option.some.injEq] at hb
      subst hb
      cases v with
      | true =>
        simp only [if_true] at e ⊢
        refine wpAny_mono (evB_ok S rm .And es b _ (c.stays st) e) (fun b' s' ⟨q, h'', tk', es', st'⟩ => ⟨q, h'', tk', es', st.trans st'⟩) fun _ _ h => h
      | false =>
        simp only [Option.some.injEq] at e
        subst e
        exact ⟨rfl, h', tk, rfl, st⟩
    | Or =>
      refine wpAny_allTrue_Or_cons (thenT z fun v h' tk st q => ?_)
      subst q
      simp only [truthD, Option.some.injEq] at hb
      subst hb
      cases v with
      | false =>
        refine wpAny_mono (evB_ok S rm .Or es b _ (c.stays st) e) (fun b' s' ⟨q, h'', tk', es', st'⟩ => ⟨q, h'', tk', es', st.trans st'⟩) fun _ _ h => h
      | true =>
        simp only [Option.some.injEq] at e
        subst e
        exact ⟨rfl, h', tk, rfl, st⟩
end
end Mine

namespace Mine
open PySem PySem.Calls PySem.Spec PyProof.Rows PySem.W PySem.SeqAt

/-- the addresses that data may lie at: allowed ones, not the frame's, not an owned list's -/
noncomputable def UU (P : Addr → Prop) (env : Env) (X : List (Str × Addr)) (b : Addr) : Prop := P b ∧ b ≠ env.locals ∧ ∀ p ∈ X, p.2 ≠ b

inductive OwnS (U : Addr → Prop) (X : List (Str × Addr)) (h : Heap) (x : Str) (v : Value) (ds : List PyData) : Prop
  | mk (a : Addr) (vs : List Value) (n : Nat) (e1 : v = .ref a) (e2 : (x, a) ∈ X) (e3 : h.get? a = some (lst vs n)) (r : RepAll U h vs ds)
inductive HdrS (C : Cls) (B : Addr → Option Obj) (U : Addr → Prop) (X : List (Str × Addr)) (h : Heap) (x : Str) (v : Value) (ds : List PyData) : Prop
  | mk (y dx : Addr) (hs : _) (t : _) (a : Addr) (vs : List Value) (n : Nat) (e1 : v = .ref y ∧ C.ok y a) (e2 : B y = some (instObj C.addr dx)) (e3 : B dx = some (dictOf [⟨hs, .str "_headers" t, .ref a⟩] 1)) (e4 : (x, a) ∈ X) (e5 : h.get? a = some (lst vs n)) (r : RepAll U h vs ds)
inductive SlfS (C : Cls) (B : Addr → Option Obj) (U : Addr → Prop) (h : Heap) (v : Value) (ds : List PyData) : Prop
  | mk (y dx : Addr) (hs : _) (t : _) (a : Addr) (e1 : v = .ref y ∧ C.ok y a) (e2 : B y = some (instObj C.addr dx)) (e3 : B dx = some (dictOf [⟨hs, .str "_headers" t, .ref a⟩] 1)) (r : Rep U h (.ref a) (.list ds))
noncomputable def EntS (C : Cls) (B : Addr → Option Obj) (U : Addr → Prop) (X : List (Str × Addr)) (h : Heap) (x : Str) (v : Value) : Ent → Prop
  | .val d => Rep U h v d
  | .own ds => OwnS U X h x v ds
  | .hdr ds => HdrS C B U X h x v ds
  | .slf ds => SlfS C B U h v ds

structure St (C : Cls) (H0 : Heap) (P : Addr → Prop) (B : Addr → Option Obj) (env : Env) (own : Str → Bool) (X : List (Str × Addr)) (ρ : Rho) (h : Heap) : Prop where
  fn : env.scope.kind = .function
  gl : env.globals = mainGlobals
  bl : env.builtins = builtinsNs
  h0 : ∀ a o, H0.get? a = some o → B a = some o
  base : ∀ a o, B a = some o → h.get? a = some o
  fresh : ∀ b, h.get? b = none → P b
  ns : ∃ m, h.Ns env.locals m
  bL : B env.locals = none
  mine : ∀ x, own x = true → env.kindOf x = some .local ∨ (env.kindOf x = some .cell ∧ ∃ c v, env.cells.lookup x = some c ∧ h.IsCell c v ∧ B c = none)
  apart : ∀ x y c, env.cells.lookup x = some c → env.cells.lookup y = some c → B c = none → x = y
  cells : ∀ x, env.kindOf x = some .cell ∨ env.kindOf x = some .free → ∃ c, env.cells.lookup x = some c
  isCell : ∀ x c, env.cells.lookup x = some c → ∃ v, h.IsCell c v
  xs : ∀ p ∈ X, B p.2 = none ∧ p.2 ≠ env.locals ∧ ∃ vs n, h.get? p.2 = some (lst vs n)
  xp : ∀ p ∈ X, P p.2
  xnd : ∀ p ∈ X, ∀ q ∈ X, p.2 = q.2 → p.1 = q.1
  xfn : ∀ p ∈ X, ∀ q ∈ X, p.1 = q.1 → p.2 = q.2
  vars : ∀ x ent, look env.scope ρ x = some ent → ∃ v, VarHas h env x v ∧ EntS C B (UU P env X) X h x v ent

section
variable {prog : Program} {w : World} {A : Around} {s : Shared} {env : Env} {C : Cls} {H0 : Heap} {P : Addr → Prop} {B : Addr → Option Obj} {own : Str → Bool} {X : List (Str × Addr)} {ρ : Rho} {h h' : Heap} {k : Nat}

theorem St.freshU (t : St C H0 P B env own X ρ h) : ∀ b, h.get? b = none → UU P env X b := by
  intro b e
  refine ⟨t.fresh b e, fun q => ?_, fun p hp q => ?_⟩
  · obtain ⟨m, o, es, ep, ho, _⟩ := t.ns
    rw [← q, e] at ho; cases ho
  · obtain ⟨_, _, vs, n, ho⟩ := t.xs p hp
    rw [q, e] at ho; cases ho

theorem St.cx (t : St C H0 P B env own X ρ h) : Cx C H0 (UU P env X) env ρ h where
  fn := t.fn
  gl := t.gl
  bl := t.bl
  h0 := fun a o e => t.base a o (t.h0 a o e)
  fresh := t.freshU
  cells := t.cells
  isCell := t.isCell
  vars := fun x ent e => by
    obtain ⟨v, hv, he⟩ := t.vars x ent e
    refine ⟨v, hv, ?_⟩
    cases ent with
    | val d => exact he
    | own ds => obtain ⟨a, vs, n, e1, _, e2, r⟩ := he; exact ⟨a, vs, e1, ⟨_, e2, rfl, n, rfl⟩, r⟩
    | slf ds => obtain ⟨y9, dx, hs9, tk9, a9, e1, e2, e3, r⟩ := he; exact ⟨y9, a9, e1.1, ⟨dx, hs9, tk9, t.base _ _ e2, t.base _ _ e3⟩, r⟩
    | hdr ds => obtain ⟨y, dx, hs, tk, a, vs, n, e1, e2, e3, _, e4, r⟩ := he; exact ⟨y, a, vs, e1.1, ⟨dx, hs, tk, t.base _ _ e2, t.base _ _ e3⟩, ⟨_, e4, rfl, n, rfl⟩, r⟩

theorem St.stays (k : Stays h h') (t : St C H0 P B env own X ρ h) : St C H0 P B env own X ρ h' where
  fn := t.fn
  gl := t.gl
  bl := t.bl
  h0 := t.h0
  base := fun a o e => k a o (t.base a o e)
  fresh := fun b e => t.fresh b (none_of_stays k e)
  ns := let ⟨m, n⟩ := t.ns; ⟨m, n.keeps k⟩
  bL := t.bL
  mine := fun x e => (t.mine x e).imp id fun ⟨a, c, v, e1, e2, e3⟩ => ⟨a, c, v, e1, e2.keeps k, e3⟩
  apart := t.apart
  cells := t.cells
  isCell := fun x c e => let ⟨v, i⟩ := t.isCell x c e; ⟨v, i.keeps k⟩
  xs := fun p hp => let ⟨a, b, vs, n, e⟩ := t.xs p hp; ⟨a, b, vs, n, k _ _ e⟩
  xp := t.xp
  xnd := t.xnd
  xfn := t.xfn
  vars := fun x ent e => by
    obtain ⟨v, hv, he⟩ := t.vars x ent e
    refine ⟨v, hv.stays k, ?_⟩
    cases ent with
    | val d => exact Rep.stays k he
    | own ds => obtain ⟨a, vs, n, e1, e2, e3, r⟩ := he; exact ⟨a, vs, n, e1, e2, k _ _ e3, r.stays k⟩
    | slf ds => obtain ⟨y9, dx, hs9, tk9, a9, e1, e2, e3, r⟩ := he; exact ⟨y9, dx, hs9, tk9, a9, e1, e2, e3, r.stays k⟩
    | hdr ds => obtain ⟨y, dx, hs, tk, a, vs, n, e1, e2, e3, e4, e5, r⟩ := he; exact ⟨y, dx, hs, tk, a, vs, n, e1, e2, e3, e4, k _ _ e5, r.stays k⟩

theorem noTup_dict {h : Heap} {a : Addr} {m : Str → Option Value} (n : h.Ns a m) : NoTup h a := by
  obtain ⟨o, es, ep, ho, hd, _⟩ := n
  intro o' vs n' e _ q
  rw [ho] at e; cases e; rw [hd] at q; cases q
theorem noTup_cell {h : Heap} {a : Addr} {v : Option Value} (n : h.IsCell a v) : NoTup h a := by
  obtain ⟨o, ho, hd⟩ := n
  intro o' vs n' e _ q
  rw [ho] at e; cases e; rw [hd] at q; cases q
theorem noTup_list {h : Heap} {a : Addr} {vs : List Value} {n : Nat} (e : h.get? a = some (lst vs n)) : NoTup h a := by
  intro o' vs n' e' c q
  rw [e] at e'; cases e'; exact absurd (show Value.type "list" = Value.type "tuple" from c) (by decide)

theorem dat_nocell {h : Heap} {c : Addr} {w : Option Value} (n : h.IsCell c w) (q : ∃ o, h.get? c = some o ∧ IsDat o) : False := by
  obtain ⟨o, e, d⟩ := q
  obtain ⟨o', ho, hd⟩ := n
  rw [ho] at e; cases e
  rcases d with ⟨_, _, d⟩ | ⟨_, _, d⟩ <;> (rw [hd] at d; cases d)
theorem reads_nocell {h : Heap} {c : Addr} {w : Option Value} (n : h.IsCell c w) {v d as} (r : Reads h v d as) : c ∉ as := fun m => dat_nocell n (reads_dat2.1 _ _ _ r c m)
theorem readsAll_nocell {h : Heap} {c : Addr} {w : Option Value} (n : h.IsCell c w) {vs ds as} (r : ReadsAll h vs ds as) : c ∉ as := fun m => dat_nocell n (reads_dat2.2 _ _ _ r c m)

/-- what is not a place of data may change -/
noncomputable def Dead (U : Addr → Prop) (h : Heap) (b : Addr) : Prop := NoTup h b ∧ (¬ U b ∨ ∃ v, h.IsCell b v)
theorem Rep.dead {U : Addr → Prop} {b : Addr} {v : Value} {d : PyData} (D : Dead U h b) (hs : Heap.SameBut b h h') (x : Rep U h v d) : Rep U h' v d := by
  rcases D.2 with n | ⟨_, n⟩
  · exact x.but hs D.1 n
  · obtain ⟨as, r, u⟩ := x; exact ⟨as, reads_but hs D.1 r (reads_nocell n r), u⟩
theorem RepAll.dead {U : Addr → Prop} {b : Addr} {vs : List Value} {ds : List PyData} (D : Dead U h b) (hs : Heap.SameBut b h h') (x : RepAll U h vs ds) : RepAll U h' vs ds := by
  rcases D.2 with n | ⟨_, n⟩
  · exact x.but hs D.1 n
  · obtain ⟨as, r, u⟩ := x; exact ⟨as, readsAll_but hs D.1 r (readsAll_nocell n r), u⟩

noncomputable def dropX (X : List (Str × Addr)) (x : Str) : List (Str × Addr) := X.filter fun p => !(p.1 == x)
theorem mem_dropX {p : Str × Addr} {x : Str} : p ∈ dropX X x ↔ p ∈ X ∧ p.1 ≠ x := by
  unfold dropX; rw [List.mem_filter]; simp
theorem uu_drop {x : Str} {b : Addr} (u : UU P env X b) : UU P env (dropX X x) b := ⟨u.1, u.2.1, fun p hp => u.2.2 p (mem_dropX.mp hp).1⟩

theorem look_set {sc : Scope} {x y : Str} {e ent : Ent} (q : look sc (ρ.set x e) y = some ent) : (y = x ∧ ent = e) ∨ (y ≠ x ∧ look sc ρ y = some ent) := by
  unfold look at q ⊢
  split at q
  · rename_i c
    unfold Rho.set at q
    rw [List.lookup_cons] at q
    by_cases hxy : y = x
    · subst hxy
      rw [beq_self_eq_true] at q
      exact .inl ⟨rfl, (Option.some.inj q).symm⟩
    · have : (y == x) = false := by simpa using hxy
      rw [this] at q
      refine .inr ⟨hxy, ?_⟩
      rw [if_pos c, ← q]
      clear q
      induction ρ with
      | nil => rfl
      | cons p r ih =>
        obtain ⟨z, ez⟩ := p
        rw [List.filter_cons]
        by_cases hz : z = x
        · subst hz
          simp only [beq_self_eq_true, Bool.not_true, Bool.false_eq_true, if_false]
          rw [List.lookup_cons, this]
          exact ih
        · have hz' : (z == x) = false := by simpa using hz
          simp only [hz', Bool.not_false, if_true]
          rw [List.lookup_cons, List.lookup_cons]
          cases hyz : y == z with
          | true => rfl
          | false => exact ih
  · cases q

/-- a store into a name of one's own -/
theorem store_raw (t : St C H0 P B env own X ρ s.heap) {x : Str} {v : Value} (hx : own x = true) {Q : Unit → Shared → Prop}
    (g : ∀ h' tk b, Heap.SameBut b s.heap h' → B b = none → (∃ o, h'.get? b = some o) → (∀ c u, s.heap.IsCell c u → ∃ u', h'.IsCell c u') → (b = env.locals ∨ ∃ u, s.heap.IsCell b u) → (∃ m, h'.Ns env.locals m) → (∀ z, own z = true → env.kindOf z = some .local ∨ (env.kindOf z = some .cell ∧ ∃ c u, env.cells.lookup z = some c ∧ h'.IsCell c u ∧ B c = none)) →
      VarHas h' env x v → (∀ y u, y ≠ x → VarHas s.heap env y u → VarHas h' env y u) → Q () { s with heap := h', toks := tk }) :
    wpAny (model prog w) A (storeName env x v) Q NoE s := by
  rcases t.mine x hx with hl | ⟨hl, c, u, hc, hi, hb⟩
  · obtain ⟨m, hn⟩ := t.ns
    refine wpAny_storeName_local hl hn (fun h' hn' hs => ?_) (by rw [t.fn]; rfl)
    have kc : ∀ c u, s.heap.IsCell c u → h'.IsCell c u := fun c u i => by
      obtain ⟨o, es, ep, ho, hd, _⟩ := hn
      refine i.sameBut hs fun q => ?_
      obtain ⟨o', ho', hd'⟩ := i
      rw [q, ho] at ho'; cases ho'; rw [hd] at hd'; cases hd'
    refine g h' _ env.locals hs t.bL (let ⟨o, _, _, ho, _⟩ := hn'; ⟨o, ho⟩) (fun c u i => ⟨u, kc c u i⟩) (.inl rfl) ⟨_, hn'⟩ (fun z hz => ?_) (.inl ⟨hl, _, hn', by simp⟩) (fun y u hy hv => ?_)
    · exact (t.mine z hz).imp id fun ⟨a, c, u, e1, e2, e3⟩ => ⟨a, c, u, e1, kc _ _ e2, e3⟩
    · rcases hv with ⟨hk, m', hm', e⟩ | ⟨hk, c, e, i⟩
      · obtain ⟨o, es, ep, ho, hd, _, hf⟩ := hn
        obtain ⟨o2, es2, ep2, ho2, hd2, _, hf2⟩ := hm'
        rw [ho] at ho2; cases ho2; rw [hd] at hd2; cases hd2
        refine .inl ⟨hk, _, hn', ?_⟩
        simp only [hy, if_false]
        rw [← hf, hf2]; exact e
      · exact .inr ⟨hk, c, e, kc _ _ i⟩
  · refine wpAny_storeName_cell t.fn hl hc hi fun h' hi' hs => ?_
    have kL : ∀ m, s.heap.Ns env.locals m → h'.Ns env.locals m := fun m n => n.sameBut hs fun q => by
      obtain ⟨o, es, ep, ho, hd, _⟩ := n
      obtain ⟨o', ho', hd'⟩ := hi
      rw [← q, ho] at ho'; cases ho'; rw [hd] at hd'; cases hd'
    refine g h' s.toks c hs hb (let ⟨o, ho, _⟩ := hi'; ⟨o, ho⟩) (fun c' u' i => if q : c' = c then ⟨_, q ▸ hi'⟩ else ⟨u', i.sameBut hs q⟩) (.inr ⟨u, hi⟩) (let ⟨m, n⟩ := t.ns; ⟨m, kL m n⟩) (fun z hz => ?_) (.inr ⟨.inl hl, c, hc, hi'⟩) (fun y u' hy hv => ?_)
    · rcases t.mine z hz with q | ⟨a, c', u', e1, e2, e3⟩
      · exact .inl q
      · by_cases hcc : c' = c
        · subst hcc; exact .inr ⟨a, c', _, e1, hi', e3⟩
        · exact .inr ⟨a, c', u', e1, e2.sameBut hs hcc, e3⟩
    · rcases hv with ⟨hk, m', hm', e⟩ | ⟨hk, c', e, i⟩
      · exact .inl ⟨hk, m', kL _ hm', e⟩
      · refine .inr ⟨hk, c', e, i.sameBut hs fun q => ?_⟩
        subst q
        exact hy (t.apart y x c' e hc hb)

noncomputable def KeepL (h h' : Heap) : Prop := ∀ a o, h.get? a = some o → (∃ vs n, o.data = .seq vs n) → h'.get? a = some o
theorem KeepL.stays (k : Stays h h') : KeepL h h' := fun a o e _ => k a o e
theorem KeepL.trans {h'' : Heap} (k : KeepL h h') (k' : KeepL h' h'') : KeepL h h'' := fun a o e z => k' a o (k a o e z) z
noncomputable def KeepO (env : Env) (h h' : Heap) : Prop := ∀ a o, h.get? a = some o → a ≠ env.locals → (∀ v, o.data ≠ .cell v) → h'.get? a = some o
noncomputable def Liv (U : Addr → Prop) (h h' : Heap) : Prop := ∀ v d as, Reads h v d as → (∀ a ∈ as, U a) → Reads h' v d as
inductive BindPost (U : Addr → Prop) (s : Shared) (Q : Heap → Prop) (s' : Shared) : Prop
  | mk (h' : Heap) (tk : Nat) (e : s' = { s with heap := h', toks := tk }) (lv : Liv U s.heap h') (kl : KeepL s.heap h') (q : Q h')
theorem Liv.rep {U : Addr → Prop} {v : Value} {d : PyData} (k : Liv U h h') (x : Rep U h v d) : Rep U h' v d := let ⟨as, r, u⟩ := x; ⟨as, k v d as r u, u⟩
theorem Liv.all {U : Addr → Prop} (k : Liv U h h') : ∀ {vs : List Value} {ds : List PyData}, RepAll U h vs ds → RepAll U h' vs ds
  | [], [], _ => .nil
  | [], _ :: _, x => by have := x.length; simp at this
  | _ :: _, [], x => by have := x.length; simp at this
  | _ :: _, _ :: _, x => .cons (k.rep x.head) (k.all x.tail)
theorem Liv.refl {U : Addr → Prop} : Liv U h h := fun _ _ _ x _ => x
theorem Liv.trans {U : Addr → Prop} {h'' : Heap} (k : Liv U h h') (k' : Liv U h' h'') : Liv U h h'' := fun v d as x u => k' v d as (k v d as x u) u
theorem Liv.stays {U : Addr → Prop} (k : Stays h h') : Liv U h h' := fun _ _ _ x _ => reads_stays k x
theorem Liv.mono {U U' : Addr → Prop} (k : Liv U' h h') (m : ∀ a, U a → U' a) : Liv U h h' := fun v d as x u => k v d as x fun a z => m a (u a z)
theorem Dead.liv {U : Addr → Prop} {b : Addr} (D : Dead U h b) (hs : Heap.SameBut b h h') : Liv U h h' := fun v d as x u => by
  rcases D.2 with n | ⟨_, n⟩
  · exact reads_but hs D.1 x fun m => n (u b m)
  · exact reads_but hs D.1 x (reads_nocell n x)

/-- a value stored -/
theorem store_val (t : St C H0 P B env own X ρ s.heap) {x : Str} {v : Value} {d : PyData} (hx : own x = true) (hr : Rep (UU P env X) s.heap v d) :
    wpAny (model prog w) A (storeName env x v) (fun _ s' => BindPost (UU P env X) s (fun h' => St C H0 P B env own (dropX X x) (ρ.set x (.val d)) h' ∧ KeepO env s.heap h') s') NoE s := by
  refine store_raw t hx fun h' tk b hs hb ⟨ob, hob⟩ hcl hbk hns hmine hvx hvy => ?_
  have hD : Dead (UU P env X) s.heap b := by
    rcases hbk with rfl | ⟨u, hi⟩
    · obtain ⟨m, n⟩ := t.ns; exact ⟨noTup_dict n, .inl fun q => q.2.1 rfl⟩
    · exact ⟨noTup_cell hi, .inr ⟨u, hi⟩⟩
  have keep : ∀ a o, s.heap.get? a = some o → (∃ xs n, o.data = .seq xs n) ∨ B a = some o → h'.get? a = some o := fun a o e k => (hs.2 a fun q => by
    rcases k with ⟨xs, n, k⟩ | k
    · rcases hbk with rfl | ⟨u, o', ho', hd'⟩
      · obtain ⟨m, o', es, ep, ho', hd', _⟩ := t.ns
        rw [q, ho'] at e; cases e; rw [hd'] at k; cases k
      · rw [q, ho'] at e; cases e; rw [hd'] at k; cases k
    · rw [q, hb] at k; cases k).trans e
  refine ⟨h', tk, rfl, hD.liv hs, fun a o e z => keep a o e (.inl z), ?_, fun a o e n1 n2 => (hs.2 a fun q => by
    rcases hbk with z | ⟨u, o', ho', hd'⟩
    · exact n1 (q.trans z)
    · rw [q, ho'] at e; cases e; exact n2 _ hd').trans e⟩
  refine { fn := t.fn, gl := t.gl, bl := t.bl, h0 := t.h0, base := fun a o e => keep a o (t.base a o e) (.inr e), fresh := fun c e => t.fresh c ?_, ns := hns, bL := t.bL, mine := hmine, apart := t.apart, cells := t.cells, isCell := fun x c e => let ⟨v, i⟩ := t.isCell x c e; hcl c v i, xs := ?_, xp := fun p hp => t.xp p (mem_dropX.mp hp).1, xnd := ?_, xfn := ?_, vars := ?_ }
  · by_cases hcb : c = b
    · subst hcb; rw [e] at hob; cases hob
    · rw [← hs.2 c hcb]; exact e
  · intro p hp
    obtain ⟨a, b', vs, n, e⟩ := t.xs p (mem_dropX.mp hp).1
    exact ⟨a, b', vs, n, keep _ _ e (.inl ⟨_, _, rfl⟩)⟩
  · exact fun p hp q hq => t.xnd p (mem_dropX.mp hp).1 q (mem_dropX.mp hq).1
  · exact fun p hp q hq => t.xfn p (mem_dropX.mp hp).1 q (mem_dropX.mp hq).1
  · intro y ent e
    rcases look_set e with ⟨rfl, rfl⟩ | ⟨hy, e⟩
    · exact ⟨v, hvx, (hr.dead hD hs).mono fun _ u => uu_drop u⟩
    · obtain ⟨u, hu, he⟩ := t.vars y ent e
      refine ⟨u, hvy y u hy hu, ?_⟩
      cases ent with
      | val d' => exact (Rep.dead hD hs he).mono fun _ u => uu_drop u
      | own ds => obtain ⟨a, vs, n, e1, e2, e3, r⟩ := he; exact ⟨a, vs, n, e1, mem_dropX.mpr ⟨e2, hy⟩, keep _ _ e3 (.inl ⟨_, _, rfl⟩), (r.dead hD hs).mono fun _ u => uu_drop u⟩
      | slf ds => obtain ⟨y9, dx, hs9, tk9, a9, e1, e2, e3, r⟩ := he; exact ⟨y9, dx, hs9, tk9, a9, e1, e2, e3, (Rep.dead hD hs r).mono fun _ u => uu_drop u⟩
      | hdr ds =>
        obtain ⟨y', dx, hs', tk', a, vs, n, e1, e2, e3, e4, e5, r⟩ := he
        exact ⟨y', dx, hs', tk', a, vs, n, e1, e2, e3, mem_dropX.mpr ⟨e4, hy⟩, keep _ _ e5 (.inl ⟨_, _, rfl⟩), (r.dead hD hs).mono fun _ u => uu_drop u⟩
end
end Mine

namespace Mine
open PySem PySem.Calls PySem.Spec PyProof.Rows PySem.W PySem.SeqAt

section
variable {prog : Program} {w : World} {A : Around} {s : Shared} {env : Env} {C : Cls} {H0 : Heap} {P : Addr → Prop} {B : Addr → Option Obj} {own : Str → Bool} {X : List (Str × Addr)} {ρ : Rho} {h h' : Heap} {k : Nat}

theorem draw_list {E : Value → Shared → Prop} {it t : Addr} {items : Array Value} (hne : t ≠ it) : ∀ (n i : Nat) (s : Shared) (Q : List Value → Shared → Prop), s.heap.IsListIter it t i → s.heap.IsList t items → i + n ≤ items.size →
    (∀ h', h'.IsListIter it t (i + n) → Heap.SameBut it s.heap h' → Q ((items.toList.drop i).take n) { s with heap := h' }) → wpAny (model prog w) A (draw (.ref it) n) Q E s
  | 0, i, s, Q, hit, _, _, hQ => by
    show wpAny _ _ (pure []) Q E s
    exact wpAny_pure (by simpa using hQ s.heap hit (Heap.SameBut.refl ..))
  | n + 1, i, s, Q, hit, ht, hle, hQ => by
    have hlt : i < items.size := by omega
    show wpAny _ _ (pyNext (.ref it) >>= _) Q E s
    refine wpAny_bind (wpAny_pyNext_list_item hit ht (x := items[i]) (by simp [hlt]) fun h₁ hit₁ hs₁ => ?_)
    refine wpAny_bind (wpAny_holding (draw_list hne n (i + 1) _ _ hit₁ (ht.extBut hs₁.extBut hne) (by omega) fun h₂ hit₂ hs₂ => wpAny_pure ?_))
    have hd : items.toList.drop i = items[i] :: items.toList.drop (i + 1) := by simp [List.drop_eq_getElem_cons, hlt]
    have := hQ h₂ (by rw [show i + (n + 1) = i + 1 + n by omega]; exact hit₂) (hs₁.trans hs₂)
    rw [hd, List.take_succ_cons] at this
    exact this

theorem unpackItems_list {E : Value → Shared → Prop} {t : Addr} {items : Array Value} {Q : List Value → Shared → Prop} (hh : A.handled = none) (ht : s.heap.IsList t items)
    (hQ : ∀ h', Heap.ExtBut s.heap.objs.size s.heap h' → Q items.toList { s with heap := h' }) : wpAny (model prog w) A (unpackItems (.ref t) items.size none) Q E s := by
  have hlt : t ≠ s.heap.objs.size := by obtain ⟨o, ho, _⟩ := ht; exact Nat.ne_of_lt (Heap.lt_size ho)
  unfold unpackItems
  refine wpAny_bind ?_
  · unfold notIterableAtAll
    refine wpAny_bind (wpAny_specialOf ht.typeIs PySem.F.slot_list_iter.lookup ?_)
    refine wpAny_pure ?_
    simp only [Bool.false_eq_true, if_false]
    refine wpAny_bind (wpAny_holding (wpAny_pyIter_list ht ?_))
    refine wpAny_bind (wpAny_holding (draw_list hlt items.size 0 _ _ ⟨_, Heap.get?_push_size _ rfl, rfl, rfl⟩ (ht.push _) (by omega) fun h₁ hit₁ hs₁ => ?_))
    have hall : List.take items.size (List.drop 0 items.toList) = items.toList := by
      rw [List.drop_zero]; exact List.take_of_length_le (by simp)
    rw [hall]
    rw [if_neg (by simp)]
    have ht₁ : h₁.IsList t items := (ht.push _).extBut hs₁.extBut hlt
    refine wpAny_bind (wpAny_holding (wpAny_pyNext_list_end hh hit₁ ht₁ (by simp) fun h₂ he₂ => ?_))
    simp only [Option.isSome_none, Bool.false_eq_true, if_false]
    refine wpAny_pure (hQ h₂ fun b o hb e => he₂ b o hb (hs₁.extBut b o hb (Heap.get?_push_of_some _ e)))

noncomputable def dropXs (X : List (Str × Addr)) (b : List (Str × PyData)) : List (Str × Addr) := b.foldl (fun X p => dropX X p.1) X
theorem uu_drops : ∀ (b : List (Str × PyData)) {X : List (Str × Addr)} {a : Addr}, UU P env X a → UU P env (dropXs X b) a
  | [], _, _, u => u
  | _ :: b, _, _, u => uu_drops b (uu_drop u)

theorem inOrder_ok : ∀ (es : List Expr) (xs : List Str) (ds : List PyData) (vs : List Value) (s : Shared) (X : List (Str × Addr)) (ρ : Rho), es.mapM nameOfE = some xs → xs.length = ds.length → (xs.zip ds).all (fun p => own p.1) = true →
    St C H0 P B env own X ρ s.heap → RepAll (UU P env X) s.heap vs ds →
    wpAny (model prog w) A (assignInOrder ((assignEach es env).map (·.2)) vs) (fun _ s' => BindPost (UU P env X) s (fun h' => St C H0 P B env own (dropXs X (xs.zip ds)) (ρ.sets (xs.zip ds)) h') s') NoE s
  | [], xs, ds, vs, s, X, ρ, e, hl, _, t, r => by
    simp at e
    subst e
    cases ds with
    | nil =>
      have := r.length
      simp at this
      subst this
      exact wpAny_pure ⟨s.heap, s.toks, rfl, Liv.refl, KeepL.stays (Stays.refl _), t⟩
    | cons => simp at hl
  | e :: es, xs, ds, vs, s, X, ρ, q, hl, ho, t, r => by
    rw [List.mapM_cons] at q
    obtain ⟨x, hx, q⟩ := Option.bind_eq_some_iff.mp q
    obtain ⟨xs', hxs, q⟩ := Option.bind_eq_some_iff.mp q
    cases q
    cases ds with
    | nil => simp at hl
    | cons d ds =>
      cases vs with
      | nil => have := r.length; simp at this
      | cons v vs =>
        obtain ⟨y, p, rfl⟩ : ∃ y p, e = .Name y p := by cases e <;> first | exact ⟨_, _, rfl⟩ | (simp [nameOfE] at hx)
        simp only [nameOfE, Option.some.injEq] at hx
        subst hx
        simp only [List.zip_cons_cons, List.all_cons, Bool.and_eq_true] at ho
        show wpAny _ _ (assignInOrder (assign (.Name y p) env :: (assignEach es env).map (·.2)) (v :: vs)) _ _ _
        refine wpAny_bind (wpAny_holding (wpAny_assign_Name ?_))
        refine wpAny_mono (store_val t ho.1 r.head) (fun _ s' zP => ?_) fun _ _ z => z
        obtain ⟨h', tk, e', lv, kl, t', _⟩ := zP
        subst e'
        refine wpAny_mono (inOrder_ok es xs' ds vs { s with heap := h', toks := tk } _ _ hxs (by simpa using hl) ho.2 t' ((lv.all r.tail).mono fun _ u => uu_drop u)) (fun _ s' zP => ?_) fun _ _ z => z
        obtain ⟨h'', tk', e', lv', kl', t''⟩ := zP
        exact ⟨h'', tk', e', lv.trans (lv'.mono fun _ u => uu_drop u), kl.trans kl', t''⟩

theorem assignEach_len {es : List Expr} {xs : List Str} (q : es.mapM nameOfE = some xs) : (assignEach es env).length = xs.length ∧ (assignEach es env).findIdx? (·.1) = none := by
  induction es generalizing xs with
  | nil => simp at q; subst q; exact ⟨rfl, rfl⟩
  | cons e es ih =>
    rw [List.mapM_cons] at q
    obtain ⟨x, hx, q⟩ := Option.bind_eq_some_iff.mp q
    obtain ⟨xs', hxs, q⟩ := Option.bind_eq_some_iff.mp q
    cases q
    obtain ⟨h1, h2⟩ := ih hxs
    obtain ⟨y, p, rfl⟩ : ∃ y p, e = .Name y p := by cases e <;> first | exact ⟨_, _, rfl⟩ | (simp [nameOfE] at hx)
    have e1 : assignEach (.Name y p :: es) env = (false, assign (.Name y p) env) :: assignEach es env := rfl
    rw [e1]
    refine ⟨by simp [h1], ?_⟩
    rw [List.findIdx?_cons]
    simp [h2]

theorem stays_ext {h h' : Heap} (e : Heap.ExtBut h.objs.size h h') : Stays h h' := fun a o q => e a o (Nat.ne_of_lt (Heap.lt_size q)) q

theorem bind_ok (t : St C H0 P B env own X ρ s.heap) (hh : A.handled = none) {tg : Expr} {d : PyData} {b : List (Str × PyData)} {v : Value} (hb : bindD tg d = some b) (ho : b.all (fun p => own p.1) = true) (hr : Rep (UU P env X) s.heap v d) :
    wpAny (model prog w) A (assign tg env v) (fun _ s' => BindPost (UU P env X) s (fun h' => St C H0 P B env own (dropXs X b) (ρ.sets b) h') s') NoE s := by
  unfold bindD at hb
  split at hb
  · cases hb
    simp only [List.all_cons, List.all_nil, Bool.and_true] at ho
    exact wpAny_assign_Name (wpAny_mono (store_val t ho hr) (fun _ s' ⟨h', tk, e', lv, kl, t', _⟩ => ⟨h', tk, e', lv, kl, t'⟩) fun _ _ z => z)
  · obtain ⟨xs, hx, hb⟩ := Option.bind_eq_some_iff.mp hb
    replace hb := iteS hb
    obtain ⟨hl, hb⟩ := hb
    cases hb
    obtain ⟨a, vs, rfl, ht, rr⟩ := hr.tupleInv
    obtain ⟨h1, h2⟩ := assignEach_len (env := env) hx
    refine wpAny_assign_Tuple hh ht (by rw [h1, List.size_toArray, rr.length]; exact hl) h2 fun h' he => ?_
    have st := stays_ext he
    refine wpAny_mono (inOrder_ok _ xs _ vs { s with heap := h' } X ρ hx hl ho (t.stays st) (rr.stays st)) (fun _ s' ⟨h'', tk', e', lv', kl', t''⟩ => ⟨h'', tk', e', (Liv.stays st).trans lv', (KeepL.stays st).trans kl', t''⟩) fun _ _ z => z
  · obtain ⟨xs, hx, hb⟩ := Option.bind_eq_some_iff.mp hb
    replace hb := iteS hb
    obtain ⟨hl, hb⟩ := hb
    cases hb
    obtain ⟨a, vs, rfl, ht, rr, _⟩ := hr.listInv
    obtain ⟨h1, h2⟩ := assignEach_len (env := env) hx
    rw [arm_assign_Tuple]
    refine wpAny_bind (wpAny_standAt ?_)
    unfold unpack
    rw [h2, show (assignEach _ env).length = vs.toArray.size by rw [h1, List.size_toArray, rr.length]; exact hl]
    refine wpAny_bind (wpAny_holding (unpackItems_list hh ht fun h' he => ?_))
    have st := stays_ext he
    refine wpAny_mono (inOrder_ok _ xs _ vs { s with heap := h' } X ρ hx hl ho (t.stays st) (rr.stays st)) (fun _ s' ⟨h'', tk', e', lv', kl', t''⟩ => ⟨h'', tk', e', (Liv.stays st).trans lv', (KeepL.stays st).trans kl', t''⟩) fun _ _ z => z
  · cases hb
end
end Mine

namespace Mine
open PySem PySem.Calls PySem.Spec PyProof.Rows PySem.W PySem.SeqAt

/-- the addresses that a frame's statements may change -/
noncomputable def Mut (env : Env) (own : Str → Bool) (X : List (Str × Addr)) (a : Addr) : Prop :=
  a = env.locals ∨ (∃ x, own x = true ∧ env.kindOf x = some .cell ∧ env.cells.lookup x = some a) ∨ ∃ p ∈ X, p.2 = a
open Classical in
noncomputable def frz (env : Env) (own : Str → Bool) (X : List (Str × Addr)) (h : Heap) : Addr → Option Obj := fun a => if Mut env own X a then none else h.get? a

section
variable {prog : Program} {w : World} {A : Around} {s : Shared} {env : Env} {C : Cls} {H0 : Heap} {P : Addr → Prop} {B B' : Addr → Option Obj} {own : Str → Bool} {X : List (Str × Addr)} {ρ : Rho} {h h' : Heap} {k : Nat}

theorem frz_some {a : Addr} {o : Obj} (e : frz env own X h a = some o) : h.get? a = some o ∧ ¬ Mut env own X a := by
  unfold frz at e
  split at e
  · cases e
  · exact ⟨e, by assumption⟩
theorem frz_none {a : Addr} (e : frz env own X h a = none) : Mut env own X a ∨ h.get? a = none := by
  unfold frz at e
  split at e
  · exact .inl (by assumption)
  · exact .inr e
theorem frz_mut {a : Addr} (m : Mut env own X a) : frz env own X h a = none := by
  unfold frz; rw [if_pos m]
theorem frz_of {a : Addr} {o : Obj} (e : h.get? a = some o) (m : ¬ Mut env own X a) : frz env own X h a = some o := by
  unfold frz; rw [if_neg m]; exact e

theorem St.notMut (t : St C H0 P B env own X ρ h) {a : Addr} {o : Obj} (e : B a = some o) : ¬ Mut env own X a := by
  rintro (rfl | ⟨x, hx, hk, hc⟩ | ⟨p, hp, rfl⟩)
  · rw [t.bL] at e; cases e
  · rcases t.mine x hx with q | ⟨_, c, v, hc', _, hb⟩
    · rw [hk] at q; cases q
    · rw [hc] at hc'; cases hc'; rw [hb] at e; cases e
  · rw [(t.xs p hp).1] at e; cases e

/-- the base may grow to all that is not the frame's to change -/
theorem St.inflate (t : St C H0 P B env own X ρ h) : (∀ a o, B a = some o → frz env own X h a = some o) ∧ St C H0 P (frz env own X h) env own X ρ h := by
  have sub : ∀ a o, B a = some o → frz env own X h a = some o := fun a o e => frz_of (t.base a o e) (t.notMut e)
  refine ⟨sub, { fn := t.fn, gl := t.gl, bl := t.bl, h0 := fun a o e => sub a o (t.h0 a o e), base := fun a o e => (frz_some e).1, fresh := t.fresh, ns := t.ns, bL := frz_mut (.inl rfl), mine := ?_, apart := ?_, cells := t.cells, isCell := t.isCell, xs := ?_, xp := t.xp, xnd := t.xnd, xfn := t.xfn, vars := ?_ }⟩
  · intro x hx
    rcases t.mine x hx with q | ⟨hk, c, v, hc, hi, hb⟩
    · exact .inl q
    · exact .inr ⟨hk, c, v, hc, hi, frz_mut (.inr (.inl ⟨x, hx, hk, hc⟩))⟩
  · intro x y c hx hy hb
    cases q : B c with
    | none => exact t.apart x y c hx hy q
    | some o => rw [sub c o q] at hb; cases hb
  · intro p hp
    obtain ⟨_, b, r⟩ := t.xs p hp
    exact ⟨frz_mut (.inr (.inr ⟨p, hp, rfl⟩)), b, r⟩
  · intro x ent e
    obtain ⟨v, hv, he⟩ := t.vars x ent e
    refine ⟨v, hv, ?_⟩
    cases ent with
    | val d => exact he
    | own ds => exact he
    | slf ds => obtain ⟨y9, dx, hs9, tk9, a9, e1, e2, e3, r⟩ := he; exact ⟨y9, dx, hs9, tk9, a9, e1, sub _ _ e2, sub _ _ e3, r⟩
    | hdr ds => obtain ⟨y, dx, hs, tk, a, vs, n, e1, e2, e3, e4, e5, r⟩ := he; exact ⟨y, dx, hs, tk, a, vs, n, e1, sub _ _ e2, sub _ _ e3, e4, e5, r⟩

/-- one address given back by the base -/
noncomputable def hideB (B : Addr → Option Obj) (i : Addr) : Addr → Option Obj := fun a => if a = i then none else B a
theorem St.hide (t : St C H0 P B env own X ρ h) {I : Addr} {oI : Obj} {vs : Array Value} (hI : h.get? I = some oI) (hd : oI.data = .fields vs) (hn : H0.get? I = none) : St C H0 P (hideB B I) env own X ρ h := by
  have up : ∀ a o, hideB B I a = some o → B a = some o := fun a o e => by
    unfold hideB at e; split at e
    · cases e
    · exact e
  have dn : ∀ a o, B a = some o → a ≠ I → hideB B I a = some o := fun a o e n => by unfold hideB; rw [if_neg n]; exact e
  have no : ∀ a, B a = none → hideB B I a = none := fun a e => by unfold hideB; split <;> first | rfl | exact e
  refine { fn := t.fn, gl := t.gl, bl := t.bl, h0 := fun a o e => dn a o (t.h0 a o e) (fun q => by rw [q, hn] at e; cases e), base := fun a o e => t.base a o (up a o e), fresh := t.fresh, ns := t.ns, bL := no _ t.bL, mine := ?_, apart := ?_, cells := t.cells, isCell := t.isCell, xs := ?_, xp := t.xp, xnd := t.xnd, xfn := t.xfn, vars := ?_ }
  · intro x hx
    exact (t.mine x hx).imp id fun ⟨hk, c, v, hc, hi, hb⟩ => ⟨hk, c, v, hc, hi, no _ hb⟩
  · intro x y c hx hy hb
    by_cases hc : c = I
    · subst hc
      exfalso
      obtain ⟨v, o, ho, hd'⟩ := t.isCell x c hx
      rw [hI] at ho; cases ho; rw [hd] at hd'; cases hd'
    · exact t.apart x y c hx hy (by unfold hideB at hb; rw [if_neg hc] at hb; exact hb)
  · intro p hp
    obtain ⟨a, b, r⟩ := t.xs p hp
    exact ⟨no _ a, b, r⟩
  · intro x ent e
    obtain ⟨v, hv, he⟩ := t.vars x ent e
    refine ⟨v, hv, ?_⟩
    cases ent with
    | val d => exact he
    | own ds => exact he
    | slf ds => obtain ⟨y9, dx, hs9, tk9, a9, e1, e2, e3, r⟩ := he; exact ⟨y9, dx, hs9, tk9, a9, e1, dn _ _ e2 (fun q => by have := t.base _ _ e2; rw [q, hI] at this; cases this; cases hd), dn _ _ e3 (fun q => by have := t.base _ _ e3; rw [q, hI] at this; cases this; cases hd), r⟩
    | hdr ds =>
      obtain ⟨y, dx, hs, tk, a, vs', n, e1, e2, e3, e4, e5, r⟩ := he
      refine ⟨y, dx, hs, tk, a, vs', n, e1, dn _ _ e2 fun q => ?_, dn _ _ e3 fun q => ?_, e4, e5, r⟩
      · have := t.base _ _ e2; rw [q, hI] at this; cases this; cases hd
      · have := t.base _ _ e3; rw [q, hI] at this; cases this; cases hd

theorem hide_sub {I : Addr} : ∀ a o, hideB B I a = some o → B a = some o := fun a o e => by
  unfold hideB at e; split at e
  · cases e
  · exact e

/-- a place that is no data, no frame's: it may change -/
theorem St.ext (t : St C H0 P B env own X ρ h) {I : Addr} {oI : Obj} {vs : Array Value} (hI : h.get? I = some oI) (hd : oI.data = .fields vs) (hb : B I = none) (hx : Heap.ExtBut I h h') (hn : P I) :
    Liv (UU P env X) h h' ∧ St C H0 P B env own X ρ h' := by
  have ne : ∀ a o, h.get? a = some o → (∀ vs, o.data ≠ .fields vs) → a ≠ I := fun a o e n q => by rw [q, hI] at e; cases e; exact n _ hd
  have lv : ∀ {U : Addr → Prop}, Liv U h h' := by
    intro U v d as r _
    refine (reads_tr2 (G := fun _ => True) fun a o e dt _ => hx a o (ne a o e fun vs q => ?_) e).1 _ _ _ r fun _ _ => trivial
    rcases dt with ⟨_, _, z⟩ | ⟨_, _, z⟩ <;> rw [q] at z <;> cases z
  refine ⟨lv, { fn := t.fn, gl := t.gl, bl := t.bl, h0 := t.h0, base := fun a o e => hx a o (fun q => by rw [q, hb] at e; cases e) (t.base a o e), fresh := ?_, ns := ?_, bL := t.bL, mine := ?_, apart := t.apart, cells := t.cells, isCell := ?_, xs := ?_, xp := t.xp, xnd := t.xnd, xfn := t.xfn, vars := ?_ }⟩
  · intro b e
    by_cases hbI : b = I
    · subst hbI; exact hn
    · refine t.fresh b ?_
      cases q : h.get? b with
      | none => rfl
      | some o => rw [hx b o hbI q] at e; cases e
  · obtain ⟨m, o, es, ep, ho, hd', r⟩ := t.ns
    exact ⟨m, o, es, ep, hx _ _ (ne _ _ ho (fun _ q => by rw [hd'] at q; cases q)) ho, hd', r⟩
  · intro x hx'
    exact (t.mine x hx').imp id fun ⟨hk, c, v, hc, hi, hb⟩ => ⟨hk, c, v, hc, St.ext.cellx (hI := hI) (hd := hd) (hx := hx) hi, hb⟩
  · intro x c e
    obtain ⟨v, i⟩ := t.isCell x c e
    exact ⟨v, St.ext.cellx (hI := hI) (hd := hd) (hx := hx) i⟩
  · intro p hp
    obtain ⟨a, b, vs', n, e⟩ := t.xs p hp
    exact ⟨a, b, vs', n, hx _ _ (ne _ _ e (fun _ q => by cases q)) e⟩
  · intro x ent e
    obtain ⟨v, hv, he⟩ := t.vars x ent e
    refine ⟨v, ?_, ?_⟩
    · rcases hv with ⟨hk, m, ⟨o, es, ep, ho, hd', r⟩, e⟩ | ⟨hk, c, e, i⟩
      · exact .inl ⟨hk, m, ⟨o, es, ep, hx _ _ (ne _ _ ho (fun _ q => by rw [hd'] at q; cases q)) ho, hd', r⟩, e⟩
      · exact .inr ⟨hk, c, e, St.ext.cellx (hI := hI) (hd := hd) (hx := hx) i⟩
    · cases ent with
      | val d => exact lv.rep he
      | own ds => obtain ⟨a, vs', n, e1, e2, e3, r⟩ := he; exact ⟨a, vs', n, e1, e2, hx _ _ (ne _ _ e3 (fun _ q => by cases q)) e3, lv.all r⟩
      | slf ds => obtain ⟨y9, dx, hs9, tk9, a9, e1, e2, e3, r⟩ := he; exact ⟨y9, dx, hs9, tk9, a9, e1, e2, e3, lv.rep r⟩
      | hdr ds => obtain ⟨y, dx, hs, tk, a, vs', n, e1, e2, e3, e4, e5, r⟩ := he; exact ⟨y, dx, hs, tk, a, vs', n, e1, e2, e3, e4, hx _ _ (ne _ _ e5 (fun _ q => by cases q)) e5, lv.all r⟩
where
  cellx {h h' : Heap} {I : Addr} {oI : Obj} {vs : Array Value} {hI : h.get? I = some oI} {hd : oI.data = .fields vs} {hx : Heap.ExtBut I h h'} {c : Addr} {v : Option Value} (i : h.IsCell c v) : h'.IsCell c v := by
    obtain ⟨o, ho, hd'⟩ := i
    exact ⟨o, hx _ _ (fun q => by rw [q, hI] at ho; cases ho; rw [hd] at hd'; cases hd') ho, hd'⟩
end
end Mine

namespace Mine
open PySem PySem.Calls PySem.Spec PyProof.Rows PySem.W PySem.SeqAt

section
variable {prog : Program} {w : World} {A : Around} {s : Shared} {env : Env} {C : Cls} {H0 : Heap} {P : Addr → Prop} {B B' : Addr → Option Obj} {own : Str → Bool} {X X' : List (Str × Addr)} {ρ ρ' : Rho} {h h' : Heap} {k : Nat}

theorem St.seqNotMut (t : St C H0 P B env own X ρ h) {a : Addr} {o : Obj} (e : h.get? a = some o) (hd : (∃ vs n, o.data = .seq vs n) ∨ ∃ vs n, o.data = .dict vs n) (hu : UU P env X a ∨ o.cls = .type "tuple" ∧ ∃ vs n, o.data = .seq vs n) : ¬ Mut env own X a := by
  rintro (rfl | ⟨x, hx, hk, hc⟩ | ⟨p, hp, rfl⟩)
  · rcases hu with hu | ⟨_, vs, n, hu⟩
    · exact hu.2.1 rfl
    · obtain ⟨m, o', es, ep, ho, hd', _⟩ := t.ns
      rw [e] at ho; cases ho; rw [hu] at hd'; cases hd'
  · obtain ⟨v, o', ho, hd'⟩ := t.isCell x a hc
    rw [e] at ho; cases ho
    rcases hd with ⟨_, _, q⟩ | ⟨_, _, q⟩ <;> (rw [q] at hd'; cases hd')
  · rcases hu with hu | ⟨hu, _⟩
    · exact hu.2.2 p hp rfl
    · obtain ⟨_, _, vs, n, ho⟩ := t.xs p hp
      rw [e] at ho; cases ho
      exact absurd (show Value.type "list" = Value.type "tuple" from hu) (by decide)

theorem St.readsAll_frz (t : St C H0 P B env own X ρ h) (keep : ∀ a o, frz env own X h a = some o → h'.get? a = some o) {vs ds as} (r : ReadsAll h vs ds as) (u : ∀ a ∈ as, UU P env X a) : ReadsAll h' vs ds as :=
  (reads_tr2 fun a o e d g => keep a o (frz_of e (t.seqNotMut e d g))).2 _ _ _ r u

/-- data is as it was behind statements of the frame -/
theorem St.repAll_frz (t : St C H0 P B env own X ρ h) (t' : St C H0 P B' env own X' ρ' h') (sub : ∀ a o, frz env own X h a = some o → B' a = some o) {vs : List Value} {ds : List PyData} (r : RepAll (UU P env X) h vs ds) : RepAll (UU P env X') h' vs ds := by
  obtain ⟨as, r, u⟩ := r
  refine ⟨as, t.readsAll_frz (fun a o e => t'.base a o (sub a o e)) r u, fun a m => ⟨(u a m).1, (u a m).2.1, fun p hp q => ?_⟩⟩
  have hb := (t'.xs p hp).1
  obtain ⟨o, ho⟩ := repAll_new.readsAll_alloc r a m
  have hnm : ¬ Mut env own X a := by
    rintro (z | ⟨x, hx, hk, hc⟩ | ⟨p, hp, z⟩)
    · exact (u a m).2.1 z
    · obtain ⟨v, hi⟩ := t.isCell x a hc
      exact readsAll_nocell hi r m
    · exact (u a m).2.2 p hp z
  rw [q, sub a o (frz_of ho hnm)] at hb
  cases hb

/-- what a loop walks: a list's values, or ints -/
noncomputable def ValsAt (K : Option (List Value)) (items : List PyData) (U : Addr → Prop) (h : Heap) : Prop :=
  match K with
  | some vs => RepAll U h vs items
  | none => ∀ d ∈ items, ∃ i, d = PyData.int i

noncomputable def lotNames : List String := ["enumerate", "zip", "dict_itemiterator", "dict_reverseitemiterator", "odict_iterator", "itertools.zip_longest", "itertools.pairwise"]
structure Itr (prog : Program) (w : World) (A : Around) (I : Addr) (fp : List Addr) (items : List PyData) (K : Option (List Value)) (Pv : Nat → Value → Prop) (Sv : Nat → Heap → Prop) : Prop where
  W : Walks prog w A I fp [I] items.length Pv Sv
  hI : I ∈ fp
  flds : ∀ i h, Sv i h → ∃ o vs T, h.get? I = some o ∧ o.data = .fields vs ∧ o.cls = .type T ∧ lotNames.contains T = false
  seqs : ∀ i h, Sv i h → ∀ b ∈ fp, b ≠ I → ∃ o vs n, h.get? b = some o ∧ o.data = .seq vs n
  vals : ∀ i v, i < items.length → Pv i v → match K with | some vs => vs[i]? = some v | none => ∃ n t, v = .int n t ∧ items[i]? = some (.int n)

theorem Itr.val {I : Addr} {fp : List Addr} {items : List PyData} {K : Option (List Value)} {Pv : Nat → Value → Prop} {Sv : Nat → Heap → Prop} (it : Itr prog w A I fp items K Pv Sv) {U : Addr → Prop} {i : Nat} {v : Value} (hi : i < items.length) (p : Pv i v) (hv : ValsAt K items U h) :
    ∃ d, items[i]? = some d ∧ Rep U h v d := by
  have := it.vals i v hi p
  cases K with
  | some vs => exact RepAll.get' hv this
  | none => obtain ⟨n, t, rfl, e⟩ := this; exact ⟨_, e, .int _ _⟩

/-- the source of a loop or of a comprehension, walked -/
inductive IterPost (prog : Program) (w : World) (A : Around) (U : Addr → Prop) (s : Shared) (items : List PyData) (it : Value) (s' : Shared) : Prop
  | mk (h' : Heap) (tk : Nat) (I : Addr) (fp : List Addr) (K : Option (List Value)) (Pv : Nat → Value → Prop) (Sv : Nat → Heap → Prop) (e : s' = { s with heap := h', toks := tk }) (st : Stays s.heap h') (ei : it = .ref I) (i : Itr prog w A I fp items K Pv Sv) (s0 : Sv 0 h') (vl : ValsAt K items U h') (hn : s.heap.get? I = none) (hU : ∀ b ∈ fp, b ≠ I → U b)

theorem foldedSet_id {e : Expr} (env : Env) (x : Value) (h : ∀ a b c, e ≠ .Set a b c) : foldedSetIterable e env x = pure x := by
  cases e <;> first | rfl | exact absurd rfl (h _ _ _)

theorem iter_list {U : Addr → Prop} {ds : List PyData} {v : Value} (hh : A.handled = none) (r : Rep U s.heap v (.list ds)) : wpAny (model prog w) A (pyIter v) (IterPost prog w A U s ds) NoE s := by
  obtain ⟨a, vs, rfl, hl, rr, ua⟩ := r.listInv
  have hne : a ≠ s.heap.objs.size := by obtain ⟨o, ho, _⟩ := hl; exact Nat.ne_of_lt (Heap.lt_size ho)
  refine wpAny_pyIter_list hl ⟨_, s.toks, _, [s.heap.objs.size, a], some vs, (fun i v => vs.toArray[i]? = some v), (fun i h => h.IsListIter s.heap.objs.size a i ∧ h.IsList a vs.toArray), rfl, stays_push _ _, rfl, ?_, ?_, rr.stays (stays_push _ _), new_none _, ?_⟩
  · have W := Walks.list (prog := prog) (w := w) hh s.heap.objs.size a hne vs.toArray
    have hsize : vs.toArray.size = ds.length := by rw [List.size_toArray, rr.length]
    rw [hsize] at W
    refine ⟨W, by simp, fun i h ⟨⟨o, ho, hc, hd⟩, _⟩ => ⟨o, _, _, ho, hd, hc, by decide +kernel⟩, fun i h ⟨_, o, ho, _, n, hd⟩ b hb hbI => ?_, fun i v _ e => by simpa using e⟩
    simp at hb
    rcases hb with rfl | rfl
    · exact absurd rfl hbI
    · exact ⟨o, _, n, ho, hd⟩
  · exact ⟨⟨_, Heap.get?_push_size _ rfl, rfl, rfl⟩, hl.push _⟩
  · intro b hb hbI
    simp at hb
    rcases hb with rfl | rfl
    · exact absurd rfl hbI
    · exact ua

theorem iterPost_from {U : Addr → Prop} {h' : Heap} {tk : Nat} {items : List PyData} {v : Value} {s' : Shared} (k : Stays s.heap h') (x : IterPost prog w A U { s with heap := h', toks := tk } items v s') : IterPost prog w A U s items v s' := by
  obtain ⟨h'', tk', I, fp, K, Pv, Sv, e, st, ei, it, s0, vl, hn, hf⟩ := x
  exact ⟨h'', tk', I, fp, K, Pv, Sv, e, k.trans st, ei, it, s0, vl, none_of_stays k hn, hf⟩

theorem iter_rangeAt {U : Addr → Prop} {k : Int} {r : Addr} {t u v : Tok} (hh : A.handled = none) (h0 : 0 ≤ k) (h1 : k ≤ top) (hr : IsRange s.heap r 0 k 1 t u v) :
    wpAny (model prog w) A (pyIter (.ref r)) (IterPost prog w A U s ((List.range k.toNat).map fun (i : Nat) => PyData.int (i : Int))) NoE s := by
  have hsz : Builtin.Range.rangeSize 0 k 1 = (k.toNat : Int) := by rw [rangeSize_one]; split <;> omega
  refine wpAny_pyIter_range hr (small_one (by decide) (by decide) (by omega) (by unfold top at h1; omega)) ?_
  have W := Walks.range (prog := prog) (w := w) hh s.heap.objs.size 0 1 k.toNat
  refine ⟨_, s.toks, s.heap.objs.size, [s.heap.objs.size], none, (fun i v => ∃ t, v = .int (0 + (i : Nat) * 1) t), (fun i h => IsRangeIter h s.heap.objs.size (0 + (i : Nat) * 1) ((k.toNat : Int) - (i : Nat)) 1), rfl, stays_push _ _, rfl, ?_, ?_, ?_, new_none _, ?_⟩
  · have hlen : ((List.range k.toNat).map fun (i : Nat) => PyData.int (i : Int)).length = k.toNat := by simp
    refine ⟨by rw [hlen]; exact W, by simp, fun i h e => ⟨_, _, _, e, rfl, rfl, by decide +kernel⟩, fun i h _ b hb hbI => absurd (by simpa using hb) hbI, fun i v hi e => ?_⟩
    obtain ⟨t', rfl⟩ := e
    rw [hlen] at hi
    exact ⟨_, t', rfl, by simp [hi]⟩
  · have e : ((k.toNat : Int) - ((0 : Nat) : Int)) = Builtin.Range.rangeSize 0 k 1 := by rw [hsz]; simp
    show Heap.get? _ _ = _
    rw [e]
    exact Heap.get?_push_size _ rfl
  · intro d hd
    obtain ⟨i, _, rfl⟩ := List.mem_map.mp hd
    exact ⟨_, rfl⟩
  · intro b hb hbI
    exact absurd (by simpa using hb) hbI

theorem iter_range {U : Addr → Prop} {k : Int} {t : Tok} (hh : A.handled = none) (h0 : 0 ≤ k) (h1 : k ≤ top) :
    wpAny (model prog w) A (call (.type "range") [.int k t]) (fun x s₁ => wpAny (model prog w) A (pyIter x) (IterPost prog w A U s ((List.range k.toNat).map fun (i : Nat) => PyData.int (i : Int))) NoE s₁) NoE s := by
  refine call_range_1 ?_
  refine wpAny_mono (iter_rangeAt (s := { s with heap := s.heap.push _, toks := s.toks + 1 + 1 }) hh h0 h1 (IsRange.new ..)) (fun _ _ x => iterPost_from (stays_push _ _) x) fun _ _ x => x
end
end Mine

namespace Mine
open PySem PySem.Calls PySem.Spec PyProof.Rows PySem.W PySem.SeqAt

section
variable {prog : Program} {w : World} {A : Around} {s : Shared} {env : Env} {C : Cls} {H0 : Heap} {P U : Addr → Prop} {B B' : Addr → Option Obj} {own : Str → Bool} {X X' : List (Str × Addr)} {ρ ρ' : Rho} {h h' : Heap} {k : Nat} {mg mb : Str → Option Value}
variable {r : Md → Scope → Rho → Expr → Option PyData}

/-- an owned list changes; names that own others see nothing of it -/
theorem St.mutX (t : St C H0 P B env own X ρ h) {x : Str} {a : Addr} (hx : (x, a) ∈ X) (hs : Heap.SameBut a h h') {vs' : List Value} {n' : Nat} (ho : h'.get? a = some (lst vs' n')) :
    Liv (UU P env X) h h' ∧ St C H0 P B env own X (ρ.filter fun p => !(p.1 == x)) h' := by
  obtain ⟨hb, hL, vs, n, ha⟩ := t.xs _ hx
  have hD : Dead (UU P env X) h a := ⟨noTup_list ha, .inl fun q => q.2.2 _ hx rfl⟩
  have ne : ∀ c o, h.get? c = some o → (∀ vs n, o.data ≠ .seq vs n) → c ≠ a := fun c o e z q => by rw [q, ha] at e; cases e; exact z _ _ rfl
  have cell : ∀ c u, h.IsCell c u → h'.IsCell c u := fun c u i => i.sameBut hs (by obtain ⟨o, ho, hd⟩ := i; exact ne c o ho fun _ _ q => by rw [hd] at q; cases q)
  have nsk : ∀ m, h.Ns env.locals m → h'.Ns env.locals m := fun m i => i.sameBut hs (Ne.symm hL)
  refine ⟨hD.liv hs, { fn := t.fn, gl := t.gl, bl := t.bl, h0 := t.h0, base := fun c o e => (hs.2 c fun q => by rw [q, hb] at e; cases e).trans (t.base c o e), fresh := ?_, ns := let ⟨m, q⟩ := t.ns; ⟨m, nsk m q⟩, bL := t.bL, mine := ?_, apart := t.apart, cells := t.cells, isCell := fun y c e => let ⟨v, i⟩ := t.isCell y c e; ⟨v, cell _ _ i⟩, xs := ?_, xp := t.xp, xnd := t.xnd, xfn := t.xfn, vars := ?_ }⟩
  · intro b e
    by_cases q : b = a
    · subst q; rw [e] at ho; cases ho
    · exact t.fresh b (by rw [← hs.2 b q]; exact e)
  · exact fun y hy => (t.mine y hy).imp id fun ⟨hk, c, v, hc, hi, hb⟩ => ⟨hk, c, v, hc, cell _ _ hi, hb⟩
  · intro p hp
    obtain ⟨c, d, vs2, n2, e⟩ := t.xs p hp
    by_cases q : p.2 = a
    · exact ⟨c, d, vs', n', q ▸ ho⟩
    · exact ⟨c, d, vs2, n2, (hs.2 _ q).trans e⟩
  · intro y ent e
    have hy : y ≠ x ∧ look env.scope ρ y = some ent := by
      unfold look at e ⊢
      split at e
      · rename_i c
        refine ⟨fun q => ?_, ?_⟩
        · subst q; exact lookup_filter_ne e
        · rw [if_pos c]
          exact lookup_filter e
      · cases e
    obtain ⟨v, hv, he⟩ := t.vars y ent hy.2
    refine ⟨v, ?_, ?_⟩
    · rcases hv with ⟨hk, m, q, e⟩ | ⟨hk, c, e, i⟩
      · exact .inl ⟨hk, m, nsk m q, e⟩
      · exact .inr ⟨hk, c, e, cell _ _ i⟩
    · have hne : ∀ b, (y, b) ∈ X → b ≠ a := fun b hb q => hy.1 (t.xnd _ hb _ hx q)
      cases ent with
      | val d => exact (hD.liv hs).rep he
      | own ds => obtain ⟨b, vs2, n2, e1, e2, e3, rr⟩ := he; exact ⟨b, vs2, n2, e1, e2, (hs.2 _ (hne b e2)).trans e3, (hD.liv hs).all rr⟩
      | slf ds => obtain ⟨y9, dx, hs9, tk9, a9, e1, e2, e3, r⟩ := he; exact ⟨y9, dx, hs9, tk9, a9, e1, e2, e3, (hD.liv hs).rep r⟩
      | hdr ds => obtain ⟨z, dx, hh, tk, b, vs2, n2, e1, e2, e3, e4, e5, rr⟩ := he; exact ⟨z, dx, hh, tk, b, vs2, n2, e1, e2, e3, e4, (hs.2 _ (hne b e4)).trans e5, (hD.liv hs).all rr⟩
where
  lookup_filter_ne {ρ : Rho} {y : Str} {ent : Ent} (e : (ρ.filter fun p => !(p.1 == y)).lookup y = some ent) : False := by
    have := mem_of_lookup e
    have := (List.mem_filter.mp this).2
    simp at this
  lookup_filter {ρ : Rho} {x y : Str} {ent : Ent} (e : (ρ.filter fun p => !(p.1 == x)).lookup y = some ent) : ρ.lookup y = some ent := by
    induction ρ with
    | nil => simp at e
    | cons p r ih =>
      obtain ⟨z, ez⟩ := p
      rw [List.filter_cons] at e
      by_cases hz : z = x
      · subst hz
        simp only [beq_self_eq_true, Bool.not_true, Bool.false_eq_true, if_false] at e
        rw [List.lookup_cons]
        cases hyz : y == z with
        | true => exact absurd (by rw [← beq_iff_eq.mp hyz] at e; exact e) (fun q => lookup_filter_ne q)
        | false => exact ih e
      · have hz' : (z == x) = false := by simpa using hz
        simp only [hz', Bool.not_false, if_true] at e
        rw [List.lookup_cons] at e ⊢
        cases hyz : y == z with
        | true => rw [hyz] at e; exact e
        | false => rw [hyz] at e; exact ih e
end
end Mine

namespace Mine
open PySem PySem.Calls PySem.Spec PyProof.Rows PySem.W PySem.SeqAt

noncomputable def closOf (env : Env) : List (Str × NameKind) → List (Str × Addr) → List (Str × Addr)
  | [], acc => acc
  | (n, k) :: r, acc => if k == .free then closOf env r ((n, (env.cells.lookup n).getD 0) :: acc) else closOf env r acc

section
variable {prog : Program} {w : World} {A : Around} {s : Shared} {env : Env} {C : Cls} {H0 : Heap} {P U : Addr → Prop} {B B' : Addr → Option Obj} {own : Str → Bool} {X X' : List (Str × Addr)} {ρ ρ' : Rho} {h h' : Heap} {k : Nat} {mg mb : Str → Option Value}
variable {r : Md → Scope → Rho → Expr → Option PyData}

theorem closureFor_eq {scope : Scope} (hc : ∀ p ∈ scope.names, p.2 = .free → ∃ c, env.cells.lookup p.1 = some c) : closureFor scope env = pure (closOf env scope.names []) := by
  unfold closureFor
  have main : ∀ (names : List (Str × NameKind)) (acc : List (Str × Addr)), (∀ p ∈ names, p.2 = .free → ∃ c, env.cells.lookup p.1 = some c) →
      (forIn names acc fun (x : Str × NameKind) (cs : List (Str × Addr)) => if (x.2 == NameKind.free) = true then cellOf env x.1 >>= fun a => pure (ForInStep.yield ((x.1, a) :: cs)) else pure (ForInStep.yield cs) : Sem (List (Str × Addr))) = pure (closOf env names acc) := by
    intro names
    induction names with
    | nil => intro acc _; rfl
    | cons p rr ih =>
      intro acc hp
      obtain ⟨n, kd⟩ := p
      rw [List.forIn_cons]
      unfold closOf
      by_cases hk : (kd == NameKind.free) = true
      · simp only [hk, if_true]
        obtain ⟨c, hc⟩ := hp (n, kd) List.mem_cons_self (beq_iff_eq.mp hk)
        have e : cellOf env n = pure c := by unfold cellOf; rw [hc]
        rw [e, hc]
        exact ih _ fun q hq => hp q (List.mem_cons_of_mem _ hq)
      · simp only [hk, if_false, Bool.false_eq_true]
        exact ih _ fun q hq => hp q (List.mem_cons_of_mem _ hq)
  have := main scope.names [] hc
  exact congrArg (fun t : Sem (List (Str × Addr)) => t >>= fun cs => pure cs) this

theorem closOf_mem : ∀ (names : List (Str × NameKind)) (acc : List (Str × Addr)), (∀ p ∈ names, p.2 = .free → ∃ c, env.cells.lookup p.1 = some c) → ∀ x c, (x, c) ∈ closOf env names acc → (x, c) ∈ acc ∨ ((x, NameKind.free) ∈ names ∧ env.cells.lookup x = some c)
  | [], _, _, _, _, m => .inl m
  | (n, kd) :: r, acc, hp, x, c, m => by
    unfold closOf at m
    split at m
    · rename_i hk
      have hk := beq_iff_eq.mp hk
      subst hk
      rcases closOf_mem r _ (fun q hq => hp q (List.mem_cons_of_mem _ hq)) x c m with q | ⟨q, e⟩
      · rcases List.mem_cons.mp q with q | q
        · obtain ⟨c', hc⟩ := hp (n, .free) List.mem_cons_self rfl
          simp only [Prod.mk.injEq] at q
          obtain ⟨rfl, rfl⟩ := q
          exact .inr ⟨List.mem_cons_self, by rw [hc]; rfl⟩
        · exact .inl q
      · exact .inr ⟨List.mem_cons_of_mem _ q, e⟩
    · rcases closOf_mem r _ (fun q hq => hp q (List.mem_cons_of_mem _ hq)) x c m with q | ⟨q, e⟩
      · exact .inl q
      · exact .inr ⟨List.mem_cons_of_mem _ q, e⟩
theorem closOf_keys : ∀ (names : List (Str × NameKind)) (acc : List (Str × Addr)) (x : Str), ((x, NameKind.free) ∈ names ∨ (acc.lookup x).isSome = true) → ((closOf env names acc).lookup x).isSome = true
  | [], _, _, m => m.elim (fun q => nomatch q) id
  | (n, kd) :: r, acc, x, m => by
    unfold closOf
    split
    · refine closOf_keys r _ x ?_
      rw [List.lookup_cons]
      cases hx : x == n with
      | true => exact .inr rfl
      | false =>
        refine m.imp (fun q => ?_) id
        rcases List.mem_cons.mp q with q | q
        · cases q; simp at hx
        · exact q
    · rename_i hk
      refine closOf_keys r _ x (m.imp (fun q => ?_) id)
      rcases List.mem_cons.mp q with q | q
      · cases q; exact absurd rfl hk
      · exact q

theorem cellsFrom_app : ∀ (names : List (Str × NameKind)) (n : Nat) (acc : List (Str × Addr)), cellsFrom n names acc = cellsFrom n names [] ++ acc
  | [], _, _ => rfl
  | (x, kd) :: r, n, acc => by
    unfold cellsFrom
    split
    · rw [cellsFrom_app r (n + 1) ((x, n) :: acc), cellsFrom_app r (n + 1) [(x, n)], List.append_assoc]; rfl
    · exact cellsFrom_app r n acc
theorem cellsFrom_mem : ∀ (names : List (Str × NameKind)) (n : Nat) (x : Str) (c : Addr), (x, c) ∈ cellsFrom n names [] → (x, NameKind.cell) ∈ names ∧ n ≤ c
  | [], _, _, _, m => nomatch m
  | (y, kd) :: r, n, x, c, m => by
    unfold cellsFrom at m
    split at m
    · rename_i hk
      have hk := beq_iff_eq.mp hk
      subst hk
      rw [cellsFrom_app] at m
      rcases List.mem_append.mp m with q | q
      · obtain ⟨a, b⟩ := cellsFrom_mem r (n + 1) x c q; exact ⟨List.mem_cons_of_mem _ a, by omega⟩
      · simp at q; obtain ⟨rfl, rfl⟩ := q; exact ⟨List.mem_cons_self, Nat.le_refl _⟩
    · obtain ⟨a, b⟩ := cellsFrom_mem r n x c m; exact ⟨List.mem_cons_of_mem _ a, b⟩

noncomputable def compEnv1 (scope : Scope) (env : Env) (L : Addr) (cl : List (Str × Addr)) : Env :=
  { scope := scope, locals := L, globals := env.globals, cells := cellsFrom (L + 1) scope.names cl, qual := env.qual, func := none, code := env.code, frame := env.frame, builtins := env.builtins }

theorem newCompEnv {E : Value → Shared → Prop} {scope : Scope} {cl : List (Str × Addr)} {Q : Env → Shared → Prop}
    (hQ : Q (compEnv1 scope env s.heap.objs.size cl) { s with heap := pushCells (s.heap.push { cls := .type "dict", data := .dict #[] }) scope.names }) :
    wpAny (model prog w) A (newFunctionEnv scope env.globals cl [] env.qual none .none (some env)) Q E s := by
  simp only [newFunctionEnv, Option.isSome_some, if_true]
  refine wpAny_bind (wpAny_alloc ?_)
  refine wpAny_bind (wpAny_layCells _ (fun name kind cells => by cases hkc : kind == NameKind.cell <;> simp [hkc]) _ _ _ _ ?_)
  rw [show ({ s with heap := s.heap.push { cls := .type "dict", data := .dict #[] } } : Shared).heap.objs.size = s.heap.objs.size + 1 from Heap.size_push ..]
  exact wpAny_pure hQ
end
end Mine

namespace Mine
open PySem PySem.Calls PySem.Spec PyProof.Rows PySem.W PySem.SeqAt

noncomputable def testsOf (ifs : List Expr) (env : Env) : Sem Bool :=
  forIn ifs true fun c r => if r = true then do let ok ← isTrue c env (eval c env); pure (ForInStep.yield ok) else pure (ForInStep.yield r)

theorem compTurn_wp {M : Model} {A : Around} {E : Value → Shared → Prop} {s : Shared} {elt : Expr} {gens : List Comprehension} {scope : Scope} {pos : Pos} {j : Nat} {it acc : Value} {env : Env} {g : Comprehension} {Q : PySem.Fin → Shared → Prop} (hg : gens[j]? = some g) (ha : g.is_async = 0)
    (h : wpAny M A (pyNext it) (fun r s₁ => match r with
      | none => Q (.done .next) s₁
      | some v => wpAny M A (letOwnedTupleGo g.target it v) (fun _ s₂ => wpAny M A (assign g.target env v) (fun _ s₃ => wpAny M A (testsOf g.ifs env) (fun ok s₄ => if ok = true then (match gens[j + 1]? with
          | some g' => g'.is_async = 0 ∧ wpAny M A (eval g'.iter env) (fun x s₅ => wpAny M A (foldedSetIterable g'.iter env x) (fun x s₆ => wpAny M A (pyIter x) (fun it' s₇ =>
              wpAny M A (runOwn (.compStart (.ListComp elt gens scope pos) (j + 1) it' acc env) env) (fun _ s₈ => Q (.again (.compLoop (.ListComp elt gens scope pos) j it acc env)) s₈) E s₇) E s₆) E s₅) E s₄
          | none => wpAny M A (eval elt env) (fun x s₅ => wpAny M A (call (.builtin "list.append") [acc, x]) (fun _ s₆ => Q (.again (.compLoop (.ListComp elt gens scope pos) j it acc env)) s₆) E s₅) E s₄)
        else Q (.again (.compLoop (.ListComp elt gens scope pos) j it acc env)) s₄) E s₃) E s₂) E s₁) E s) :
    wpAny M A (compTurn (.ListComp elt gens scope pos) j it acc env) Q E s := by
  unfold compTurn
  simp only [hg, ha]
  refine wpAny_bind (wpAny_standAt ?_)
  rw [if_neg (by decide)]
  refine wpAny_bind (wpAny_mono h (fun r s₁ h₁ => ?_) fun _ _ x => x)
  cases r with
  | none => exact wpAny_pure h₁
  | some v =>
    refine wpAny_bind (wpAny_mono h₁ (fun _ s₂ h₂ => ?_) fun _ _ x => x)
    refine wpAny_bind (wpAny_mono h₂ (fun _ s₃ h₃ => ?_) fun _ _ x => x)
    refine wpAny_bind (wpAny_mono h₃ (fun ok s₄ h₄ => ?_) fun _ _ x => x)
    cases ok with
    | false =>
      simp only [Bool.false_eq_true, if_false] at h₄ ⊢
      exact wpAny_pure h₄
    | true =>
      simp only [if_true] at h₄ ⊢
      cases hj : gens[j + 1]? with
      | none =>
        simp only [hj] at h₄ ⊢
        exact wpAny_bind (wpAny_bind (wpAny_mono h₄ (fun x s₅ h₅ => wpAny_bind (wpAny_mono h₅ (fun _ s₆ h₆ => wpAny_pure (wpAny_pure h₆)) fun _ _ x => x)) fun _ _ x => x))
      | some g' =>
        simp only [hj] at h₄ ⊢
        obtain ⟨ha', h₄⟩ := h₄
        refine wpAny_bind (wpAny_mono h₄ (fun x s₅ h₅ => wpAny_bind (wpAny_standAt ?_)) fun _ _ x => x)
        simp only [ha']
        rw [if_neg (by decide)]
        refine wpAny_bind (wpAny_mono h₅ (fun x' s₆ h₆ => ?_) fun _ _ x => x)
        rw [if_neg (by decide)]
        refine wpAny_bind (wpAny_holding (wpAny_mono h₆ (fun it' s₇ h₇ => ?_) fun _ _ x => x))
        exact wpAny_bind (wpAny_mono h₇ (fun _ s₈ h₈ => wpAny_pure h₈) fun _ _ x => x)

theorem codeAny_compStart_at {prog : Program} {w : World} {A : Around} {R : Result → Shared → Prop} {s : Shared} {elt : Expr} {gens : List Comprehension} {scope : Scope} {pos : Pos} {j : Nat} {it acc : Value} {env : Env} {g : Comprehension} (hg : gens[j]? = some g) (ha : g.is_async = 0)
    (h0 : codeAny (model prog w) A (.compLoop (.ListComp elt gens scope pos) j it acc env) R s)
    (h : wpAny (model prog w) A (pyIter it) (fun it' s' => codeAny (model prog w) A (.compLoop (.ListComp elt gens scope pos) j it' acc env) R s') NoE s) :
    codeAny (model prog w) A (.compStart (.ListComp elt gens scope pos) j it acc env) R s := by
  refine codeAny_of_tree ?_
  show wpAny _ _ ((compStart (.ListComp elt gens scope pos) j it acc env).onRaise (fun x => do noteFrame x env; standAt theWindowsPlace)) _ _ s
  refine wpAny_notedAt ?_
  unfold compStart
  have hc : clausesOf (.ListComp elt gens scope pos) = gens := rfl
  simp only [hc, hg, Option.elim_some, ha]
  rw [if_neg (by decide)]
  refine wpAny_bind (wpAny_askSetting (wpAny_ite ?_))
  have h' : wpAny (model prog w) A (pyIter it) (fun it' s' => codeAny (model prog w) A (.compLoop (.ListComp elt gens scope pos) j it' acc env) R s') (notedBy (model prog w) A env fun x s' => R (.error x) s') s := wpAny_mono h (fun _ _ x => x) fun _ _ x => x.elim
  split
  · first
      | exact wpAny_bind (wpAny_pure (wpAny_pure (And.intro rfl h0)))
      | exact wpAny_pure (And.intro rfl h0)
  · exact wpAny_bind (wpAny_rule (wpAny_bind (wpAny_standAt (wpAny_bind (wpAny_mono h' (fun it' s' h' => wpAny_pure (And.intro rfl h')) fun _ _ x => x)))))

theorem codeAny_compLoop_turn {prog : Program} {w : World} {A : Around} {R : Result → Shared → Prop} {s : Shared} {elt : Expr} {gens : List Comprehension} {scope : Scope} {pos : Pos} {j : Nat} {it acc : Value} {env : Env}
    (h : wpAny (model prog w) A (compTurn (.ListComp elt gens scope pos) j it acc env) (fun fin s' => match fin with | .done f => R (.ok f) s' | .again c' => c'.quiet = true ∧ codeAny (model prog w) A c' R s') NoE s) :
    codeAny (model prog w) A (.compLoop (.ListComp elt gens scope pos) j it acc env) R s := by
  refine codeAny_of_tree ?_
  show wpAny _ A ((compTurn (.ListComp elt gens scope pos) j it acc env).onRaise (fun x => do noteFrame x env; theTreesLotGoes x)) _ _ s
  exact wpAny_noted (wpAny_mono h (fun _ _ x => x) fun _ _ x => x.elim)
end Mine

namespace Mine
open PySem PySem.Calls PySem.Spec PyProof.Rows PySem.W PySem.SeqAt

section
variable {prog : Program} {w : World} {A : Around} {s : Shared} {env : Env} {C : Cls} {H0 : Heap} {P U : Addr → Prop} {B B' : Addr → Option Obj} {own : Str → Bool} {X X' : List (Str × Addr)} {ρ ρ' : Rho} {h h' : Heap} {k : Nat} {mg mb : Str → Option Value}
variable {r : Md → Scope → Rho → Expr → Option PyData}

theorem St.weaken (t : St C H0 P B env own X ρ h) (q : ∀ x ent, look env.scope ρ' x = some ent → look env.scope ρ x = some ent) : St C H0 P B env own X ρ' h :=
  { t with vars := fun x ent e => t.vars x ent (q x ent e) }

theorem tests_ok (S : Snd prog w H0 C k r) (rm : Room A k) {ifs : List Expr} {t : Bool} (c : Cx C H0 U env ρ s.heap) (e : evTests r env.scope ρ ifs = some t) :
    wpAny (model prog w) A (testsOf ifs env) (fun ok s' => ok = t ∧ ∃ h' tk, s' = { s with heap := h', toks := tk } ∧ Stays s.heap h') NoE s := by
  unfold evTests at e
  split at e
  · cases e
    exact wpAny_tests_nil ⟨rfl, s.heap, s.toks, rfl, Stays.refl _⟩
  · obtain ⟨d, hd, e⟩ := Option.bind_eq_some_iff.mp e
    refine wpAny_tests_one (thenT ((S _ _ _ _ _ _ _ _ rfl c rm).2.2 hd) fun b h' tk st q => ?_)
    subst q
    simp only [truthD, Option.some.injEq] at e
    exact ⟨e, h', tk, rfl, st⟩
  · cases e

theorem lot_ok {M : Model} {E : Value → Shared → Prop} {target : Expr} {I : Addr} {v : Value} {o : Obj} {vs : Array Value} {T : String} {Q : Unit → Shared → Prop} (ho : s.heap.get? I = some o) (hd : o.data = .fields vs) (hc : o.cls = .type T) (hT : lotNames.contains T = false) (q : Q () s) :
    wpAny M A (letOwnedTupleGo target (.ref I) v) Q E s := by
  have fin : ∀ (target : Expr) (a : Addr), (∃ es k p, target = .Tuple es k p) ∨ (∃ es p, target = .List es p) → wpAny M A (letOwnedTupleGo target (.ref I) (.ref a)) Q E s := by
    rintro target a (⟨es, k, p, rfl⟩ | ⟨es, p, rfl⟩) <;>
    · unfold letOwnedTupleGo
      refine wpAny_bind (wpAny_load ho ?_)
      simp only [hc, hd]
      refine wpAny_ite ?_
      have hT' : (["enumerate", "zip", "dict_itemiterator", "dict_reverseitemiterator", "odict_iterator", "itertools.zip_longest", "itertools.pairwise"].contains T) = false := hT
      rw [hT', Bool.false_and, if_neg Bool.false_ne_true]
      exact wpAny_pure q
  cases target <;> first | exact wpAny_pure q | (cases v <;> first | exact wpAny_pure q | exact fin _ _ (.inl ⟨_, _, _, rfl⟩) | exact fin _ _ (.inr ⟨_, _, rfl⟩))

theorem itemsD_ok (S : Snd prog w H0 C k r) (G : Ground0 mg mb H0) (rm : Room A k) (c : Cx C H0 U env ρ s.heap) {ie : Expr} {items : List PyData} (e : itemsD r env.scope ρ ie = some items) :
    (∀ x, foldedSetIterable ie env x = pure x) ∧ wpAny (model prog w) A (eval ie env) (fun x s₁ => wpAny (model prog w) A (pyIter x) (IterPost prog w A U s items) NoE s₁) NoE s := by
  have plain : ∀ d, r .value env.scope ρ ie = some d → (match d with | .list ds => some ds | _ => none) = some items → wpAny (model prog w) A (eval ie env) (fun x s₁ => wpAny (model prog w) A (pyIter x) (IterPost prog w A U s items) NoE s₁) NoE s := by
    intro d hd q
    cases d <;> simp only [reduceCtorEq, Option.some.injEq] at q
    subst q
    refine thenV ((S _ _ _ _ _ _ _ _ rfl c rm).1 hd) fun v h' tk st rp => ?_
    exact wpAny_mono (iter_list (s := { s with heap := h', toks := tk }) rm.handled rp) (fun _ _ z => iterPost_from st z) fun _ _ z => z
  unfold itemsD at e
  split at e
  · refine ⟨fun x => rfl, ?_⟩
    rename_i f fp a p
    split at e
    · rename_i hf
      simp only [Bool.and_eq_true, beq_iff_eq, Bool.not_eq_true'] at hf
      obtain ⟨⟨rfl, hk⟩, hs⟩ := hf
      obtain ⟨d, hd, e⟩ := Option.bind_eq_some_iff.mp e
      cases d <;> simp only [reduceCtorEq] at e
      replace e := iteS e
      obtain ⟨hr, e⟩ := e
      cases e
      simp only [Bool.and_eq_true, decide_eq_true_eq] at hr
      refine Call_ (built_ok G c hk (by decide) G.range ?_)
      refine PyProof.Rows.callWith_type1 ?_ (star_cons hs) rfl
      refine wpAny_items_cons ?_ (star_cons hs)
      refine thenV ((S _ _ _ _ _ _ _ _ rfl c rm).1 hd) fun v h' tk st rp => wpAny_items_nil ?_
      obtain ⟨t, rfl⟩ := rp.intInv
      refine wpAny_mono (iter_range (s := { s with heap := h', toks := tk }) rm.handled hr.1 hr.2) (fun x s₁ z => wpAny_mono z (fun _ _ y => iterPost_from st y) fun _ _ y => y) fun _ _ z => z
    · obtain ⟨d, hd, e⟩ := Option.bind_eq_some_iff.mp e
      exact plain d hd e
  · split at e
    · cases e
    · rename_i hs
      obtain ⟨d, hd, e⟩ := Option.bind_eq_some_iff.mp e
      refine ⟨fun x => foldedSet_id env x fun a b c q => ?_, plain d hd e⟩
      rw [q] at hs; exact hs rfl

theorem lookup_sets {sc : Scope} : ∀ (b : List (Str × PyData)) (ρ : Rho) (x : Str) (ent : Ent), (∀ p ∈ b, p.1 ≠ x) → look sc ρ x = some ent → look sc (ρ.sets b) x = some ent
  | [], _, _, _, _, e => e
  | p :: b, ρ, x, ent, n, e => by
    refine lookup_sets b (ρ.set p.1 (.val p.2)) x ent (fun q hq => n q (List.mem_cons_of_mem _ hq)) ?_
    unfold look at e ⊢
    replace e := iteS e
    obtain ⟨c, e⟩ := e
    rw [if_pos c]
    unfold Rho.set
    have hne : (x == p.1) = false := by simpa using Ne.symm (n p List.mem_cons_self)
    rw [List.lookup_cons, hne]
    clear c
    induction ρ with
    | nil => exact e
    | cons y r ih =>
      obtain ⟨y, ey⟩ := y
      rw [List.filter_cons]
      rw [List.lookup_cons] at e
      by_cases hy : (y == p.1) = true
      · rw [hy]
        simp only [Bool.not_true, Bool.false_eq_true, if_false]
        cases hxy : x == y with
        | true => rw [beq_iff_eq.mp hxy, hy] at hne; cases hne
        | false => rw [hxy] at e; exact ih e
      · simp only [hy, Bool.not_false, if_true]
        rw [List.lookup_cons]
        cases hxy : x == y with
        | true => rw [hxy] at e; exact e
        | false => rw [hxy] at e; exact ih e
theorem dropXs_other (D : Addr) {z : Str} : ∀ (b : List (Str × PyData)), (∀ p ∈ b, p.1 ≠ z) → dropXs [(z, D)] b = [(z, D)]
  | [], _ => rfl
  | p :: b, n => by
    have : dropX [(z, D)] p.1 = [(z, D)] := by
      unfold dropX
      have hne : (z == p.1) = false := by simpa using Ne.symm (n p List.mem_cons_self)
      simp [hne]
    show dropXs (dropX [(z, D)] p.1) b = _
    rw [this]
    exact dropXs_other D b fun q hq => n q (List.mem_cons_of_mem _ hq)
end
end Mine

namespace Mine
open PySem PySem.Calls PySem.Spec PyProof.Rows PySem.W PySem.SeqAt

section
variable {prog : Program} {w : World} {A : Around} {s : Shared} {env : Env} {C : Cls} {H0 : Heap} {P U : Addr → Prop} {B B' : Addr → Option Obj} {own : Str → Bool} {X X' : List (Str × Addr)} {ρ ρ' : Rho} {h h' : Heap} {k : Nat} {mg mb : Str → Option Value}
variable {r : Md → Scope → Rho → Expr → Option PyData}

theorem ValsAt.liv {K : Option (List Value)} {items : List PyData} {U : Addr → Prop} (lv : Liv U h h') (v : ValsAt K items U h) : ValsAt K items U h' := by
  cases K with
  | some vs => exact lv.all v
  | none => exact v
theorem ValsAt.stays {K : Option (List Value)} {items : List PyData} {U : Addr → Prop} (st : Stays h h') (v : ValsAt K items U h) : ValsAt K items U h' := v.liv (.stays st)
theorem ValsAt.frz {K : Option (List Value)} {items : List PyData} (t : St C H0 P B env own X ρ h) (t' : St C H0 P B' env own X' ρ' h') (sub : ∀ a o, frz env own X h a = some o → B' a = some o) (v : ValsAt K items (UU P env X) h) : ValsAt K items (UU P env X') h' := by
  cases K with
  | some vs => exact t.repAll_frz t' sub v
  | none => exact v

/-- the walked thing's own objects stay where nothing of the frame's changes them -/
theorem Itr.keep {I : Addr} {fp : List Addr} {items : List PyData} {K : Option (List Value)} {Pv : Nat → Value → Prop} {Sv : Nat → Heap → Prop} (it : Itr prog w A I fp items K Pv Sv) (t : St C H0 P B env own X ρ h) (hU : ∀ b ∈ fp, b ≠ I → UU P env X b) {i : Nat} (sv : Sv i h)
    (keep : ∀ a o, frz env own X h a = some o → h'.get? a = some o) : Sv i h' := by
  refine it.W.frame i h h' sv fun b hb o e => keep b o (frz_of e ?_)
  by_cases hbI : b = I
  · subst hbI
    obtain ⟨o', vs, T, ho, hd, _⟩ := it.flds i h sv
    rintro (rfl | ⟨x, hx, hk, hc⟩ | ⟨p, hp, rfl⟩)
    · obtain ⟨m, o2, es, ep, ho2, hd2, _⟩ := t.ns
      rw [ho] at ho2; cases ho2; rw [hd] at hd2; cases hd2
    · obtain ⟨v, o2, ho2, hd2⟩ := t.isCell x b hc
      rw [ho] at ho2; cases ho2; rw [hd] at hd2; cases hd2
    · obtain ⟨_, _, vs2, n2, ho2⟩ := t.xs p hp
      rw [ho] at ho2; cases ho2; cases hd
  · obtain ⟨o', vs, n, ho, hd⟩ := it.seqs i h sv b hb hbI
    rw [e] at ho; cases ho
    exact t.seqNotMut e (.inl ⟨_, _, hd⟩) (.inl (hU b hb hbI))

theorem lookup_keep {ρ : Rho} {x y : Str} {ent : Ent} (hn : y ≠ x) (e : ρ.lookup y = some ent) : (ρ.filter fun p => !(p.1 == x)).lookup y = some ent := by
  induction ρ with
  | nil => exact e
  | cons p r ih =>
    obtain ⟨z, ez⟩ := p
    rw [List.filter_cons]
    rw [List.lookup_cons] at e
    by_cases hz : (z == x) = true
    · simp only [hz, Bool.not_true, Bool.false_eq_true, if_false]
      cases hyz : y == z with
      | true => exact absurd ((beq_iff_eq.mp hyz).trans (beq_iff_eq.mp hz)) hn
      | false => rw [hyz] at e; exact ih e
    · simp only [hz, Bool.not_false, if_true]
      rw [List.lookup_cons]
      cases hyz : y == z with
      | true => rw [hyz] at e; exact e
      | false => rw [hyz] at e; exact ih e
theorem own1_z {scope : Scope} (h : (scope.names.lookup zName).isNone = true) : own1 scope zName = false := by
  unfold own1
  rw [Option.isNone_iff_eq_none.mp h]

/-- what a turn does behind its tests: the element appended, or the next clause's loop -/
noncomputable def InnerOk (prog : Program) (w : World) (A : Around) (C : Cls) (H0 : Heap) (P : Addr → Prop) (r : Md → Scope → Rho → Expr → Option PyData) (elt : Expr) (gens : List Comprehension) (scope : Scope) (pos : Pos) (cenv : Env) (D : Addr) (gs : List Comprehension) (j : Nat) : Prop :=
  ∀ (ρ1 : Rho) (B : Addr → Option Obj) (done l : List PyData) (vs : List Value) (n : Nat) (s : Shared) (Q : Shared → Prop),
    evG r scope cenv.scope elt gs ρ1 (match gs with | [] => none | g' :: _ => itemsD r cenv.scope ρ1 g'.iter) = some l → (done ++ l).length ≤ top →
    St C H0 P B cenv (own1 scope) [(zName, D)] ρ1 s.heap → s.heap.get? D = some (lst vs n) → RepAll (UU P cenv [(zName, D)]) s.heap vs done →
    (∀ B' h' tk vs' n', (∀ a o, B a = some o → B' a = some o) → St C H0 P B' cenv (own1 scope) [(zName, D)] ρ1 h' → h'.get? D = some (lst vs' n') → RepAll (UU P cenv [(zName, D)]) h' vs' (done ++ l) → Q { s with heap := h', toks := tk }) →
    match gens[j + 1]? with
    | some g' => g'.is_async = 0 ∧ wpAny (model prog w) A (eval g'.iter cenv) (fun x s₅ => wpAny (model prog w) A (foldedSetIterable g'.iter cenv x) (fun x s₆ => wpAny (model prog w) A (pyIter x) (fun it' s₇ =>
        wpAny (model prog w) A (runOwn (.compStart (.ListComp elt gens scope pos) (j + 1) it' (.ref D) cenv) cenv) (fun _ s₈ => Q s₈) NoE s₇) NoE s₆) NoE s₅) NoE s
    | none => wpAny (model prog w) A (eval elt cenv) (fun x s₅ => wpAny (model prog w) A (call (.builtin "list.append") [.ref D, x]) (fun _ s₆ => Q s₆) NoE s₅) NoE s

noncomputable def LoopOk (prog : Program) (w : World) (A : Around) (C : Cls) (H0 : Heap) (P : Addr → Prop) (r : Md → Scope → Rho → Expr → Option PyData) (elt : Expr) (gens : List Comprehension) (scope : Scope) (pos : Pos) (cenv : Env) (D : Addr) (gs : List Comprehension) (j : Nat) : Prop :=
  ∀ (items : List PyData) (ρ0 : Rho) (B₀ : Addr → Option Obj) (I : Addr) (fp : List Addr) (all : List PyData) (i : Nat) (K : Option (List Value)) (Pv : Nat → Value → Prop) (Sv : Nat → Heap → Prop) (done out : List PyData) (vs : List Value) (n : Nat) (s : Shared) (R : Result → Shared → Prop),
      all.drop i = items → i ≤ all.length → evG r scope cenv.scope elt gs ρ0 (some items) = some out → (done ++ out).length ≤ top →
      St C H0 P B₀ cenv (own1 scope) [(zName, D)] ρ0 s.heap → B₀ I = none → H0.get? I = none → P I → Itr prog w A I fp all K Pv Sv → Sv i s.heap → ValsAt K all (UU P cenv [(zName, D)]) s.heap → (∀ b ∈ fp, b ≠ I → UU P cenv [(zName, D)] b) →
      s.heap.get? D = some (lst vs n) → RepAll (UU P cenv [(zName, D)]) s.heap vs done →
      (∀ B' h' tk vs' n', (∀ a o, B₀ a = some o → B' a = some o) → St C H0 P B' cenv (own1 scope) [(zName, D)] ρ0 h' → h'.get? D = some (lst vs' n') → RepAll (UU P cenv [(zName, D)]) h' vs' (done ++ out) → R (.ok .next) { s with heap := h', toks := tk }) →
      codeAny (model prog w) A (.compLoop (.ListComp elt gens scope pos) j (.ref I) (.ref D) cenv) R s

variable {elt : Expr} {gens : List Comprehension} {scope : Scope} {pos : Pos} {cenv : Env} {D : Addr}

theorem inner_nil (S : Snd prog w H0 C k r) (rm : Room A k) (hzc : isVar (cenv.scope.names.lookup zName) = false) {j : Nat} (hgj1 : gens[j + 1]? = none) : InnerOk prog w A C H0 P r elt gens scope pos cenv D [] j := by
  intro ρ1 B done l vs n s Q hl hlen t hD rd fin
  rw [hgj1]
  obtain ⟨de, hde, rfl⟩ := Option.map_eq_some_iff.mp hl
  refine thenV ((S _ _ _ _ cenv A s _ rfl t.cx rm).1 hde) fun ve h₄ tk₄ st₄ re => ?_
  have t₄ := t.stays st₄
  have hD₄ := st₄ _ _ hD
  have rd₄ := rd.stays st₄
  refine wpAny_list_append_plain (s := { s with heap := h₄, toks := tk₄ }) (items := vs.toArray) ⟨n, hD₄⟩ (fun h₅ ⟨n₅, hD₅⟩ hs₅ => ?_) (by rw [List.size_toArray, rd₄.length]; rw [List.length_append] at hlen; exact Nat.le_trans (by omega) top_le)
  have hD₅' : h₅.get? D = some (lst (vs ++ [ve]) n₅) := by rw [hD₅]; simp
  obtain ⟨lv₅, t₅⟩ := t₄.mutX (x := zName) (a := D) (by simp) hs₅ hD₅'
  refine fin B h₅ tk₄ (vs ++ [ve]) n₅ (fun _ _ e => e) (t₅.weaken fun x ent e => ?_) hD₅' ((lv₅.all rd₄).append (.cons (lv₅.rep re) .nil))
  unfold look at e ⊢
  replace e := iteS e
  obtain ⟨cc, e⟩ := e
  rw [if_pos cc]
  exact lookup_keep (fun q => by rw [q, hzc] at cc; cases cc) e

set_option maxHeartbeats 1000000 in
theorem loop_of_inner (S : Snd prog w H0 C k r) (rm : Room A k) (hz : (scope.names.lookup zName).isNone = true) {j : Nat} {g : Comprehension} {gs : List Comprehension} (hgj : gens[j]? = some g) (hga : g.is_async = 0)
    (inner : InnerOk prog w A C H0 P r elt gens scope pos cenv D gs j) : LoopOk prog w A C H0 P r elt gens scope pos cenv D (g :: gs) j := by
  intro items
  induction items with
  | nil =>
    intro ρ0 B₀ I fp all i K Pv Sv done out vs n s R hall hi he hlen t hbI hH hPI it sv vl hU hD rd fin
    have hi' : i = all.length := by
      have := congrArg List.length hall; simp at this; omega
    subst hi'
    refine codeAny_compLoop_turn (compTurn_wp hgj hga (it.W.done s _ _ sv fun h' tk kp => ?_))
    simp only [evG, Option.bind_some, List.foldr_nil, Option.some.injEq] at he
    subst he
    obtain ⟨o, fs, T, ho, hd, _⟩ := it.flds _ _ sv
    obtain ⟨lv, t'⟩ := t.ext ho hd hbI (fun b o hb e => kp b o (by simpa using hb) e) hPI
    refine fin B₀ h' tk vs n (fun _ _ e => e) t' (kp _ _ (fun q => ?_) hD) (by rw [List.append_nil]; exact lv.all rd)
    simp at q; rw [q, ho] at hD; cases hD; cases hd
  | cons d rest ih =>
    intro ρ0 B₀ I fp all i K Pv Sv done out vs n s R hall hi he hlen t hbI hH hPI it sv vl hU hD rd fin
    have hi' : i < all.length := by
      have := congrArg List.length hall; simp at this; omega
    have hdi : all[i]? = some d := by
      have := congrArg (fun l => l[0]?) hall
      simpa [List.getElem?_drop] using this
    refine codeAny_compLoop_turn (compTurn_wp hgj hga (it.W.item i s _ _ hi' sv fun v h₁ tk₁ pv sv₁ kp => ?_))
    obtain ⟨o, fs, T, ho, hd, _⟩ := it.flds _ _ sv
    obtain ⟨lv, t₁⟩ := t.ext ho hd hbI (fun b o hb e => kp b o (by simpa using hb) e) hPI
    have vl₁ := vl.liv lv
    have hD₁ : h₁.get? D = some (lst vs n) := kp _ _ (fun q => by simp at q; rw [q, ho] at hD; cases hD; cases hd) hD
    have rd₁ := lv.all rd
    obtain ⟨d', hd', rv⟩ := it.val hi' pv vl₁
    rw [hdi] at hd'; cases hd'
    obtain ⟨o₁, fs₁, T₁, ho₁, hd₁, hc₁, hT₁⟩ := it.flds _ _ sv₁
    refine lot_ok (s := { s with heap := h₁, toks := tk₁ }) ho₁ hd₁ hc₁ hT₁ ?_
    simp only [evG, Option.bind_some, List.foldr_cons] at he
    obtain ⟨b, hb, he⟩ := Option.bind_eq_some_iff.mp he
    replace he := iteS he
    obtain ⟨hown, he⟩ := he
    obtain ⟨tt, htt, he⟩ := Option.bind_eq_some_iff.mp he
    have hown' : b.all (fun p => own1 scope p.1) = true := List.all_eq_true.mpr fun p hp => (Bool.and_eq_true_iff.mp (List.all_eq_true.mp hown p hp)).1
    have hnew : ∀ p ∈ b, ∀ x ent, look cenv.scope ρ0 x = some ent → p.1 ≠ x := fun p hp x ent e q => by
      have := (Bool.and_eq_true_iff.mp (List.all_eq_true.mp hown p hp)).2
      rw [q] at this
      unfold look at e
      split at e
      · rw [e] at this; cases this
      · cases e
    have hbz : ∀ p ∈ b, p.1 ≠ zName := fun p hp q => by
      have := List.all_eq_true.mp hown' p hp
      rw [q, own1_z hz] at this; cases this
    obtain ⟨sub₁, ti₁⟩ := t₁.inflate
    refine wpAny_mono (bind_ok (s := { s with heap := h₁, toks := tk₁ }) ti₁ rm.handled hb hown' rv) (fun _ s₂ zP => ?_) fun _ _ z => z
    obtain ⟨h₂, tk₂, e₂, lv₂, kl₂, t₂⟩ := zP
    subst e₂
    rw [dropXs_other D b hbz] at t₂
    have wk : ∀ x ent, look cenv.scope ρ0 x = some ent → look cenv.scope (ρ0.sets b) x = some ent := fun x ent e => lookup_sets b ρ0 x ent (fun p hp => hnew p hp x ent e) e
    have sv₂ : Sv (i + 1) h₂ := it.keep t₁ hU sv₁ fun a o e => t₂.base a o e
    have vl₂ := vl₁.liv lv₂
    have hD₂ : h₂.get? D = some (lst vs n) := kl₂ _ _ hD₁ ⟨_, _, rfl⟩
    have rd₂ := lv₂.all rd₁
    refine wpAny_mono (tests_ok (s := { s with heap := h₂, toks := tk₂ }) S rm t₂.cx htt) (fun ok s₃ zP => ?_) fun _ _ z => z
    obtain ⟨hok, h₃, tk₃, e₃, st₃⟩ := zP
    subst e₃ hok
    have t₃ := t₂.stays st₃
    have sv₃ : Sv (i + 1) h₃ := it.W.frame _ _ _ sv₂ fun b _ o e => st₃ b o e
    have vl₃ := vl₂.stays st₃
    have hD₃ := st₃ _ _ hD₂
    have rd₃ := rd₂.stays st₃
    have hb0 : ∀ a o, B₀ a = some o → a ≠ I := fun a o e q => by rw [q, hbI] at e; cases e
    have hrest : all.drop (i + 1) = rest := by rw [← List.drop_drop, hall]; rfl
    cases ok with
    | false =>
      obtain ⟨o₃, fs₃, T₃, ho₃, hd₃, hc₃, hT₃⟩ := it.flds _ _ sv₃
      simp only [Bool.false_eq_true, if_false] at he ⊢
      refine ⟨rfl, ih ρ0 (hideB (frz cenv (own1 scope) [(zName, D)] h₁) I) I fp all (i + 1) K Pv Sv done out vs n _ R hrest hi' he hlen ((t₃.hide ho₃ hd₃ hH).weaken wk) (by unfold hideB; rw [if_pos rfl]) hH hPI it sv₃ vl₃ hU hD₃ rd₃ fun B' h' tk vs' n' sub t' => fin B' h' tk vs' n' (fun a o e => sub a o ?_) t'⟩
      unfold hideB; rw [if_neg (hb0 a o e)]; exact sub₁ a o e
    | true =>
      simp only [if_true] at he ⊢
      obtain ⟨l, hl, he⟩ := Option.bind_eq_some_iff.mp he
      obtain ⟨out', ho', rfl⟩ := Option.map_eq_some_iff.mp he
      obtain ⟨sub₃, ti₃⟩ := t₃.inflate
      refine inner (ρ0.sets b) (frz cenv (own1 scope) [(zName, D)] h₃) done l vs n { s with heap := h₃, toks := tk₃ } _ hl ?_ ti₃ hD₃ rd₃ fun B₅ h₅ tk₅ vs₅ n₅ sub₅ t₅ hD₅ rd₅ => ?_
      · rw [← List.append_assoc, List.length_append] at hlen; omega
      have sv₅ : Sv (i + 1) h₅ := it.keep t₃ hU sv₃ fun a o e => t₅.base a o (sub₅ a o e)
      obtain ⟨o₅, fs₅, T₅, ho₅, hd₅, _⟩ := it.flds _ _ sv₅
      refine ⟨rfl, ih ρ0 (hideB B₅ I) I fp all (i + 1) K Pv Sv (done ++ l) out' vs₅ n₅ _ R hrest hi' ho' (by rw [List.append_assoc]; exact hlen) ((t₅.hide ho₅ hd₅ hH).weaken wk) (by unfold hideB; rw [if_pos rfl]) hH hPI it sv₅ (vl₃.frz t₃ t₅ sub₅) hU hD₅ rd₅ fun B' h' tk vs' n' sub t' hD' rd' => fin B' h' tk vs' n' (fun a o e => sub a o ?_) t' hD' (by rw [← List.append_assoc]; exact rd')⟩
      unfold hideB; rw [if_neg (hb0 a o e)]; exact sub₅ a o (sub₃ a o (sub₁ a o e))

theorem inner_cons (S : Snd prog w H0 C k r) (G : Ground0 mg mb H0) (rm : Room A k) {j : Nat} {g' : Comprehension} {gs' : List Comprehension} (hgj1 : gens[j + 1]? = some g') (hga' : g'.is_async = 0)
    (L : LoopOk prog w A C H0 P r elt gens scope pos cenv D (g' :: gs') (j + 1)) : InnerOk prog w A C H0 P r elt gens scope pos cenv D (g' :: gs') j := by
  intro ρ1 B done l vs n s Q hl hlen t hD rd fin
  rw [hgj1]
  refine ⟨hga', ?_⟩
  simp only at hl
  cases hi : itemsD r cenv.scope ρ1 g'.iter with
  | none => rw [hi] at hl; simp [evG] at hl
  | some items =>
    rw [hi] at hl
    obtain ⟨hf, hw⟩ := itemsD_ok S G rm t.cx hi
    refine wpAny_mono hw (fun x s₅ h₅ => wpAny_of_eq (hf x) (wpAny_mono h₅ (fun it' s₇ h₇ => ?_) fun _ _ z => z)) fun _ _ z => z
    obtain ⟨h', tk, I, fp, K, Pv, Sv, rfl, st, rfl, it, s0, vl, hn, hU⟩ := h₇
    have t' := t.stays st
    have go : codeAny (model prog w) A (.compLoop (.ListComp elt gens scope pos) (j + 1) (.ref I) (.ref D) cenv) (fun r s' => match r with | .ok f => Q s' | .error e => cameBackBy (model prog w) A cenv NoE e s') { s with heap := h', toks := tk } := by
      refine L items ρ1 B I fp items 0 K Pv Sv done l vs n { s with heap := h', toks := tk } _ rfl (Nat.zero_le _) hl hlen t' ?_ ?_ (t.fresh I hn) it s0 vl hU (st _ _ hD) (rd.stays st) fun B' h'' tk' vs' n' sub t'' hD' rd' => fin B' h'' tk' vs' n' sub t'' hD' rd'
      · cases q : B I with
        | none => rfl
        | some o => rw [t.base I o q] at hn; cases hn
      · cases q : H0.get? I with
        | none => rfl
        | some o => rw [t.base I o (t.h0 I o q)] at hn; cases hn
    refine wpAny_runOwn (h := none) ?_
    exact codeAny_compStart_at hgj1 hga' go (it.W.self 0 { s with heap := h', toks := tk } _ _ s0 go)

theorem comp_loop (S : Snd prog w H0 C k r) (G : Ground0 mg mb H0) (rm : Room A k) (hz : (scope.names.lookup zName).isNone = true) (hzc : isVar (cenv.scope.names.lookup zName) = false) (hasync : ∀ g ∈ gens, g.is_async = 0) :
    ∀ (gs : List Comprehension) (g : Comprehension) (j : Nat), gens.drop j = g :: gs → LoopOk prog w A C H0 P r elt gens scope pos cenv D (g :: gs) j
  | [], g, j, hj => by
    have hgj : gens[j]? = some g := by
      have := congrArg (fun l => l[0]?) hj
      simpa [List.getElem?_drop] using this
    have hgj1 : gens[j + 1]? = none := by
      have := congrArg (fun l => l[1]?) hj
      simpa [List.getElem?_drop] using this
    exact loop_of_inner S rm hz hgj (hasync g (List.mem_of_getElem? hgj)) (inner_nil S rm hzc hgj1)
  | g' :: gs', g, j, hj => by
    have hgj : gens[j]? = some g := by
      have := congrArg (fun l => l[0]?) hj
      simpa [List.getElem?_drop] using this
    have hgj1 : gens[j + 1]? = some g' := by
      have := congrArg (fun l => l[1]?) hj
      simpa [List.getElem?_drop] using this
    have hd : gens.drop (j + 1) = g' :: gs' := by rw [← List.drop_drop, hj]; rfl
    exact loop_of_inner S rm hz hgj (hasync g (List.mem_of_getElem? hgj)) (inner_cons S G rm hgj1 (hasync g' (List.mem_of_getElem? hgj1)) (comp_loop S G rm hz hzc hasync gs' g' (j + 1) hd))
end
end Mine

namespace Mine
open PySem PySem.Calls PySem.Spec PyProof.Rows PySem.W PySem.SeqAt

section
variable {prog : Program} {w : World} {A : Around} {s : Shared} {env : Env} {C : Cls} {H0 : Heap} {P U : Addr → Prop} {B B' : Addr → Option Obj} {own : Str → Bool} {X X' : List (Str × Addr)} {ρ ρ' : Rho} {h h' : Heap} {k : Nat} {mg mb : Str → Option Value}
variable {r : Md → Scope → Rho → Expr → Option PyData}

theorem lookup_mapKey {f : Str → NameKind → NameKind} (x : Str) : ∀ (l : List (Str × NameKind)), (l.map fun p => (p.1, f p.1 p.2)).lookup x = (l.lookup x).map (f x)
  | [] => rfl
  | (y, kd) :: r => by
    rw [List.map_cons, List.lookup_cons, List.lookup_cons]
    cases hxy : x == y with
    | true => rw [beq_iff_eq.mp hxy]; rfl
    | false => exact lookup_mapKey x r

noncomputable def relK (env : Env) (n : Str) (kd : NameKind) : NameKind := if (kd == .free && env.scope.kind == .function && env.kindOf n == some .cell) = true then .cell else kd
theorem relabel_names (scope : Scope) (env : Env) : (relabel scope env).names = scope.names.map fun p => (p.1, relK env p.1 p.2) := by
  unfold relabel
  simp only
  refine List.map_congr_left fun p _ => ?_
  obtain ⟨n, kd⟩ := p
  show (if (kd == NameKind.free && env.scope.kind == .function && env.kindOf n == some .cell) = true then (n, NameKind.cell) else (n, kd)) = (n, relK env n kd)
  unfold relK
  split <;> rfl
theorem relabel_lookup (scope : Scope) (env : Env) (x : Str) : (relabel scope env).names.lookup x = (scope.names.lookup x).map (relK env x) := by
  rw [relabel_names, lookup_mapKey]

theorem lookup_append' {α : Type} {l l' : List (Str × α)} {x : Str} {c : α} (e : (l ++ l').lookup x = some c) : (l.lookup x = some c) ∨ (l.lookup x = none ∧ l'.lookup x = some c) := by
  induction l with
  | nil => exact .inr ⟨rfl, e⟩
  | cons p r ih =>
    obtain ⟨y, v⟩ := p
    rw [List.cons_append, List.lookup_cons] at e
    rw [List.lookup_cons]
    cases hxy : x == y with
    | true => rw [hxy] at e; exact .inl e
    | false => rw [hxy] at e; exact ih e
theorem lookup_append_l {α : Type} {l l' : List (Str × α)} {x : Str} {c : α} (e : l.lookup x = some c) : (l ++ l').lookup x = some c := by
  induction l with
  | nil => cases e
  | cons p r ih =>
    obtain ⟨y, v⟩ := p
    rw [List.lookup_cons] at e
    rw [List.cons_append, List.lookup_cons]
    cases hxy : x == y with
    | true => rw [hxy] at e; exact e
    | false => rw [hxy] at e; exact ih e
theorem lookup_append_r {α : Type} {l l' : List (Str × α)} {x : Str} (e : l.lookup x = none) : (l ++ l').lookup x = l'.lookup x := by
  induction l with
  | nil => rfl
  | cons p r ih =>
    obtain ⟨y, v⟩ := p
    rw [List.lookup_cons] at e
    rw [List.cons_append, List.lookup_cons]
    cases hxy : x == y with
    | true => rw [hxy] at e; cases e
    | false => rw [hxy] at e; exact ih e
theorem lookup_none_of {α : Type} {l : List (Str × α)} {x : Str} (n : ∀ c, (x, c) ∉ l) : l.lookup x = none := by
  cases q : l.lookup x with
  | none => rfl
  | some c => exact absurd (mem_of_lookup q) (n c)

theorem compRho_look {scope : Scope} {x : Str} {ent : Ent} (e : (compRho scope ρ).lookup x = some ent) : (x, NameKind.free) ∈ scope.names ∧ ρ.lookup x = some ent ∧ ∃ d, ent = .val d := by
  have m := mem_of_lookup e
  unfold compRho at m
  obtain ⟨p, hp, q⟩ := List.mem_filterMap.mp m
  obtain ⟨y, kd⟩ := p
  replace q := iteS q
  obtain ⟨hk, q⟩ := q
  split at q
  · rename_i d hd
    simp only [Option.some.injEq, Prod.mk.injEq] at q
    obtain ⟨rfl, rfl⟩ := q
    have hk' := beq_iff_eq.mp hk
    simp only at hk'
    subst hk'
    exact ⟨hp, hd, d, rfl⟩
  · cases q

structure ScopeOk (scope : Scope) (env : Env) : Prop where
  fn : scope.kind = .function
  z : (scope.names.lookup zName).isNone = true
  uniq : ∀ x kd, (x, kd) ∈ scope.names → scope.names.lookup x = some kd
  free : ∀ x, (x, NameKind.free) ∈ scope.names → env.kindOf x = some .cell ∨ env.kindOf x = some .free
theorem scopeOk_iff {scope : Scope} (e : scopeOk scope env.scope = true) : ScopeOk scope env := by
  unfold scopeOk at e
  simp only [Bool.and_eq_true, beq_iff_eq] at e
  obtain ⟨⟨h1, h2⟩, h3⟩ := e
  refine ⟨h1, h2, fun x kd m => ?_, fun x m => ?_⟩
  · have := List.all_eq_true.mp h3 _ m
    simp only [Bool.and_eq_true, beq_iff_eq] at this
    exact this.1
  · have := List.all_eq_true.mp h3 _ m
    simp only [Bool.and_eq_true, beq_iff_eq, beq_self_eq_true, Bool.not_true, Bool.false_or] at this
    have h4 := this.2
    show env.scope.names.lookup x = _ ∨ env.scope.names.lookup x = _
    cases q : env.scope.names.lookup x with
    | none => rw [q] at h4; cases h4
    | some kd => rw [q] at h4; cases kd <;> first | exact .inl rfl | exact .inr rfl | cases h4

noncomputable def cenvOf (scope : Scope) (env : Env) (L : Addr) (cl : List (Str × Addr)) : Env := { compEnv1 scope env L cl with scope := relabel scope env }

theorem comp_st {scope : Scope} (so : ScopeOk scope env) (c : Cx C H0 U env ρ s.heap) {h₂ : Heap} (st : Stays s.heap h₂) :
    St C H0 U (fun a => s.heap.get? a) (cenvOf scope env (h₂.push (lst [] 0)).objs.size (closOf env scope.names [])) (own1 scope) [(zName, h₂.objs.size)] (compRho scope ρ)
      (pushCells ((h₂.push (lst [] 0)).push { cls := .type "dict", data := .dict #[] }) scope.names) := by
  have hcl : ∀ p ∈ scope.names, p.2 = .free → ∃ c, env.cells.lookup p.1 = some c := fun p hp hk => c.cells p.1 (so.free p.1 (by rw [← hk]; exact hp))
  have st₃ : Stays h₂ (h₂.push (lst [] 0)) := stays_push _ _
  have st₄ : Stays (h₂.push (lst [] 0)) ((h₂.push (lst [] 0)).push { cls := .type "dict", data := .dict #[] }) := stays_push _ _
  have st₅ : Stays ((h₂.push (lst [] 0)).push { cls := .type "dict", data := .dict #[] }) (pushCells ((h₂.push (lst [] 0)).push { cls := .type "dict", data := .dict #[] }) scope.names) := pushCells_keeps _ _
  have stA : Stays s.heap (pushCells ((h₂.push (lst [] 0)).push { cls := .type "dict", data := .dict #[] }) scope.names) := st.trans (st₃.trans (st₄.trans st₅))
  have ok := cellsFrom_ok scope.names ((h₂.push (lst [] 0)).push { cls := .type "dict", data := .dict #[] }) ((h₂.push (lst [] 0)).objs.size + 1) [] ⟨fun _ _ hm => (nomatch hm), List.Pairwise.nil⟩ (Nat.le_of_eq (Heap.size_push ..).symm)
  have hs4 : ((h₂.push (lst [] 0)).push { cls := .type "dict", data := .dict #[] }).objs.size = (h₂.push (lst [] 0)).objs.size + 1 := Heap.size_push ..
  have hs3 : (h₂.push (lst [] 0)).objs.size = h₂.objs.size + 1 := Heap.size_push ..
  have hL4 : ((h₂.push (lst [] 0)).push { cls := .type "dict", data := .dict #[] }).get? (h₂.push (lst [] 0)).objs.size = some { cls := .type "dict", data := .dict #[] } := Heap.get?_push_size _ rfl
  have hD3 : (h₂.push (lst [] 0)).get? h₂.objs.size = some (lst [] 0) := Heap.get?_push_size _ rfl
  have hns : (pushCells ((h₂.push (lst [] 0)).push { cls := .type "dict", data := .dict #[] }) scope.names).Ns (h₂.push (lst [] 0)).objs.size (fun _ => none) := (Heap.Ns.new (h₂.push (lst [] 0)) (.type "dict")).keeps (pushCells_keeps _ _)
  have hbL : s.heap.get? (h₂.push (lst [] 0)).objs.size = none := none_of_stays (st.trans st₃) (new_none _)
  have hbD : s.heap.get? h₂.objs.size = none := none_of_stays st (new_none _)
  have nohigh : ∀ a, (h₂.push (lst [] 0)).objs.size + 1 ≤ a → s.heap.get? a = none := fun a ha => by
    refine none_of_stays (st.trans (st₃.trans st₄)) ?_
    cases q : ((h₂.push (lst [] 0)).push { cls := .type "dict", data := .dict #[] }).get? a with
    | none => rfl
    | some o => have := Heap.lt_size q; rw [hs4] at this; exact absurd this (Nat.not_lt.mpr ha)
  rw [hs4] at ok
  generalize hL : (h₂.push (lst [] 0)).objs.size = L at *
  have cells : ∀ x a, (cellsFrom (L + 1) scope.names (closOf env scope.names [])).lookup x = some a →
      ((x, a) ∈ cellsFrom (L + 1) scope.names [] ∧ (x, NameKind.cell) ∈ scope.names ∧ L + 1 ≤ a) ∨ (env.cells.lookup x = some a ∧ (x, NameKind.free) ∈ scope.names) := fun x a e => by
    rw [cellsFrom_app] at e
    rcases lookup_append' e with q | ⟨_, q⟩
    · have m := mem_of_lookup q
      obtain ⟨m1, m2⟩ := cellsFrom_mem _ _ _ _ m
      exact .inl ⟨m, m1, m2⟩
    · rcases closOf_mem _ _ hcl x a (mem_of_lookup q) with z | ⟨z, e⟩
      · cases z
      · exact .inr ⟨e, z⟩
  have cellIn : ∀ x, scope.names.lookup x = some .cell → ∃ a, (cellsFrom (L + 1) scope.names (closOf env scope.names [])).lookup x = some a ∧ (x, a) ∈ cellsFrom (L + 1) scope.names [] := fun x e => by
    obtain ⟨a, ha⟩ := Option.isSome_iff_exists.mp (cellsFrom_some (x := x) scope.names (L + 1) [] (.inl e))
    exact ⟨a, by rw [cellsFrom_app]; exact lookup_append_l ha, mem_of_lookup ha⟩
  have freeIn : ∀ x, (x, NameKind.free) ∈ scope.names → ∃ a, (cellsFrom (L + 1) scope.names (closOf env scope.names [])).lookup x = some a ∧ env.cells.lookup x = some a := fun x m => by
    obtain ⟨a, ha⟩ := Option.isSome_iff_exists.mp (closOf_keys (env := env) scope.names [] x (.inl m))
    have hno : (cellsFrom (L + 1) scope.names []).lookup x = none := lookup_none_of fun c' m' => by
      have := (cellsFrom_mem _ _ _ _ m').1
      have h1 := so.uniq _ _ this
      rw [so.uniq _ _ m] at h1; cases h1
    refine ⟨a, by rw [cellsFrom_app, lookup_append_r hno]; exact ha, ?_⟩
    rcases closOf_mem _ _ hcl x a (mem_of_lookup ha) with z | ⟨_, e⟩
    · cases z
    · exact e
  refine { fn := so.fn, gl := c.gl, bl := c.bl, h0 := c.h0, base := stA, fresh := fun b e => c.fresh b (none_of_stays stA e), ns := ?_, bL := ?_, mine := ?_, apart := ?_, cells := ?_, isCell := ?_, xs := ?_, xp := fun p hp => by simp only [List.mem_singleton] at hp; subst hp; exact c.fresh _ hbD, xnd := ?_, xfn := ?_, vars := ?_ }
  · exact ⟨_, hns⟩
  · exact hbL
  · intro x hx
    unfold own1 at hx
    split at hx
    · rename_i hk
      left
      show (relabel scope env).names.lookup x = _
      rw [relabel_lookup, hk]
      rfl
    · rename_i hk
      right
      obtain ⟨a, ha, hm⟩ := cellIn x hk
      refine ⟨?_, a, none, ha, (ok.empty x a hm).1, nohigh a (ok.empty x a hm).2⟩
      show (relabel scope env).names.lookup x = _
      rw [relabel_lookup, hk]
      rfl
    · cases hx
  · intro x y a hx hy hb
    have inOwn : ∀ z, (cellsFrom (L + 1) scope.names (closOf env scope.names [])).lookup z = some a → (z, a) ∈ cellsFrom (L + 1) scope.names [] := fun z hz => by
      rcases cells z a hz with ⟨m, _⟩ | ⟨e, _⟩
      · exact m
      · obtain ⟨v, o, ho, _⟩ := c.isCell z a e
        rw [hb] at ho; cases ho
    exact name_of_addr ok.apart (inOwn x hx) (inOwn y hy)
  · intro x hx
    have hx' : (scope.names.lookup x).map (relK env x) = some .cell ∨ (scope.names.lookup x).map (relK env x) = some .free := by rw [← relabel_lookup]; exact hx
    cases hk : scope.names.lookup x with
    | none => rw [hk] at hx'; rcases hx' with q | q <;> cases q
    | some kd =>
      rw [hk] at hx'
      cases kd with
      | cell => obtain ⟨a, ha, _⟩ := cellIn x hk; exact ⟨a, ha⟩
      | free => obtain ⟨a, ha, _⟩ := freeIn x (mem_of_lookup hk); exact ⟨a, ha⟩
      | «local» => rcases hx' with q | q <;> simp [relK] at q
      | globalExplicit => rcases hx' with q | q <;> simp [relK] at q
      | globalImplicit => rcases hx' with q | q <;> simp [relK] at q
  · intro x a hx
    rcases cells x a hx with ⟨m, _⟩ | ⟨e, _⟩
    · exact ⟨none, (ok.empty x a m).1⟩
    · obtain ⟨v, i⟩ := c.isCell x a e; exact ⟨v, i.keeps stA⟩
  · intro p hp
    simp only [List.mem_singleton] at hp
    subst hp
    refine ⟨hbD, ?_, [], 0, st₅ _ _ (st₄ _ _ hD3)⟩
    show h₂.objs.size ≠ L
    omega
  · intro p hp q hq _
    simp only [List.mem_singleton] at hp hq
    rw [hp, hq]
  · intro p hp q hq _
    simp only [List.mem_singleton] at hp hq
    rw [hp, hq]
  · intro x ent e
    unfold look at e
    replace e := iteS e
    obtain ⟨hv, e⟩ := e
    obtain ⟨hm, hl, d, rfl⟩ := compRho_look e
    have hlk : look env.scope ρ x = some (.val d) := by
      unfold look
      rw [if_pos]
      · exact hl
      · rw [Bool.and_eq_true] at hv ⊢
        refine ⟨?_, hv.2⟩
        rcases so.free x hm with q | q <;> (show isVar (env.scope.names.lookup x) = true; unfold Env.kindOf at q; rw [q]; rfl)
    obtain ⟨v, hv', he⟩ := c.vars x _ hlk
    obtain ⟨a, ha, ha'⟩ := freeIn x hm
    have hk : scope.names.lookup x = some .free := so.uniq _ _ hm
    have hcell : s.heap.IsCell a (some v) := by
      rcases hv' with ⟨q, _⟩ | ⟨_, a', e', i⟩
      · rcases so.free x hm with z | z <;> (rw [q] at z; cases z)
      · rw [ha'] at e'; cases e'; exact i
    refine ⟨v, .inr ⟨?_, a, ha, hcell.keeps stA⟩, ?_⟩
    · show (relabel scope env).names.lookup x = _ ∨ (relabel scope env).names.lookup x = _
      rw [relabel_lookup, hk]
      show some (relK env x .free) = _ ∨ some (relK env x .free) = _
      unfold relK
      split
      · exact .inl rfl
      · exact .inr rfl
    · obtain ⟨as, rd, u⟩ := he
      refine ⟨as, reads_stays stA rd, fun b hb => ⟨u b hb, fun q => ?_, fun p hp q => ?_⟩⟩
      · obtain ⟨o, ho⟩ := repAll_new.reads_alloc rd b hb
        rw [q] at ho
        have : s.heap.get? L = some o := ho
        rw [hbL] at this; cases this
      · simp only [List.mem_singleton] at hp
        subst hp
        obtain ⟨o, ho⟩ := repAll_new.reads_alloc rd b hb
        rw [← q] at ho
        have : s.heap.get? h₂.objs.size = some o := ho
        rw [hbD] at this; cases this
end
end Mine

namespace Mine
open PySem PySem.Calls PySem.Spec PyProof.Rows PySem.W PySem.SeqAt

section
variable {prog : Program} {w : World} {A : Around} {s : Shared} {env : Env} {C : Cls} {H0 : Heap} {P U : Addr → Prop} {B B' : Addr → Option Obj} {own : Str → Bool} {X X' : List (Str × Addr)} {ρ ρ' : Rho} {h h' : Heap} {k : Nat} {mg mb : Str → Option Value}
variable {r : Md → Scope → Rho → Expr → Option PyData}

/-- behind a comprehension's loop -/
structure CompDone (U : Addr → Prop) (s : Shared) (ds : List PyData) (h' : Heap) (D L : Addr) (vs : List Value) (n : Nat) : Prop where
  st : Stays s.heap h'
  nD : s.heap.get? D = none
  nL : s.heap.get? L = none
  ne : D ≠ L
  hD : h'.get? D = some (lst vs n)
  ns : ∃ m, h'.Ns L m
  rep : RepAll (fun b => U b ∧ b ≠ L ∧ b ≠ D) h' vs ds

theorem comp_core (S : Snd prog w H0 C k r) (G : Ground0 mg mb H0) (rm : Room A k) (c : Cx C H0 U env ρ s.heap) {elt : Expr} {gens : List Comprehension} {scope : Scope} {pos p : Pos} {d : PyData}
    (e : evComp r env.scope ρ elt gens scope = some d) : ∃ ds, d = .list ds ∧ ∀ (use : Option (Value → Sem Unit)) (Q : Value → Shared → Prop),
    ((∀ h' tk D L vs n, CompDone U s ds h' D L vs n → compPost (model prog w) A NoE use Q (.ref D) L (.ok .next) { s with heap := h', toks := tk }) →
      wpAny (model prog w) A (comprehension (.ListComp elt gens scope pos) scope env p (newList []) (firstAsync gens) (firstIter gens env) use) Q NoE s) := by
  unfold evComp at e
  split at e
  · cases e
  · rename_i g gs
    split at e
    · rename_i hok
      rw [Bool.and_eq_true] at hok
      obtain ⟨hso, has⟩ := hok
      have so := scopeOk_iff hso
      have hasync : ∀ g' ∈ g :: gs, g'.is_async = 0 := fun g' hg' => by
        have := List.all_eq_true.mp has g' hg'
        simpa using this
      obtain ⟨ds, hds, e⟩ := Option.bind_eq_some_iff.mp e
      obtain ⟨rfl, hlen⟩ := mkList_some e
      refine ⟨ds, rfl, fun use Q fin => ?_⟩
      cases hi : itemsD r env.scope ρ g.iter with
      | none => rw [hi] at hds; simp [evG] at hds
      | some items =>
        rw [hi] at hds
        obtain ⟨hf, hw⟩ := itemsD_ok S G rm c hi
        have hfa : firstAsync (g :: gs) = false := by
          have h0 := hasync g List.mem_cons_self
          obtain ⟨gt, gi, gf, ga⟩ := g
          simp only at h0
          subst h0
          rfl
        have hfi : firstIter (g :: gs) env = eval g.iter env := by obtain ⟨gt, gi, gf, ga⟩ := g; rfl
        rw [hfa, hfi]
        have hcl : ∀ p ∈ scope.names, p.2 = .free → ∃ c, env.cells.lookup p.1 = some c := fun p hp hk => c.cells p.1 (so.free p.1 (by rw [← hk]; exact hp))
        refine wpAny_comprehension_free (g := g) (gs := gs) rfl hf (closureFor_eq hcl) so.fn (fun x hx hk => by have := so.uniq x.1 x.2 hx; rw [hk] at this; exact this) ?_
        refine wpAny_mono hw (fun x s₁ h₁ => wpAny_mono h₁ (fun it s₂ h₂ => ?_) fun _ _ z => z) fun _ _ z => z
        obtain ⟨h₂, tk, I, fp, K, Pv, Sv, rfl, st, rfl, it, s0, vl, hn, hU⟩ := h₂
        refine wpAny_newObj_type (newCompEnv ?_) (by size_fits)
        have t := comp_st (s := s) (C := C) (H0 := H0) (U := U) so c st
        have st' : Stays h₂ (pushCells ((h₂.push (lst [] 0)).push { cls := .type "dict", data := .dict #[] }) scope.names) := (stays_push _ _).trans ((stays_push _ _).trans (pushCells_keeps _ _))
        have hDn : h₂.get? h₂.objs.size = none := new_none _
        have hLn : h₂.get? (h₂.push (lst [] 0)).objs.size = none := none_of_stays (stays_push _ _) (new_none _)
        have upU : ∀ b, (∃ o, h₂.get? b = some o) → U b → UU U (cenvOf scope env (h₂.push (lst [] 0)).objs.size (closOf env scope.names [])) [(zName, h₂.objs.size)] b := fun b ⟨o, ho⟩ u => by
          refine ⟨u, fun q => ?_, fun p hp q => ?_⟩
          · have q' : b = (h₂.push (lst [] 0)).objs.size := q
            rw [q', hLn] at ho; cases ho
          · simp only [List.mem_singleton] at hp
            subst hp
            have q' : h₂.objs.size = b := q
            rw [← q', hDn] at ho; cases ho
        have vl' : ValsAt K items (UU U (cenvOf scope env (h₂.push (lst [] 0)).objs.size (closOf env scope.names [])) [(zName, h₂.objs.size)]) (pushCells ((h₂.push (lst [] 0)).push { cls := .type "dict", data := .dict #[] }) scope.names) := by
          cases K with
          | none => exact vl
          | some vs =>
            obtain ⟨as, rd, u⟩ := vl
            exact ⟨as, readsAll_stays st' rd, fun b hb => upU b (repAll_new.readsAll_alloc rd b hb) (u b hb)⟩
        have s0' : Sv 0 (pushCells ((h₂.push (lst [] 0)).push { cls := .type "dict", data := .dict #[] }) scope.names) := it.W.frame _ _ _ s0 fun b _ o e => st' b o e
        have hU' : ∀ b ∈ fp, b ≠ I → UU U (cenvOf scope env (h₂.push (lst [] 0)).objs.size (closOf env scope.names [])) [(zName, h₂.objs.size)] b := fun b hb hbI => by
          obtain ⟨o, vs, n, ho, _⟩ := it.seqs _ _ s0 b hb hbI
          exact upU b ⟨o, ho⟩ (hU b hb hbI)
        have hzc : isVar ((cenvOf scope env (h₂.push (lst [] 0)).objs.size (closOf env scope.names [])).scope.names.lookup zName) = false := by
          show isVar ((relabel scope env).names.lookup zName) = false
          rw [relabel_lookup, Option.isNone_iff_eq_none.mp so.z]
          rfl
        have L := comp_loop (prog := prog) (w := w) (A := A) (P := U) (elt := elt) (pos := pos) (cenv := cenvOf scope env (h₂.push (lst [] 0)).objs.size (closOf env scope.names [])) (D := h₂.objs.size) S G rm so.z hzc hasync gs g 0 rfl
        have go := L items (compRho scope ρ) (fun a => s.heap.get? a) I fp items 0 K Pv Sv [] ds [] 0 { s with heap := pushCells ((h₂.push (lst [] 0)).push { cls := .type "dict", data := .dict #[] }) scope.names, toks := tk } (compPost (model prog w) A NoE use Q (.ref h₂.objs.size) (h₂.push (lst [] 0)).objs.size) rfl (Nat.zero_le _) hds (by simpa using hlen) t hn (none_of_stays c.h0 hn) (c.fresh I hn) it s0' vl' hU'
          ((stays_push _ _).trans (pushCells_keeps _ _) _ _ (Heap.get?_push_size _ rfl)) .nil fun B' h' tk' vs' n' sub t' hD' rd' => fin h' tk' _ _ vs' n' ⟨fun a o e => t'.base a o (sub a o e), none_of_stays st hDn, none_of_stays st hLn, ?_, hD', t'.ns, rd'.mono fun b u => ⟨u.1, u.2.1, fun q => u.2.2 (zName, h₂.objs.size) (by simp) q.symm⟩⟩
        · exact codeAny_compStart_at (g := g) rfl (hasync g List.mem_cons_self) go (it.W.self 0 _ _ _ s0' go)
        · have hs3 : (h₂.push (lst [] 0)).objs.size = h₂.objs.size + 1 := Heap.size_push ..
          intro q
          rw [hs3] at q
          exact absurd q (Nat.ne_of_lt (Nat.lt_succ_self _))
    · cases e

theorem comp_ok (S : Snd prog w H0 C k r) (G : Ground0 mg mb H0) (rm : Room A k) (c : Cx C H0 U env ρ s.heap) {elt : Expr} {gens : List Comprehension} {scope : Scope} {pos : Pos} {d : PyData} (e : evComp r env.scope ρ elt gens scope = some d) :
    ∃ ds, d = .list ds ∧ wpAny (model prog w) A (eval (.ListComp elt gens scope pos) env) (EvPostF U s ds) NoE s := by
  obtain ⟨ds, rfl, core⟩ := comp_core (pos := pos) (p := firstIterPos gens pos) S G rm c e
  refine ⟨ds, rfl, ?_⟩
  rw [eval_ListComp]
  refine core none _ fun h' tk D L vs n cd => ?_
  obtain ⟨m, hm⟩ := cd.ns
  refine ⟨m, hm, fun h'' hs => ⟨h'', tk, D, vs, n, rfl, fun a o e => (hs.2 a fun q => ?_).trans (cd.st a o e), rfl, cd.nD, (hs.2 D cd.ne).trans cd.hD, ?_⟩⟩
  · rw [q, cd.nL] at e; cases e
  · exact (cd.rep.but hs (noTup_dict hm) fun q => q.2.1 rfl).mono fun b u => ⟨u.1, u.2.2⟩
end
end Mine

namespace Mine
open PySem PySem.Calls PySem.Spec PyProof.Rows PySem.W PySem.SeqAt

section
variable {prog : Program} {w : World} {A : Around} {s : Shared} {env : Env} {C : Cls} {H0 : Heap} {P U : Addr → Prop} {B B' : Addr → Option Obj} {own : Str → Bool} {X X' : List (Str × Addr)} {ρ ρ' : Rho} {h h' : Heap} {k : Nat} {mg mb : Str → Option Value}
variable {r : Md → Scope → Rho → Expr → Option PyData} {Φ : Tab} {srt : PyData → Option PyData}

theorem slice_eval (S : Snd prog w H0 C k r) (c : Cx C H0 U env ρ s.heap) (rm : Room A k) {v : Expr} {lo hi st : Option Expr} {p pos : Pos} {d e : PyData} {l u t : Option Int} (hv : r .read env.scope ρ v = some d) (hl : evO r env.scope ρ lo = some l) (hu : evO r env.scope ρ hi = some u) (ht : evO r env.scope ρ st = some t) (q : cutD d l u t = some e) :
    ∃ es, e = .list es ∧ wpAny (model prog w) A (eval (.Subscript v (.Slice lo hi st p) pos) env) (EvPostF U s es) NoE s := by
  obtain ⟨es, rfl⟩ : ∃ es, e = .list es := by
    unfold cutD at q
    split at q
    · split at q
      · cases q; exact ⟨_, rfl⟩
      · cases q
    · split at q
      · cases q; exact ⟨_, rfl⟩
      · cases q
    · cases q
  refine ⟨es, rfl, Subscript_ (thenR ((S _ _ _ _ _ _ _ _ rfl c rm).2.1 hv) fun x h₁ tk₁ st₁ rx => ?_)⟩
  refine wpAny_Slice ?_
  refine wpAny_mono (part_ok (s := { s with heap := h₁, toks := tk₁ }) S (c.stays st₁) rm hl) (fun vl s₂ zP => ?_) fun _ _ z => z
  obtain ⟨pl, h₂, tk₂, e₂, st₂⟩ := zP
  subst e₂
  refine wpAny_mono (part_ok (s := { s with heap := h₂, toks := tk₂ }) S (c.stays (st₁.trans st₂)) rm hu) (fun vu s₃ zP => ?_) fun _ _ z => z
  obtain ⟨pu, h₃, tk₃, e₃, st₃⟩ := zP
  subst e₃
  refine wpAny_mono (part_ok (s := { s with heap := h₃, toks := tk₃ }) S (c.stays (st₁.trans (st₂.trans st₃))) rm ht) (fun vt s₄ zP => ?_) fun _ _ z => z
  obtain ⟨pt, h₄, tk₄, e₄, st₄⟩ := zP
  subst e₄
  obtain ⟨es', q', z⟩ := cut_ok (prog := prog) (w := w) (A := A) (s := { s with heap := h₄, toks := tk₄ }) (U := U) (value := v) (slice := .Slice lo hi st p) (rx.stays (st₂.trans (st₃.trans st₄))) pl pu pt q tk₄
  cases q'
  exact wpAny_mono z (fun _ _ y => evPostF_from (st₁.trans (st₂.trans (st₃.trans st₄))) y) fun _ _ y => y

theorem noMarks {op : CmpOp} {e : Expr} (h : ¬ isSet e = true) : behindInMarks op e = false := by
  cases e <;> first | rfl | exact absurd rfl h

structure EvOk (prog : Program) (w : World) (A : Around) (env : Env) (U : Addr → Prop) (s : Shared) (e : Expr) (d : PyData) (rd : Bool) : Prop where
  r : wpAny (model prog w) A (eval e env) (EvPostR U s d) NoE s
  v : rd = false → wpAny (model prog w) A (eval e env) (EvPost U s d) NoE s
  f : isFresh e = true → ∀ ds, d = .list ds → wpAny (model prog w) A (eval e env) (EvPostF U s ds) NoE s
theorem EvOk.ofV {e : Expr} {d : PyData} {rd : Bool} (n : isFresh e = true → False) (z : wpAny (model prog w) A (eval e env) (EvPost U s d) NoE s) : EvOk prog w A env U s e d rd :=
  ⟨wpAny_mono z (fun _ _ y => y.toR) fun _ _ y => y, fun _ => z, fun f => (n f).elim⟩
theorem EvOk.ofF (c : Cx C H0 U env ρ s.heap) {e : Expr} {d : PyData} {rd : Bool} (z : ∃ ds, d = .list ds ∧ wpAny (model prog w) A (eval e env) (EvPostF U s ds) NoE s) : EvOk prog w A env U s e d rd := by
  obtain ⟨ds, rfl, z⟩ := z
  have z' : wpAny (model prog w) A (eval e env) (EvPost U s (.list ds)) NoE s := wpAny_mono z (fun _ _ y => y.plain c.fresh) fun _ _ y => y
  exact ⟨wpAny_mono z' (fun _ _ y => y.toR) fun _ _ y => y, fun _ => z', fun _ ds' q => by cases q; exact z⟩
theorem evV_ok (S : Snd prog w H0 C k r) (PS : SpecOk prog w mg H0 C Φ k) (T : SortOk prog w srt) (G : Ground0 mg mb H0) (c : Cx C H0 U env ρ s.heap) (rm : Room A k) {rd : Bool} {e : Expr} {d : PyData} (q : evV r Φ srt rd env.scope ρ e = some d) :
    EvOk prog w A env U s e d rd := by
  cases e with
  | Constant c0 kd p => exact .ofV (fun f => by cases f) (const_ok q)
  | Name x p =>
    obtain ⟨a, b⟩ := name_ok (prog := prog) (w := w) (A := A) c q
    exact ⟨a, b, fun f => by cases f⟩
  | BinOp a op b p =>
    obtain ⟨x, hx, q⟩ := Option.bind_eq_some_iff.mp q
    obtain ⟨y, hy, q⟩ := Option.bind_eq_some_iff.mp q
    have z : wpAny (model prog w) A (eval (.BinOp a op b p) env) (EvPost U s d) NoE s := by
      refine wpAny_BinOp (thenR ((S _ _ _ _ _ _ _ _ rfl c rm).2.1 hx) fun vx h₁ tk₁ st₁ rx => ?_)
      refine thenR ((S _ _ _ _ _ _ { s with heap := h₁, toks := tk₁ } _ rfl (c.stays st₁) rm).2.1 hy) fun vy h₂ tk₂ st₂ ry => ?_
      exact wpAny_mono (bin_ok (s := { s with heap := h₂, toks := tk₂ }) (c.stays (st₁.trans st₂)).fresh (rx.stays st₂) ry q) (fun _ _ y => evPost_from (st₁.trans st₂) y) fun _ _ y => y
    refine ⟨wpAny_mono z (fun _ _ y => y.toR) fun _ _ y => y, fun _ => z, fun f ds hd => ?_⟩
    subst hd
    have hop : op = .Add := by cases op <;> first | rfl | cases f
    subst hop
    obtain ⟨la, lb, rfl, rfl, hl, rfl⟩ : ∃ la lb, x = .list la ∧ y = .list lb ∧ (la ++ lb).length ≤ top ∧ ds = la ++ lb := by
      replace q : addD x y = some (.list ds) := q
      unfold addD at q
      split at q
      · obtain ⟨i, j, _, _, q⟩ := intsD_eq q; cases q
      · split at q
        · split at q <;> cases q
        · cases q
      · split at q
        · obtain ⟨e1, e2⟩ := mkList_some q; cases e1; exact ⟨_, _, rfl, rfl, e2, rfl⟩
        · cases q
      · cases q
    refine wpAny_BinOp (thenR ((S _ _ _ _ _ _ _ _ rfl c rm).2.1 hx) fun vx h₁ tk₁ st₁ rx => ?_)
    refine thenR ((S _ _ _ _ _ _ { s with heap := h₁, toks := tk₁ } _ rfl (c.stays st₁) rm).2.1 hy) fun vy h₂ tk₂ st₂ ry => ?_
    exact wpAny_mono (addL_ok (s := { s with heap := h₂, toks := tk₂ }) (rx.stays st₂) ry hl) (fun _ _ y => evPostF_from (st₁.trans st₂) y) fun _ _ y => y
  | UnaryOp op a p =>
    cases op with
    | USub =>
      obtain ⟨x, hx, q⟩ := Option.bind_eq_some_iff.mp q
      refine .ofV (fun f => by cases f) (wpAny_UnaryOp (thenV ((S _ _ _ _ _ _ _ _ rfl c rm).1 hx) fun vx h₁ tk₁ st₁ rx => ?_))
      cases x <;> simp only [negD, reduceCtorEq, Option.some.injEq] at q
      subst q
      obtain ⟨t, rfl⟩ := rx.intInv
      exact PyProof.Rows.neg_int ⟨h₁, _, rfl, st₁, .int _ _⟩
    | _ => exact nomatch (show (none : Option PyData) = some d from q)
  | Compare a ops bs p =>
    replace q : evCmp r env.scope ρ a ops bs = some d := q
    unfold evCmp at q
    split at q
    · rename_i op
      split at q
      · rename_i b
        split at q
        · cases q
        rename_i hset
        obtain ⟨x, hx, q⟩ := Option.bind_eq_some_iff.mp q
        obtain ⟨y, hy, q⟩ := Option.bind_eq_some_iff.mp q
        refine .ofV (fun f => by cases f) (wpAny_Compare1 (thenR ((S _ _ _ _ _ _ _ _ rfl c rm).2.1 hx) fun vx h₁ tk₁ st₁ rx => ?_) (noMarks hset))
        refine thenR ((S _ _ _ _ _ _ { s with heap := h₁, toks := tk₁ } _ rfl (c.stays st₁) rm).2.1 hy) fun vy h₂ tk₂ st₂ ry => ?_
        refine wpAny_mono (cmp_ok (s := { s with heap := h₂, toks := tk₂ }) rm (rx.stays st₂) ry q) (fun v s' zP => ?_) fun _ _ y => y
        obtain ⟨e1, bb, e2, e3⟩ := zP
        subst e1 e2 e3
        exact ⟨h₂, tk₂, rfl, st₁.trans st₂, .bool _⟩
      · cases q
    · cases q
  | IfExp t a b p =>
    obtain ⟨x, hx, q⟩ := Option.bind_eq_some_iff.mp q
    refine .ofV (fun f => by cases f) (wpAny_IfExp (thenT ((S _ _ _ _ _ _ _ _ rfl c rm).2.2 hx) fun bb h₁ tk₁ st₁ e => ?_))
    subst e
    cases bb with
    | true => exact wpAny_mono ((S _ _ _ _ _ _ { s with heap := h₁, toks := tk₁ } _ rfl (c.stays st₁) rm).1 q) (fun _ _ y => evPost_from st₁ y) fun _ _ y => y
    | false => exact wpAny_mono ((S _ _ _ _ _ _ { s with heap := h₁, toks := tk₁ } _ rfl (c.stays st₁) rm).1 q) (fun _ _ y => evPost_from st₁ y) fun _ _ y => y
  | Subscript v i p =>
    by_cases hns : ∃ lo hi st p, i = .Slice lo hi st p
    · obtain ⟨lo, hi, st, p, rfl⟩ := hns
      obtain ⟨x, hx, q⟩ := Option.bind_eq_some_iff.mp q
      obtain ⟨l, hl, q⟩ := Option.bind_eq_some_iff.mp q
      obtain ⟨u, hu, q⟩ := Option.bind_eq_some_iff.mp q
      obtain ⟨t, ht, q⟩ := Option.bind_eq_some_iff.mp q
      exact .ofF c (slice_eval S c rm hx hl hu ht q)
    · replace q : ((r .read env.scope ρ v).bind fun d => (r .value env.scope ρ i).bind fun k => idxD d k) = some d := by
        cases i <;> first | exact q | exact (hns ⟨_, _, _, _, rfl⟩).elim
      obtain ⟨x, hx, q⟩ := Option.bind_eq_some_iff.mp q
      obtain ⟨y, hy, q⟩ := Option.bind_eq_some_iff.mp q
      refine .ofV (fun f => ?_) (Subscript_ (thenR ((S _ _ _ _ _ _ _ _ rfl c rm).2.1 hx) fun vx h₁ tk₁ st₁ rx => ?_))
      · cases i <;> first | exact (hns ⟨_, _, _, _, rfl⟩).elim | cases f
      · refine thenV ((S _ _ _ _ _ _ { s with heap := h₁, toks := tk₁ } _ rfl (c.stays st₁) rm).1 hy) fun vy h₂ tk₂ st₂ ry => ?_
        exact wpAny_mono (idx_ok (s := { s with heap := h₂, toks := tk₂ }) (rx.stays st₂) ry q) (fun _ _ y => evPost_from (st₁.trans st₂) y) fun _ _ y => y
  | List es p =>
    obtain ⟨ds, hds, q⟩ := Option.bind_eq_some_iff.mp q
    obtain ⟨rfl, hl⟩ := mkList_some q
    exact .ofF c ⟨ds, rfl, listDisplay_ok S c rm hds hl⟩
  | Tuple es kd p =>
    obtain ⟨ds, hds, q⟩ := Option.bind_eq_some_iff.mp q
    split at q
    · cases q
      exact .ofV (fun f => by cases f) (tupleDisplay_ok S c rm hds (by assumption))
    · cases q
  | Call f args kws p =>
    replace q : evCallX r Φ srt env.scope ρ f args kws p = some d := q
    unfold evCallX at q
    split at q
    rotate_left
    · cases q
    rename_i hkw
    have hkw := List.isEmpty_iff.mp hkw
    subst hkw
    cases f with
    | Name f fp =>
      obtain ⟨z, f⟩ := evCall_ok (pos := _) (fp := _) S PS T G c rm q
      refine ⟨wpAny_mono z (fun _ _ y => y.toR) fun _ _ y => y, fun _ => z, fun hf ds hd => ?_⟩
      obtain ⟨ds', e', z'⟩ := f (beq_iff_eq.mp hf)
      rw [hd] at e'; cases e'
      exact z'
    | Attribute o m ap =>
      dsimp only at q
      split at q
      · rename_i hb
        rw [Bool.and_eq_true, Bool.and_eq_true] at hb
        have ha := List.isEmpty_iff.mp hb.1.1
        subst ha
        obtain ⟨x, hx, q⟩ := Option.bind_eq_some_iff.mp q
        exact .ofV (fun f => by cases f) (case_ok ((S _ _ _ _ _ _ _ _ rfl c rm).1 hx) hb.1.2 hb.2 q)
      · cases q
    | _ => exact nomatch (show (none : Option PyData) = some d from q)
  | ListComp elt gens scope p => exact .ofF c (comp_ok S G rm c q)
  | _ => exact nomatch (show (none : Option PyData) = some d from q)

theorem evT_ok (S : Snd prog w H0 C k r) (c : Cx C H0 U env ρ s.heap) (rm : Room A k) {e : Expr} {d : PyData} (q : evT r env.scope ρ e = some d) : wpAny (model prog w) A (isTrue e env (eval e env)) (EvPostT s d) NoE s := by
  cases e with
  | UnaryOp op a p =>
    cases op with
    | Not =>
      obtain ⟨x, hx, q⟩ := Option.bind_eq_some_iff.mp q
      obtain ⟨b, hb, rfl⟩ := Option.map_eq_some_iff.mp q
      refine wpAny_isTrue_Not (thenT ((S _ _ _ _ _ _ _ _ rfl c rm).2.2 hx) fun bb h₁ tk₁ st₁ e => ?_)
      subst e
      simp only [truthD, Option.some.injEq] at hb
      subst hb
      exact ⟨h₁, tk₁, rfl, st₁, rfl⟩
    | _ => exact nomatch (show (none : Option PyData) = some d from q)
  | BoolOp op es p =>
    obtain ⟨b, hb, rfl⟩ := Option.map_eq_some_iff.mp q
    refine wpAny_isTrue_BoolOp (wpAny_mono (evB_ok S rm _ _ b s c hb) (fun b' s' zP => ?_) fun _ _ y => y)
    obtain ⟨e, h', tk, es, st⟩ := zP
    subst e
    exact ⟨h', tk, es, st, rfl⟩
  | Compare a ops bs p =>
    unfold evT at q
    dsimp only at q
    split at q
    · split at q
      · split at q
        · cases q
        rename_i hset
        obtain ⟨x, hx, q⟩ := Option.bind_eq_some_iff.mp q
        obtain ⟨y, hy, q⟩ := Option.bind_eq_some_iff.mp q
        obtain ⟨z, hz, q⟩ := Option.bind_eq_some_iff.mp q
        obtain ⟨b, hb, rfl⟩ := Option.map_eq_some_iff.mp q
        refine wpAny_isTrue_Compare1 (thenR ((S _ _ _ _ _ _ _ _ rfl c rm).2.1 hx) fun vx h₁ tk₁ st₁ rx => ?_) (noMarks hset)
        refine thenR ((S _ _ _ _ _ _ { s with heap := h₁, toks := tk₁ } _ rfl (c.stays st₁) rm).2.1 hy) fun vy h₂ tk₂ st₂ ry => ?_
        refine wpAny_mono (cmp_ok (s := { s with heap := h₂, toks := tk₂ }) rm (rx.stays st₂) ry hz) (fun v s' zP => ?_) fun _ _ y => y
        obtain ⟨e1, bb, e2, e3⟩ := zP
        subst e1 e2 e3
        simp only [truthD, Option.some.injEq] at hb
        subst hb
        exact wpAny_truthy_bool ⟨h₂, tk₂, rfl, st₁.trans st₂, rfl⟩
      · cases q
    · cases q
  | Name x p =>
    obtain ⟨x, hx, q⟩ := Option.bind_eq_some_iff.mp q
    obtain ⟨b, hb, rfl⟩ := Option.map_eq_some_iff.mp q
    refine wpAny_isTrue_value (thenV ((name_ok (prog := prog) (w := w) (A := A) c hx).2 rfl) fun v h₁ tk₁ st₁ rv => ?_)
    exact truth_ok (s := { s with heap := h₁, toks := tk₁ }) rv hb ⟨h₁, tk₁, rfl, st₁, rfl⟩
  | Subscript v i p =>
    obtain ⟨x, hx, q⟩ := Option.bind_eq_some_iff.mp q
    obtain ⟨b, hb, rfl⟩ := Option.map_eq_some_iff.mp q
    refine wpAny_isTrue_value (thenV ((S _ _ _ _ _ _ _ _ rfl c rm).1 hx) fun v h₁ tk₁ st₁ rv => ?_)
    exact truth_ok (s := { s with heap := h₁, toks := tk₁ }) rv hb ⟨h₁, tk₁, rfl, st₁, rfl⟩
  | _ => exact nomatch (show (none : Option PyData) = some d from q)

theorem evStep_ok (S : Snd prog w H0 C k r) (PS : SpecOk prog w mg H0 C Φ k) (T : SortOk prog w srt) (G : Ground0 mg mb H0) : Snd prog w H0 C k (evStep r Φ srt) := by
  intro sc ρ e d env A s U hsc c rm
  subst hsc
  have hk : ∀ {rd : Bool}, (if isFresh e then evV r Φ srt rd env.scope ρ e else (Φ.hook r env.scope ρ e).or (evV r Φ srt rd env.scope ρ e)) = some d → evV r Φ srt rd env.scope ρ e = some d ∨ Φ.hook r env.scope ρ e = some d := fun {rd} q => by
    split at q
    · exact .inl q
    · cases z : Φ.hook r env.scope ρ e with
      | none => rw [z] at q; exact .inl q
      | some d' => rw [z] at q; exact .inr q
  refine ⟨fun q => ?_, fun q => ?_, fun q => evT_ok S c rm q⟩
  · rcases hk q with q | q
    · exact (evV_ok S PS T G c rm q).v rfl
    · exact PS.hook r S ρ e d env A s U q c rm
  · rcases hk q with q | q
    · exact (evV_ok S PS T G c rm q).r
    · exact wpAny_mono (PS.hook r S ρ e d env A s U q c rm) (fun _ _ y => y.toR) fun _ _ y => y

theorem ev_ok (PS : SpecOk prog w mg H0 C Φ k) (T : SortOk prog w srt) (G : Ground0 mg mb H0) : ∀ n, Snd prog w H0 C k (ev Φ srt n)
  | 0 => fun _ _ _ _ _ _ _ _ _ _ _ => ⟨fun q => (nomatch q), fun q => (nomatch q), fun q => (nomatch q)⟩
  | n + 1 => evStep_ok (ev_ok PS T G n) PS T G

theorem evFresh_ok (PS : SpecOk prog w mg H0 C Φ k) (T : SortOk prog w srt) (G : Ground0 mg mb H0) (c : Cx C H0 U env ρ s.heap) (rm : Room A k) {n : Nat} {e : Expr} {ds : List PyData} (q : ev Φ srt n .value env.scope ρ e = some (.list ds)) (hf : isFresh e = true) :
    wpAny (model prog w) A (eval e env) (EvPostF U s ds) NoE s := by
  cases n with
  | zero => cases q
  | succ n =>
    have q' : (if isFresh e then evV (ev Φ srt n) Φ srt false env.scope ρ e else _) = some (.list ds) := q
    rw [if_pos hf] at q'
    exact (evV_ok (ev_ok (C := C) PS T G n) PS T G c rm q').f hf ds rfl
end
end Mine

namespace Mine
open PySem PySem.Calls PySem.Spec PyProof.Rows PySem.W PySem.SeqAt
open AutoSeq1 (wpAny_loadPart')

/-! statements -/
inductive Fl where
  | next | brk | cont
  | ret (d : PyData)

noncomputable def allStr : List PyData → Bool
  | [] => true
  | .str _ :: r => allStr r
  | _ => false
noncomputable def isTheStr (x : Str) : PyData → Bool
  | .str y => y == x
  | _ => false
noncomputable def removeD (ds : List PyData) : PyData → Option (List PyData)
  | .str x => if allStr ds && ds.any (isTheStr x) then some (ds.eraseP (isTheStr x)) else none
  | _ => none

noncomputable def freezeE : Ent → Ent
  | .own ds => .val (.list ds)
  | e => e
noncomputable def freeze (ρ : Rho) : Rho := ρ.map fun p => (p.1, freezeE p.2)

/-- a method of an owned list that gives back nothing -/
noncomputable def listOp (m : Str) (ds : List PyData) (a : PyData) : Option (List PyData) :=
  if m == ("append" : Str) then (if ds.length < top then some (ds ++ [a]) else none)
  else if m == ("extend" : Str) then (match a with | .list es => if ds.length + es.length ≤ top then some (ds ++ es) else none | _ => none)
-- CUT
  else if m == ("remove" : Str) then (if ds.length ≤ top then removeD ds a else none)
  else none

section
variable (r : Md → Scope → Rho → Expr → Option PyData) (mu : List Str) (sc : Scope)
noncomputable def forL (body : Rho → Option (Fl × Rho)) (tg : Expr) : List PyData → Rho → Option (Fl × Rho)
  | [], ρ => some (.next, ρ)
  | d :: ds, ρ => (bindD tg d).bind fun b => if b.all fun p => own1 sc p.1 then
      (body (ρ.sets b)).bind fun q => match q.1 with
        | .next => forL body tg ds q.2
        | .cont => forL body tg ds q.2
        | .brk => some (.next, q.2)
        | .ret d => some (.ret d, q.2)
    else none
-- CUT
noncomputable def whL (test : Rho → Option Bool) (body : Rho → Option (Fl × Rho)) : Nat → Rho → Option (Fl × Rho)
  | 0, _ => none
  | n + 1, ρ => (test ρ).bind fun t => if t then
      (body ρ).bind fun q => match q.1 with
        | .next => whL test body n q.2
        | .cont => whL test body n q.2
        | .brk => some (.next, q.2)
        | .ret d => some (.ret d, q.2)
    else some (.next, ρ)

noncomputable def isComp : Expr → Bool
  | .ListComp .. => true
  | .SetComp .. => true
  | .DictComp .. => true
  | _ => false
noncomputable def isTup : Expr → Bool
  | .Tuple .. => true
  | _ => false

/-- a method's call, read off an expression -/
noncomputable def callOf : Expr → Option (Expr × Str × Pos × List Expr × List Keyword × Pos)
  | .Call f args kws cp => (match f with
    | .Attribute o m ap => some (o, m, ap, args, kws, cp)
    | _ => none)
  | _ => none
theorem callOf_eq {e o : Expr} {m : Str} {ap cp : Pos} {args : List Expr} {kws : List Keyword} (q : callOf e = some (o, m, ap, args, kws, cp)) : e = .Call (.Attribute o m ap) args kws cp := by
  cases e with
  | Call f a b c =>
    cases f with
    | Attribute o' m' ap' => cases q; rfl
    | _ => exact noSome q
  | _ => exact noSome q
theorem nameOfE_eq {e : Expr} {x : Str} (q : nameOfE e = some x) : ∃ p, e = .Name x p := by
  cases e with
  | Name y p => cases q; exact ⟨_, rfl⟩
  | _ => exact noSome q
noncomputable def ownOf? : Option Ent → Option (List PyData)
  | some (.own ds) => some ds
  | _ => none
theorem ownOf?_eq {o : Option Ent} {ds : List PyData} (q : ownOf? o = some ds) : o = some (.own ds) := by
  cases o with
  | none => exact noSome q
  | some e =>
    cases e with
    | own ds => cases q; rfl
    | _ => exact noSome q
noncomputable def exTup (ρ : Rho) (t e : Expr) : Option (Fl × Rho) := if isTup e then none else (r .value sc ρ e).bind fun d => (bindD t d).bind fun b => if b.all fun q => own1 sc q.1 then some (.next, ρ.sets b) else none
-- CUT
noncomputable def exPop (ρ : Rho) (t : Expr) (c : Expr × Str × Pos × List Expr × List Keyword × Pos) : Option (Fl × Rho) :=
  if (c.2.1 == ("pop" : Str)) && (c.2.2.1.endLine == c.2.2.2.2.2.line) then (nameOfE c.1).bind fun x => (ownOf? (look sc ρ x)).bind fun ds => if ds.length ≤ top then (ds.getLast?).bind fun d => (bindD t d).bind fun b => if b.all fun q => own1 sc q.1 then some (.next, (ρ.set x (.own ds.dropLast)).sets b) else none else none
  else none
noncomputable def noArgs (c : Expr × Str × Pos × List Expr × List Keyword × Pos) : Bool := c.2.2.2.1.isEmpty && c.2.2.2.2.1.isEmpty && (nameOfE c.1).isSome
noncomputable def exAsg (ρ : Rho) (t e : Expr) : Option (Fl × Rho) := match t with
  | .Name x _ => if own1 sc x then
      (if mu.contains x then (if isFresh e then (r .value sc ρ e).bind fun d => match d with | .list ds => some (.next, ρ.set x (.own ds)) | _ => none else none)
      else (r .value sc ρ e).bind fun d => some (.next, ρ.set x (.val d)))
    else none
-- CUT
  | .Tuple es k p => (match callOf e with
    | some c => if noArgs c then exPop sc ρ (.Tuple es k p) c else exTup r sc ρ (.Tuple es k p) e
    | none => exTup r sc ρ (.Tuple es k p) e)
  | .Subscript o i _ => if isComp e then none else (nameOfE o).bind fun x => (ownOf? (look sc ρ x)).bind fun ds => (r .value sc ρ e).bind fun d => (r .value sc ρ i).bind fun kd => (match kd with
      | .int j => if decide (0 ≤ j) && decide (j < ds.length) && decide (ds.length ≤ top) then some (.next, ρ.set x (.own (ds.set j.toNat d))) else none
      | _ => none)
  | _ => none
-- CUT
noncomputable def exAug (ρ : Rho) (t : Expr) (op : Operator) (e : Expr) : Option (Fl × Rho) := match op with
  | .Add => (nameOfE t).bind fun x => if own1 sc x && !mu.contains x then (match look sc ρ x with
        | some (.val a) => (match a with
          | .str a => (r .value sc ρ e).bind fun d => (match d with
            | .str b => if a.length + b.length ≤ top then some (.next, ρ.set x (.val (.str (a ++ b)))) else none
            | _ => none)
          | _ => none)
        | _ => none) else none
  | _ => none
noncomputable def arg1 : List Expr → Option Expr
  | [a] => some a
  | _ => none
theorem arg1_eq {l : List Expr} {a : Expr} (q : arg1 l = some a) : l = [a] := by
  rcases l with _ | ⟨b, _ | ⟨_, _⟩⟩
  · exact noSome q
  · cases q; rfl
  · exact noSome q
noncomputable def exExpr (ρ : Rho) (e : Expr) : Option (Fl × Rho) := (callOf e).bind fun c => if c.2.2.2.2.1.isEmpty && (c.2.2.1.endLine == c.2.2.2.2.2.line) then (arg1 c.2.2.2.1).bind fun a => if isStar a then none else (nameOfE c.1).bind fun x => (ownOf? (look sc ρ x)).bind fun ds =>
    (r .value sc ρ a).bind fun d => (listOp c.2.1 ds d).bind fun ds' => some (.next, ρ.set x (.own ds'))
  else none
noncomputable def ex1 (rs : List Stmt → Rho → Option (Fl × Rho)) (ρ : Rho) : Stmt → Option (Fl × Rho)
  | .Assign ts e _ => (match ts with
    | [t] => exAsg r mu sc ρ t e
    | _ => none)
-- CUT
  | .AugAssign t op e _ => exAug r mu sc ρ t op e
  | .Expr e _ => exExpr r sc ρ e
  | .If t body orelse _ => (r .truth sc ρ t).bind fun d => match d with
      | .bool true => rs body ρ
      | .bool false => rs orelse ρ
      | _ => none
  | .For tg it body orelse _ => if orelse.isEmpty then (itemsD r sc ρ it).bind fun items => forL sc (rs body) tg items ρ else none
-- CUT
  | .While t body orelse _ => if orelse.isEmpty then whL (fun ρ => (r .truth sc ρ t).bind truthD) (rs body) 200 ρ else none
  | .Return v _ => v.bind fun e => (r .value sc (freeze ρ) e).bind fun d => some (.ret d, freeze ρ)
  | _ => none
/-- statements of other kinds, ahead of the evaluator's own rules -/
noncomputable abbrev SHook := (Md → Scope → Rho → Expr → Option PyData) → Scope → Rho → Stmt → Option (Fl × Rho)
noncomputable def exL (sh : SHook) (rs : List Stmt → Rho → Option (Fl × Rho)) : List Stmt → Rho → Option (Fl × Rho)
  | [], ρ => some (.next, ρ)
  | st :: rest, ρ => ((sh r sc ρ st).or (ex1 r mu sc rs ρ st)).bind fun q => match q.1 with
      | .next => exL sh rs rest q.2
      | f => some (f, q.2)
noncomputable def exs (sh : SHook) : Nat → List Stmt → Rho → Option (Fl × Rho)
  | 0, _, _ => none
  | n + 1, l, ρ => exL r mu sc sh (exs sh n) l ρ
end

/-! the mutators' rules -/
theorem list_extendW (l b : Addr) (items items2 : Array Value) (n n2 : Nat) (dd2 : Option Addr) (sl2 : Array (Option Value)) (hc0 : ¬(!items.isEmpty && Builtin.List.listTooLong (items.size + items2.size)) = true) (hc1 : items.size ≤ sizeLine) (hs2 : items.size + items2.size ≤ sizeLine + 1) :
    Meets (Builtin.«list.extend» ⟨[.ref l, .ref b], []⟩) (fun _ R s => s.heap.get? l = some { cls := .type "list", dict := none, data := .seq items n, slots := #[] } ∧ s.heap.get? b = some { cls := .type "list", dict := dd2, data := .seq items2 n2, slots := sl2 } ∧ R (.ok (.ret Value.none)) { s with heap := s.heap.update l (Obj.mapSeq fun x => x ++ items2), toks := s.toks }) :=
  .of_wp fun prog w A R s h => by
    obtain ⟨hp, g, d, tk, os⟩ := s; obtain ⟨hl, hb, h⟩ := h; have f1 := AutoSeq1.idx_int; have f2 := AutoSeq1.sub_tuple_tuple; have f3 := AutoSeq1.sub_list_list; have f4 := AutoSeq1.sub_tuple_list; have f5 := AutoSeq1.sub_list_tuple;
    have hz' : (items ++ items2).size ≤ sizeLine + 1 := by rw [Array.size_append]; exact hs2
    wp_walk using (wpAny_updateSeq hl rfl (hz := hc1) (_hz' := hz')), wpAny_loadPart' hl, wpAny_loadPart' hb; exact ⟨_, rfl, h⟩

theorem mapSeq_lst (vs : List Value) (n : Nat) (f : Array Value → Array Value) : ∃ n', Obj.mapSeq f (lst vs n) = lst (f vs.toArray).toList n' := ⟨_, by unfold Obj.mapSeq; simp; rfl⟩
end Mine

namespace Mine
open PySem PySem.Calls PySem.Spec PyProof.Rows PySem.W PySem.SeqAt

section
variable {prog : Program} {w : World} {A : Around} {s : Shared} {env : Env} {C : Cls} {H0 : Heap} {P P' U : Addr → Prop} {B B' : Addr → Option Obj} {own : Str → Bool} {X X' : List (Str × Addr)} {ρ ρ' : Rho} {h h' : Heap} {k : Nat} {mg mb : Str → Option Value}

theorem EntS.monoU {U U' : Addr → Prop} {x : Str} {v : Value} {ent : Ent} (m : ∀ a, U a → U' a) (e : EntS C B U X h x v ent) : EntS C B U' X h x v ent := by
  cases ent with
  | val d => exact Rep.mono m e
  | own ds => obtain ⟨a, vs, n, e1, e2, e3, r⟩ := e; exact ⟨a, vs, n, e1, e2, e3, r.mono m⟩
  | slf ds => obtain ⟨y9, dx, hs9, tk9, a9, e1, e2, e3, r⟩ := e; exact ⟨y9, dx, hs9, tk9, a9, e1, e2, e3, r.mono m⟩
  | hdr ds => obtain ⟨y, dx, hs, tk, a, vs, n, e1, e2, e3, e4, e5, r⟩ := e; exact ⟨y, dx, hs, tk, a, vs, n, e1, e2, e3, e4, e5, r.mono m⟩

theorem St.monoP (t : St C H0 P B env own X ρ h) (m : ∀ a, P a → P' a) : St C H0 P' B env own X ρ h :=
  { t with fresh := fun b e => m b (t.fresh b e), xp := fun p hp => m _ (t.xp p hp), vars := fun x ent e => let ⟨v, hv, he⟩ := t.vars x ent e; ⟨v, hv, he.monoU fun a u => ⟨m a u.1, u.2⟩⟩ }

theorem rep_avoid {U : Addr → Prop} {v : Value} {d : PyData} {J : Addr} (x : Rep U h v d) (n : h.get? J = none) : Rep (fun b => U b ∧ b ≠ J) h v d := by
  obtain ⟨as, r, u⟩ := x
  exact ⟨as, r, fun a m => ⟨u a m, fun q => by obtain ⟨o, ho⟩ := repAll_new.reads_alloc r a m; rw [q, n] at ho; cases ho⟩⟩
theorem repAll_avoid {U : Addr → Prop} {vs : List Value} {ds : List PyData} {J : Addr} (x : RepAll U h vs ds) (n : h.get? J = none) : RepAll (fun b => U b ∧ b ≠ J) h vs ds := by
  obtain ⟨as, r, u⟩ := x
  exact ⟨as, r, fun a m => ⟨u a m, fun q => by obtain ⟨o, ho⟩ := repAll_new.readsAll_alloc r a m; rw [q, n] at ho; cases ho⟩⟩

/-- what stood ahead does not reach what was made since -/
theorem St.avoid (t : St C H0 P B env own X ρ h) {J : Addr} (n : h.get? J = none) (st : Stays h h') (hJ : ∃ o, h'.get? J = some o) : St C H0 (fun b => P b ∧ b ≠ J) B env own X ρ h' := by
  have base : ∀ x ent, look env.scope ρ x = some ent → ∃ v, VarHas h env x v ∧ EntS C B (UU (fun b => P b ∧ b ≠ J) env X) X h x v ent := fun x ent e => by
    obtain ⟨v, hv, he⟩ := t.vars x ent e
    refine ⟨v, hv, ?_⟩
    have up : ∀ a, (UU P env X a ∧ a ≠ J) → UU (fun b => P b ∧ b ≠ J) env X a := fun a ⟨u, q⟩ => ⟨⟨u.1, q⟩, u.2⟩
    cases ent with
    | val d => exact (rep_avoid he n).mono up
    | own ds => obtain ⟨a, vs, n', e1, e2, e3, r⟩ := he; exact ⟨a, vs, n', e1, e2, e3, (repAll_avoid r n).mono up⟩
    | slf ds => obtain ⟨y9, dx, hs9, tk9, a9, e1, e2, e3, r⟩ := he; exact ⟨y9, dx, hs9, tk9, a9, e1, e2, e3, (rep_avoid r n).mono up⟩
    | hdr ds => obtain ⟨y, dx, hs, tk, a, vs, n', e1, e2, e3, e4, e5, r⟩ := he; exact ⟨y, dx, hs, tk, a, vs, n', e1, e2, e3, e4, e5, (repAll_avoid r n).mono up⟩
  have t' := t.stays st
  refine { t' with fresh := fun b e => ⟨t'.fresh b e, fun q => by obtain ⟨o, ho⟩ := hJ; rw [q, ho] at e; cases e⟩, xp := fun p hp => ⟨t.xp p hp, fun q => by obtain ⟨_, _, vs, n', ho⟩ := t.xs p hp; rw [q, n] at ho; cases ho⟩, vars := fun x ent e => ?_ }
  obtain ⟨v, hv, he⟩ := base x ent e
  refine ⟨v, hv.stays st, ?_⟩
  cases ent with
  | val d => exact Rep.stays st he
  | own ds => obtain ⟨a, vs, n', e1, e2, e3, r⟩ := he; exact ⟨a, vs, n', e1, e2, st _ _ e3, r.stays st⟩
  | slf ds => obtain ⟨y9, dx, hs9, tk9, a9, e1, e2, e3, r⟩ := he; exact ⟨y9, dx, hs9, tk9, a9, e1, e2, e3, r.stays st⟩
  | hdr ds => obtain ⟨y, dx, hs, tk, a, vs, n', e1, e2, e3, e4, e5, r⟩ := he; exact ⟨y, dx, hs, tk, a, vs, n', e1, e2, e3, e4, st _ _ e5, r.stays st⟩

/-- a dict that nothing names may change -/
theorem St.junk (t : St C H0 P B env own X ρ h) {J : Addr} {m : Str → Option Value} (hm : h.Ns J m) (hp : ¬ P J) (hb : B J = none) (hL : J ≠ env.locals) (hs : Heap.SameBut J h h') : St C H0 (fun b => P b ∨ b = J) B env own X ρ h' := by
  obtain ⟨oJ, es, ep, hoJ, hdJ, _⟩ := id hm
  have ne : ∀ a o, h.get? a = some o → (∀ es n, o.data ≠ .dict es n) → a ≠ J := fun a o e z q => by rw [q, hoJ] at e; cases e; exact z _ _ hdJ
  have cell : ∀ c u, h.IsCell c u → h'.IsCell c u := fun c u i => i.sameBut hs (by obtain ⟨o, ho, hd⟩ := i; exact ne c o ho fun _ _ q => by rw [hd] at q; cases q)
  have D : Dead (UU P env X) h J := ⟨noTup_dict hm, .inl fun q => hp q.1⟩
  have nsk : ∀ m, h.Ns env.locals m → h'.Ns env.locals m := fun m i => i.sameBut hs (Ne.symm hL)
  have lst' : ∀ a vs n, h.get? a = some (lst vs n) → h'.get? a = some (lst vs n) := fun a vs n e => (hs.2 a (ne _ _ e fun _ _ q => by cases q)).trans e
  refine { fn := t.fn, gl := t.gl, bl := t.bl, h0 := t.h0, base := fun c o e => (hs.2 c fun q => by rw [q, hb] at e; cases e).trans (t.base c o e), fresh := ?_, ns := let ⟨m, q⟩ := t.ns; ⟨m, nsk m q⟩, bL := t.bL, mine := ?_, apart := t.apart, cells := t.cells, isCell := fun y c e => let ⟨v, i⟩ := t.isCell y c e; ⟨v, cell _ _ i⟩, xs := ?_, xp := fun p hp => .inl (t.xp p hp), xnd := t.xnd, xfn := t.xfn, vars := ?_ }
  · intro b e
    by_cases q : b = J
    · exact .inr q
    · exact .inl (t.fresh b (by rw [← hs.2 b q]; exact e))
  · exact fun y hy => (t.mine y hy).imp id fun ⟨hk, c, v, hc, hi, hb⟩ => ⟨hk, c, v, hc, cell _ _ hi, hb⟩
  · intro p hp
    obtain ⟨c, d, vs2, n2, e⟩ := t.xs p hp
    exact ⟨c, d, vs2, n2, lst' _ _ _ e⟩
  · intro y ent e
    obtain ⟨v, hv, he⟩ := t.vars y ent e
    refine ⟨v, ?_, ?_⟩
    · rcases hv with ⟨hk, m, q, e⟩ | ⟨hk, c, e, i⟩
      · exact .inl ⟨hk, m, nsk m q, e⟩
      · exact .inr ⟨hk, c, e, cell _ _ i⟩
    · have up : ∀ a, UU P env X a → UU (fun b => P b ∨ b = J) env X a := fun a u => ⟨.inl u.1, u.2⟩
      cases ent with
      | val d => exact (Rep.dead D hs he).mono up
      | own ds => obtain ⟨b, vs2, n2, e1, e2, e3, rr⟩ := he; exact ⟨b, vs2, n2, e1, e2, lst' _ _ _ e3, (rr.dead D hs).mono up⟩
      | slf ds => obtain ⟨y9, dx, hs9, tk9, a9, e1, e2, e3, r⟩ := he; exact ⟨y9, dx, hs9, tk9, a9, e1, e2, e3, (Rep.dead D hs r).mono up⟩
      | hdr ds => obtain ⟨z, dx, hh, tk, b, vs2, n2, e1, e2, e3, e4, e5, rr⟩ := he; exact ⟨z, dx, hh, tk, b, vs2, n2, e1, e2, e3, e4, lst' _ _ _ e5, (rr.dead D hs).mono up⟩

/-- a list made anew, stored: the name owns it -/
theorem store_own (t : St C H0 (fun b => P b ∧ b ≠ a) B env own X ρ s.heap) {x : Str} {vs : List Value} {n : Nat} {ds : List PyData} (hx : own x = true) (ha : s.heap.get? a = some (lst vs n)) (hb : B a = none) (hL : a ≠ env.locals) (hX : ∀ p ∈ X, p.2 ≠ a) (hP : P a)
    (hr : RepAll (UU (fun b => P b ∧ b ≠ a) env X) s.heap vs ds) :
    wpAny (model prog w) A (storeName env x (.ref a)) (fun _ s' => ∃ h' tk, s' = { s with heap := h', toks := tk } ∧ St C H0 P B env own ((x, a) :: dropX X x) (ρ.set x (.own ds)) h' ∧ KeepO env s.heap h') NoE s := by
  refine store_raw t hx fun h' tk b hs hb' ⟨ob, hob⟩ hcl hbk hns hmine hvx hvy => ?_
  have hD : Dead (UU (fun b => P b ∧ b ≠ a) env X) s.heap b := by
    rcases hbk with rfl | ⟨u, hi⟩
    · obtain ⟨m, n⟩ := t.ns; exact ⟨noTup_dict n, .inl fun q => q.2.1 rfl⟩
    · exact ⟨noTup_cell hi, .inr ⟨u, hi⟩⟩
  have keep : ∀ c o, s.heap.get? c = some o → (∃ xs n, o.data = .seq xs n) ∨ B c = some o → h'.get? c = some o := fun c o e kk => (hs.2 c fun q => by
    rcases kk with ⟨xs, n, kk⟩ | kk
    · rcases hbk with rfl | ⟨u, o', ho', hd'⟩
      · obtain ⟨m, o', es, ep, ho', hd', _⟩ := t.ns
        rw [q, ho'] at e; cases e; rw [hd'] at kk; cases kk
      · rw [q, ho'] at e; cases e; rw [hd'] at kk; cases kk
    · rw [q, hb'] at kk; cases kk).trans e
  have up : ∀ c, UU (fun b => P b ∧ b ≠ a) env X c → UU P env ((x, a) :: dropX X x) c := fun c u => ⟨u.1.1, u.2.1, fun p hp => by
    rcases List.mem_cons.mp hp with rfl | hp
    · exact Ne.symm u.1.2
    · exact u.2.2 p (mem_dropX.mp hp).1⟩
  refine ⟨h', tk, rfl, { fn := t.fn, gl := t.gl, bl := t.bl, h0 := t.h0, base := fun a o e => keep a o (t.base a o e) (.inr e), fresh := fun c e => (t.fresh c ?_).1, ns := hns, bL := t.bL, mine := hmine, apart := t.apart, cells := t.cells, isCell := fun x c e => let ⟨v, i⟩ := t.isCell x c e; hcl c v i, xs := ?_, xp := ?_, xnd := ?_, xfn := ?_, vars := ?_ }, ?_⟩
  · by_cases hcb : c = b
    · subst hcb; rw [e] at hob; cases hob
    · rw [← hs.2 c hcb]; exact e
  · intro p hp
    rcases List.mem_cons.mp hp with rfl | hp
    · exact ⟨hb, hL, vs, n, keep _ _ ha (.inl ⟨_, _, rfl⟩)⟩
    · obtain ⟨a', b', vs', n', e⟩ := t.xs p (mem_dropX.mp hp).1
      exact ⟨a', b', vs', n', keep _ _ e (.inl ⟨_, _, rfl⟩)⟩
  · intro p hp
    rcases List.mem_cons.mp hp with rfl | hp
    · exact hP
    · exact (t.xp p (mem_dropX.mp hp).1).1
  · intro p hp q hq e
    rcases List.mem_cons.mp hp with rfl | hp <;> rcases List.mem_cons.mp hq with rfl | hq
    · rfl
    · exact absurd e.symm (hX q (mem_dropX.mp hq).1)
    · exact absurd e (hX p (mem_dropX.mp hp).1)
    · exact t.xnd p (mem_dropX.mp hp).1 q (mem_dropX.mp hq).1 e
  · intro p hp q hq e
    rcases List.mem_cons.mp hp with rfl | hp <;> rcases List.mem_cons.mp hq with rfl | hq
    · rfl
    · exact absurd e.symm (mem_dropX.mp hq).2
    · exact absurd e (mem_dropX.mp hp).2
    · exact t.xfn p (mem_dropX.mp hp).1 q (mem_dropX.mp hq).1 e
  · intro y ent e
    rcases look_set e with ⟨rfl, rfl⟩ | ⟨hy, e⟩
    · exact ⟨_, hvx, a, vs, n, rfl, List.mem_cons_self, keep _ _ ha (.inl ⟨_, _, rfl⟩), (hr.dead hD hs).mono up⟩
    · obtain ⟨u, hu, he⟩ := t.vars y ent e
      refine ⟨u, hvy y u hy hu, ?_⟩
      cases ent with
      | val d' => exact (Rep.dead hD hs he).mono up
      | own ds => obtain ⟨a', vs, n, e1, e2, e3, r⟩ := he; exact ⟨a', vs, n, e1, List.mem_cons_of_mem _ (mem_dropX.mpr ⟨e2, hy⟩), keep _ _ e3 (.inl ⟨_, _, rfl⟩), (r.dead hD hs).mono up⟩
      | slf ds => obtain ⟨y9, dx, hs9, tk9, a9, e1, e2, e3, r⟩ := he; exact ⟨y9, dx, hs9, tk9, a9, e1, e2, e3, (Rep.dead hD hs r).mono up⟩
      | hdr ds =>
        obtain ⟨y', dx, hs', tk', a', vs, n, e1, e2, e3, e4, e5, r⟩ := he
        exact ⟨y', dx, hs', tk', a', vs, n, e1, e2, e3, List.mem_cons_of_mem _ (mem_dropX.mpr ⟨e4, hy⟩), keep _ _ e5 (.inl ⟨_, _, rfl⟩), (r.dead hD hs).mono up⟩
  · intro c o e n1 n2
    refine (hs.2 c fun q => ?_).trans e
    rcases hbk with z | ⟨u, o', ho', hd'⟩
    · exact n1 (q.trans z)
    · rw [q, ho'] at e; cases e; exact n2 _ hd'
end
end Mine

namespace Mine
open PySem PySem.Calls PySem.Spec PyProof.Rows PySem.W PySem.SeqAt

section
variable {prog : Program} {w : World} {A : Around} {s : Shared} {env : Env} {C : Cls} {H0 : Heap} {P P' U : Addr → Prop} {B B' : Addr → Option Obj} {own : Str → Bool} {X X' : List (Str × Addr)} {ρ ρ' : Rho} {h h' : Heap} {k : Nat} {mg mb : Str → Option Value}
variable {Φ : Tab} {srt : PyData → Option PyData}

noncomputable def FlIs (U : Addr → Prop) (h : Heap) : Flow → Fl → Prop
  | .next, .next => True
  | .brk, .brk => True
  | .cont, .cont => True
  | .ret v, .ret d => Rep U h v d
  | _, _ => False

inductive ExPost (C : Cls) (H0 : Heap) (P : Addr → Prop) (B : Addr → Option Obj) (env : Env) (own : Str → Bool) (s : Shared) (fl : Fl) (ρ' : Rho) (f : Flow) (s' : Shared) : Prop
  | mk (B' : Addr → Option Obj) (X' : List (Str × Addr)) (h' : Heap) (tk : Nat) (e : s' = { s with heap := h', toks := tk }) (sub : ∀ a o, B a = some o → B' a = some o) (t : St C H0 P B' env own X' ρ' h') (fl : FlIs (UU P env X') h' f fl)

theorem exPost_from {h' : Heap} {tk : Nat} {fl : Fl} {f : Flow} {s' : Shared} (sub : ∀ a o, B a = some o → B' a = some o) (x : ExPost C H0 P B' env own { s with heap := h', toks := tk } fl ρ' f s') : ExPost C H0 P B env own s fl ρ' f s' := by
  obtain ⟨B2, X2, h2, tk2, e, sub2, t, fl⟩ := x
  exact ⟨B2, X2, h2, tk2, e, fun a o z => sub2 a o (sub a o z), t, fl⟩

theorem var_but {x : Str} {v : Value} {a : Addr} (hs : Heap.SameBut a h h') (hL : a ≠ env.locals) (ha : ∃ vs n, h.get? a = some (lst vs n)) (hv : VarHas h env x v) : VarHas h' env x v := by
  rcases hv with ⟨hk, m, q, e⟩ | ⟨hk, c, e, i⟩
  · exact .inl ⟨hk, m, q.sameBut hs (Ne.symm hL), e⟩
  · refine .inr ⟨hk, c, e, i.sameBut hs fun q => ?_⟩
    obtain ⟨vs, n, ha⟩ := ha
    obtain ⟨o, ho, hd⟩ := i
    rw [q, ha] at ho; cases ho; cases hd

theorem St.setOwn (t : St C H0 P B env own X ρ h) {x : Str} {a : Addr} {vs' : List Value} {n' : Nat} {ds' : List PyData} (hv : VarHas h env x (.ref a)) (hx : (x, a) ∈ X) (hs : Heap.SameBut a h h') (ho : h'.get? a = some (lst vs' n')) (hr : RepAll (UU P env X) h vs' ds') :
    St C H0 P B env own X (ρ.set x (.own ds')) h' := by
  obtain ⟨hb, hL, vs, n, ha⟩ := t.xs _ hx
  obtain ⟨lv, t'⟩ := t.mutX hx hs ho
  refine { t' with vars := fun y ent e => ?_ }
  rcases look_set e with ⟨rfl, rfl⟩ | ⟨hy, e⟩
  · exact ⟨_, var_but hs hL ⟨vs, n, ha⟩ hv, a, vs', n', rfl, hx, ho, lv.all hr⟩
  · refine t'.vars y ent ?_
    unfold look at e ⊢
    replace e := iteS e
    obtain ⟨c, e⟩ := e
    rw [if_pos c]
    exact lookup_keep hy e

theorem swapsWith_other {e : Expr} {t : Option Expr} {line : Nat} (h : isComp e = false) : swapsWith e t line env = pure false := by
  cases e <;> first | rfl | cases h
theorem fresh_allocU (c : Cx C H0 U env ρ h) {a : Addr} (e : h.get? a = none) : U a := c.fresh a e

/-- x = e, a value -/
theorem assign_val (PS : SpecOk prog w mg H0 C Φ k) (T : SortOk prog w srt) (G : Ground0 mg mb H0) (rm : Room A k) (t : St C H0 P B env own X ρ s.heap) {n : Nat} {x : Str} {xp pos : Pos} {e : Expr} {d : PyData} (hx : own x = true) (q : ev Φ srt n .value env.scope ρ e = some d) :
    wpAny (model prog w) A (exec (.Assign [.Name x xp] e pos) env) (ExPost C H0 P B env own s .next (ρ.set x (.val d))) NoE s := by
  have plain : swapsWith e (some (.Name x xp)) pos.line env = pure false → wpAny (model prog w) A (exec (.Assign [.Name x xp] e pos) env) (ExPost C H0 P B env own s .next (ρ.set x (.val d))) NoE s := fun hs => by
    refine wpAny_Assign_Name (thenV ((ev_ok (C := C) PS T G n _ _ _ _ _ _ _ _ rfl t.cx rm).1 q) fun v h' tk st rp => ?_) hs
    refine wpAny_mono (store_val (s := { s with heap := h', toks := tk }) (t.stays st) hx rp) (fun _ s' zP => ?_) fun _ _ z => z
    obtain ⟨h2, tk2, e2, _, _, t2, _⟩ := zP
    exact ⟨B, _, h2, tk2, e2, fun _ _ z => z, t2, trivial⟩
  cases hc : isComp e with
  | false => exact plain (swapsWith_other hc)
  | true =>
    cases n with
    | zero => cases q
    | succ n =>
      cases e <;> try (cases hc; done)
      · rename_i elt gens scope cpos
        have key : ∃ b : Bool, swapsWith (.ListComp elt gens scope cpos) (some (.Name x xp)) pos.line env = pure b := ⟨_, rfl⟩
        obtain ⟨b, hb⟩ := key
        cases b with
        | false => exact plain hb
        | true =>
          have q' : evComp (ev Φ srt n) env.scope ρ elt gens scope = some d := q
          obtain ⟨ds, rfl, core⟩ := comp_core (pos := cpos) (p := firstIterPos gens cpos) (ev_ok (C := C) PS T G n) G rm t.cx q'
          rw [exec_Assign_Name_used _ _ _ _ hb]
          refine wpAny_bind (wpAny_standAt (wpAny_bind ?_))
          rw [arm_evalThenUse_ListComp]
          refine wpAny_bind (core (some (assign (.Name x xp) env)) _ fun h' tk D L vs n' cd => ?_)
          show wpAny _ _ (assign (.Name x xp) env (.ref D)) _ _ _
          obtain ⟨m, hm⟩ := cd.ns
          obtain ⟨oL, hoL⟩ : ∃ o, h'.get? L = some o := let ⟨o, _, _, ho, _⟩ := hm; ⟨o, ho⟩
          have t1 := t.avoid cd.nL cd.st ⟨oL, hoL⟩
          have hLL : L ≠ env.locals := fun z => by obtain ⟨m', o, es, ep, ho, _⟩ := t.ns; rw [← z, cd.nL] at ho; cases ho
          have hDU : UU (fun b => P b ∧ b ≠ L) env X D := ⟨⟨t.fresh D cd.nD, cd.ne⟩, (fun z => by obtain ⟨m', o, es, ep, ho, _⟩ := t.ns; rw [← z, cd.nD] at ho; cases ho), (fun p hp z => by obtain ⟨_, _, vs', n', ho⟩ := t.xs p hp; rw [z, cd.nD] at ho; cases ho)⟩
          have rD : Rep (UU (fun b => P b ∧ b ≠ L) env X) h' (.ref D) (.list ds) := .list ⟨_, cd.hD, rfl, _, rfl⟩ (cd.rep.mono fun b u => ⟨⟨u.1.1, u.2.1⟩, u.1.2⟩) hDU
          have hbL : B L = none := by
            cases z : B L with
            | none => rfl
            | some o => have := t.base L o z; rw [cd.nL] at this; cases this
          refine wpAny_assign_Name (wpAny_mono (store_val (s := { s with heap := h', toks := tk }) t1 hx rD) (fun _ s' zP => ?_) fun _ _ z => z)
          obtain ⟨h2, tk2, e2, _, _, t2, ko⟩ := zP
          subst e2
          have hm2 : h2.Ns L m := by
            obtain ⟨o, es, ep, ho, hd, rr⟩ := hm
            exact ⟨o, es, ep, ko L o ho hLL (fun v z => by rw [hd] at z; cases z), hd, rr⟩
          refine ⟨m, hm2, fun h3 hs3 => wpAny_pure (wpAny_pure ?_)⟩
          have t3 := (t2.junk hm2 (fun z => z.2 rfl) hbL hLL hs3).monoP (P' := P) fun b z => z.elim (fun y => y.1) fun y => y ▸ t.fresh L cd.nL
          exact ⟨B, _, h3, tk2, rfl, fun _ _ z => z, t3, trivial⟩
      · cases q
      · cases q

/-- x = e, a list made anew: x owns it -/
theorem assign_own (PS : SpecOk prog w mg H0 C Φ k) (T : SortOk prog w srt) (G : Ground0 mg mb H0) (rm : Room A k) (t : St C H0 P B env own X ρ s.heap) {n : Nat} {x : Str} {xp pos : Pos} {e : Expr} {ds : List PyData} (hx : own x = true) (hf : isFresh e = true) (q : ev Φ srt n .value env.scope ρ e = some (.list ds)) :
    wpAny (model prog w) A (exec (.Assign [.Name x xp] e pos) env) (ExPost C H0 P B env own s .next (ρ.set x (.own ds))) NoE s := by
  have noB : ∀ a, s.heap.get? a = none → B a = none := fun a e => by
    cases z : B a with
    | none => rfl
    | some o => have := t.base a o z; rw [e] at this; cases this
  have noL : ∀ a, s.heap.get? a = none → a ≠ env.locals := fun a e z => by obtain ⟨m', o, es, ep, ho, _⟩ := t.ns; rw [← z, e] at ho; cases ho
  have noX : ∀ a, s.heap.get? a = none → ∀ p ∈ X, p.2 ≠ a := fun a e p hp z => by obtain ⟨_, _, vs', n', ho⟩ := t.xs p hp; rw [z, e] at ho; cases ho
  have plain : swapsWith e (some (.Name x xp)) pos.line env = pure false → wpAny (model prog w) A (exec (.Assign [.Name x xp] e pos) env) (ExPost C H0 P B env own s .next (ρ.set x (.own ds))) NoE s := fun hs => by
    refine wpAny_Assign_Name (wpAny_mono (evFresh_ok (C := C) PS T G t.cx rm q hf) (fun v s' zP => ?_) fun _ _ z => z) hs
    obtain ⟨h', tk, a, vs, n', e', st, ev, na, ha, rr⟩ := zP
    subst e' ev
    have t1 := t.avoid na st ⟨_, ha⟩
    refine wpAny_mono (store_own (s := { s with heap := h', toks := tk }) t1 hx ha (noB a na) (noL a na) (noX a na) (t.fresh a na) (rr.mono fun b u => ⟨⟨u.1.1, u.2⟩, u.1.2⟩)) (fun _ s' zP => ?_) fun _ _ z => z
    obtain ⟨h2, tk2, e2, t2, _⟩ := zP
    exact ⟨B, _, h2, tk2, e2, fun _ _ z => z, t2, trivial⟩
  cases hc : isComp e with
  | false => exact plain (swapsWith_other hc)
  | true =>
    cases n with
    | zero => cases q
    | succ n =>
      cases e <;> try (cases hc; done)
      · rename_i elt gens scope cpos
        have key : ∃ b : Bool, swapsWith (.ListComp elt gens scope cpos) (some (.Name x xp)) pos.line env = pure b := ⟨_, rfl⟩
        obtain ⟨b, hb⟩ := key
        cases b with
        | false => exact plain hb
        | true =>
          have q' : evComp (ev Φ srt n) env.scope ρ elt gens scope = some (.list ds) := q
          obtain ⟨ds', e', core⟩ := comp_core (pos := cpos) (p := firstIterPos gens cpos) (ev_ok (C := C) PS T G n) G rm t.cx q'
          cases e'
          rw [exec_Assign_Name_used _ _ _ _ hb]
          refine wpAny_bind (wpAny_standAt (wpAny_bind ?_))
          rw [arm_evalThenUse_ListComp]
          refine wpAny_bind (core (some (assign (.Name x xp) env)) _ fun h' tk D L vs n' cd => ?_)
          show wpAny _ _ (assign (.Name x xp) env (.ref D)) _ _ _
          obtain ⟨m, hm⟩ := cd.ns
          obtain ⟨oL, hoL⟩ : ∃ o, h'.get? L = some o := let ⟨o, _, _, ho, _⟩ := hm; ⟨o, ho⟩
          have t0 := t.avoid cd.nL (Stays.refl _ |>.trans cd.st) ⟨oL, hoL⟩
          have t1 : St C H0 (fun b => (P b ∧ b ≠ L) ∧ b ≠ D) B env own X ρ h' := by
            have z := (t.avoid cd.nD cd.st ⟨_, cd.hD⟩)
            refine { t0 with fresh := fun b e => ⟨t0.fresh b e, (z.fresh b e).2⟩, xp := fun p hp => ⟨t0.xp p hp, (z.xp p hp).2⟩, vars := fun y ent e => ?_ }
            obtain ⟨v, hv, he⟩ := t.vars y ent e
            refine ⟨v, hv.stays cd.st, ?_⟩
            have up : ∀ a, ((UU P env X a ∧ a ≠ L) ∧ a ≠ D) → UU (fun b => (P b ∧ b ≠ L) ∧ b ≠ D) env X a := fun a u => ⟨⟨⟨u.1.1.1, u.1.2⟩, u.2⟩, u.1.1.2⟩
            cases ent with
            | val d => exact (Rep.stays cd.st (rep_avoid (rep_avoid he cd.nL) cd.nD)).mono up
            | own ds => obtain ⟨a, vs, n', e1, e2, e3, r⟩ := he; exact ⟨a, vs, n', e1, e2, cd.st _ _ e3, (RepAll.stays cd.st (repAll_avoid (repAll_avoid r cd.nL) cd.nD)).mono up⟩
            | slf ds => obtain ⟨y9, dx, hs9, tk9, a9, e1, e2, e3, r⟩ := he; exact ⟨y9, dx, hs9, tk9, a9, e1, e2, e3, (Rep.stays cd.st (rep_avoid (rep_avoid r cd.nL) cd.nD)).mono up⟩
            | hdr ds => obtain ⟨y', dx, hs, tk', a, vs, n', e1, e2, e3, e4, e5, r⟩ := he; exact ⟨y', dx, hs, tk', a, vs, n', e1, e2, e3, e4, cd.st _ _ e5, (RepAll.stays cd.st (repAll_avoid (repAll_avoid r cd.nL) cd.nD)).mono up⟩
          refine wpAny_assign_Name (wpAny_mono (store_own (P := fun b => P b ∧ b ≠ L) (s := { s with heap := h', toks := tk }) t1 hx cd.hD (noB D cd.nD) (noL D cd.nD) (noX D cd.nD) ⟨t.fresh D cd.nD, cd.ne⟩ (cd.rep.mono fun b u => ⟨⟨⟨u.1.1, u.2.1⟩, u.2.2⟩, u.1.2⟩)) (fun _ s' zP => ?_) fun _ _ z => z)
          obtain ⟨h2, tk2, e2, t2, ko⟩ := zP
          subst e2
          have hm2 : h2.Ns L m := by
            obtain ⟨o, es, ep, ho, hd, rr⟩ := hm
            exact ⟨o, es, ep, ko L o ho (noL L cd.nL) (fun v z => by rw [hd] at z; cases z), hd, rr⟩
          refine ⟨m, hm2, fun h3 hs3 => wpAny_pure (wpAny_pure ?_)⟩
          have t3 := (t2.junk hm2 (fun z => z.2 rfl) (noB L cd.nL) (noL L cd.nL) hs3).monoP (P' := P) fun b z => z.elim (fun y => y.1) fun y => y ▸ t.fresh L cd.nL
          exact ⟨B, _, h3, tk2, rfl, fun _ _ z => z, t3, trivial⟩
      · cases q
      · cases q
end
end Mine

namespace Mine
open PySem PySem.Calls PySem.Spec PyProof.Rows PySem.W PySem.SeqAt

section
variable {prog : Program} {w : World} {A : Around} {s : Shared} {env : Env} {C : Cls} {H0 : Heap} {P P' U : Addr → Prop} {B B' : Addr → Option Obj} {own : Str → Bool} {X X' : List (Str × Addr)} {ρ ρ' : Rho} {h h' : Heap} {k : Nat} {mg mb : Str → Option Value}
variable {Φ : Tab} {srt : PyData → Option PyData}

theorem inter_false (h : env.scope.kind = .function) : interactive env = false := by unfold interactive; rw [h]; rfl

theorem upd_lst {h : Heap} {a : Addr} {vs : List Value} {n : Nat} (ha : h.get? a = some (lst vs n)) (f : Array Value → Array Value) : ∃ n', (h.update a (Obj.mapSeq f)).get? a = some (lst (f vs.toArray).toList n') := by
  obtain ⟨n', e⟩ := mapSeq_lst vs n f
  exact ⟨n', by rw [Heap.get?_update_self _ ha (by rw [e]; rfl), e]⟩

-- CUT
theorem eraseP_strs {h : Heap} {x : Str} : ∀ {vs : List Value} {ds : List PyData}, RepAll U h vs ds → allStr ds = true → ds.any (isTheStr x) = true →
    ∃ j, ∃ hj : j < vs.length, (∃ t, vs[j] = .str x t) ∧ (∀ m (hm : m < vs.length), m < j → ∃ y t, vs[m] = .str y t ∧ (y == x) = false) ∧ RepAll U h (vs.eraseIdx j) (ds.eraseP (isTheStr x))
  | [], [], _, _, e => by simp at e
  | [], _ :: _, r, _, _ => by have := r.length; simp at this
  | _ :: _, [], r, _, _ => by have := r.length; simp at this
  | v :: vs, d :: ds, r, ha, e => by
    obtain ⟨y, rfl⟩ : ∃ y, d = .str y := by cases d <;> first | exact ⟨_, rfl⟩ | cases ha
    obtain ⟨t, rfl⟩ := r.head.strInv
    have ha' : allStr ds = true := ha
    by_cases hy : (y == x) = true
    · refine ⟨0, by simp, ⟨t, by simp [beq_iff_eq.mp hy]⟩, fun m hm h0 => absurd h0 (Nat.not_lt_zero _), ?_⟩
      rw [List.eraseP_cons_of_pos (by exact hy)]
      exact r.tail
    · have hy' : (y == x) = false := by simpa using hy
      have e' : ds.any (isTheStr x) = true := by
        rw [List.any_cons] at e
        have : isTheStr x (.str y) = false := hy'
        rw [this, Bool.false_or] at e; exact e
      obtain ⟨j, hj, h1, h2, h3⟩ := eraseP_strs r.tail ha' e'
      refine ⟨j + 1, by simp; omega, by simpa using h1, fun m hm hlt => ?_, ?_⟩
      · cases m with
        | zero => exact ⟨y, t, rfl, hy'⟩
        | succ m => simpa using h2 m (by simpa using hm) (by omega)
      · rw [List.eraseP_cons_of_neg (by show ¬ isTheStr x (.str y) = true; exact hy)]
        exact .cons r.head h3
theorem listOp_ok (PS : SpecOk prog w mg H0 C Φ k) (T : SortOk prog w srt) (G : Ground0 mg mb H0) (rm : Room A k) (t : St C H0 P B env own X ρ s.heap) {n : Nat} {x m : Str} {xp ap cp pos : Pos} {a : Expr} {d : PyData} {ds ds' : List PyData} (hl : (ap.endLine == cp.line) = true) (hst : isStar a = false)
    (hx : look env.scope ρ x = some (.own ds)) (q : ev Φ srt n .value env.scope ρ a = some d) (e : listOp m ds d = some ds') :
    wpAny (model prog w) A (exec (.Expr (.Call (.Attribute (.Name x xp) m ap) [a] [] cp) pos) env) (ExPost C H0 P B env own s .next (ρ.set x (.own ds'))) NoE s := by
  obtain ⟨v, hv, ad, vs, n0, rfl, hX, ha, rr⟩ := t.vars x _ hx
  obtain ⟨_, hd, _⟩ := look_ok hx
  have hbt : backTo cp (starEach [a] env) = [(false, eval a env)] := by rw [star_cons hst]; rfl
  refine wpAny_Expr (wpAny_Call_method_lateS rfl (by rw [hbt]; rfl) hl (wpAny_Name (load_ok t.fn hx hv ?_) hd)) (inter_false t.fn) rfl
  rw [hbt]
  -- what is behind the argument
  have fin : ∀ (f : Array Value → Array Value) (h' : Heap) (tk : Nat), Stays s.heap h' → RepAll (UU P env X) h' (f vs.toArray).toList ds' →
      ExPost C H0 P B env own s .next (ρ.set x (.own ds')) .next { s with heap := h'.update ad (Obj.mapSeq f), toks := tk } := fun f h' tk st r' => by
    have ha' := st _ _ ha
    obtain ⟨n', hn'⟩ := upd_lst ha' f
    exact ⟨B, X, _, tk, rfl, fun _ _ z => z, (t.stays st).setOwn (hv.stays st) hX (Heap.SameBut.update ..) hn' r', trivial⟩
  unfold listOp at e
  split at e
  · rename_i hm
    have hm := beq_iff_eq.mp hm
    subst hm
    replace e := iteS e
    obtain ⟨hlen, e⟩ := e
    cases e
    refine ⟨"list", "list.append", PySem.F.plainAttrs_list, PySem.F.slot_list_append, PySem.F.type_list_append, ⟨_, ha, rfl⟩, fun a' e' => by cases e'; exact ⟨_, ha, rfl⟩, PySem.P.append_list ?_⟩
    refine thenV ((ev_ok (C := C) PS T G n _ _ _ _ _ _ _ _ rfl t.cx rm).1 q) fun v' h' tk st rp => ?_
    refine ⟨vs.toArray, n0, ?_, st _ _ ha, fin (fun xs => xs.push v') h' tk st ?_⟩
    · rw [List.size_toArray, rr.length]; exact Nat.le_trans (Nat.le_of_lt hlen) top_le
    · simpa using (rr.stays st).append (.cons rp .nil)
  · split at e
    · rename_i hm
      have hm := beq_iff_eq.mp hm
      subst hm
      cases d <;> simp only [reduceCtorEq] at e
      rename_i es
      replace e := iteS e
      obtain ⟨hlen, e⟩ := e
      cases e
      refine ⟨"list", "list.extend", PySem.F.plainAttrs_list, PySem.F.slot_list_extend, PySem.F.type_list_extend, ⟨_, ha, rfl⟩, fun a' e' => by cases e'; exact ⟨_, ha, rfl⟩, seqMethod1_meets PySem.F.slot_list_extend PySem.F.entry_list_extend ?_⟩
      refine thenV ((ev_ok (C := C) PS T G n _ _ _ _ _ _ _ _ rfl t.cx rm).1 q) fun v' h' tk st rp => ?_
      obtain ⟨b, ws, rfl, ⟨⟨cls, dd, data, sl⟩, hob, hcb, n2, hdb⟩, rw', ub⟩ := rp.listInv
      simp only at hcb hdb
      subst hcb hdb
      have hsz : vs.toArray.size + ws.toArray.size ≤ sizeLine := by
        rw [List.size_toArray, List.size_toArray, rr.length, rw'.length]; exact Nat.le_trans hlen top_le
      refine ⟨⟨_, st _ _ ha, rfl⟩, PySem.F.args_list_extend_2 _ _, _, list_extendW ad b vs.toArray ws.toArray n0 n2 dd sl ?_ (by omega) (by omega), st _ _ ha, hob, ?_⟩
      · unfold Builtin.List.listTooLong
        simp only [Bool.and_eq_true, decide_eq_true_eq, not_and]
        intro _; omega
      · exact fin (fun xs => xs ++ ws.toArray) h' tk st (by simpa using (rr.stays st).append rw')
-- CUT
    · replace e := iteS e
      obtain ⟨hm, e⟩ := e
      have hm := beq_iff_eq.mp hm
      subst hm
      replace e := iteS e
      obtain ⟨hlen, e⟩ := e
      cases d <;> simp only [removeD, reduceCtorEq] at e
      rename_i y
      replace e := iteS e
      obtain ⟨hc, e⟩ := e
      cases e
      rw [Bool.and_eq_true] at hc
      refine ⟨"list", "list.remove", PySem.F.plainAttrs_list, PySem.F.slot_list_remove, PySem.F.type_list_remove, ⟨_, ha, rfl⟩, fun a' e' => by cases e'; exact ⟨_, ha, rfl⟩, PySem.P.remove_list ?_⟩
      refine thenV ((ev_ok (C := C) PS T G n _ _ _ _ _ _ _ _ rfl t.cx rm).1 q) fun v' h' tk st rp => ?_
      obtain ⟨u, rfl⟩ := rp.strInv
      obtain ⟨j, hj, ⟨tj, ej⟩, h2, h3⟩ := eraseP_strs (rr.stays st) hc.1 hc.2
      refine ⟨vs.toArray, n0, (fun z => match z with | .str z _ => z == y | _ => false), j, by simpa using hj, ?_, st _ _ ha, ?_, ?_, ?_, fin (fun xs => xs.eraseIdxIfInBounds j) h' tk st ?_⟩
      · rw [List.size_toArray, rr.length]; exact Nat.le_trans hlen top_le
      · intro z hz
        have hz' : z ∈ vs := by simpa using hz
        obtain ⟨i, hi, rfl⟩ := List.getElem_of_mem hz'
        obtain ⟨dz, hdz, rz⟩ := rr.get' (List.getElem?_eq_getElem hi)
        obtain ⟨sz, rfl⟩ : ∃ sz, dz = .str sz := allStr_get hc.1 hdz
        obtain ⟨tz, ez⟩ := rz.strInv
        rw [ez]
        have := PySem.SeqRoads2.EqGives.str sz y tz u
        rw [str_beq] at this
        exact this
      · simp [ej]
      · intro mm hmm hlt
        obtain ⟨yy, tt, e1, e2⟩ := h2 mm (by simpa using hmm) hlt
        simp [e1, e2]
      · have : (vs.toArray.eraseIdxIfInBounds j).toList = vs.eraseIdx j := by simp [Array.eraseIdxIfInBounds, hj]
        rw [this]; exact h3
-- CUT
where
  allStr_get : ∀ {ds : List PyData} {i : Nat} {d : PyData}, allStr ds = true → ds[i]? = some d → ∃ s, d = .str s
    | [], _, _, _, e => by simp at e
    | .str s :: _, 0, _, _, e => by simp at e; exact ⟨s, e.symm⟩
    | .str _ :: r, i + 1, _, h, e => allStr_get (ds := r) h (by simpa using e)
end
end Mine

namespace Mine
open PySem PySem.Calls PySem.Spec PyProof.Rows PySem.W PySem.SeqAt

section
variable {prog : Program} {w : World} {A : Around} {s : Shared} {env : Env} {C : Cls} {H0 : Heap} {P P' U : Addr → Prop} {B B' : Addr → Option Obj} {own : Str → Bool} {X X' : List (Str × Addr)} {ρ ρ' : Rho} {h h' : Heap} {k : Nat} {mg mb : Str → Option Value}
variable {Φ : Tab} {srt : PyData → Option PyData}

theorem setItem_lst {E : Value → Shared → Prop} {l : Addr} {vs : List Value} {n : Nat} {k : Int} {t : Tok} {v : Value} {Q : Unit → Shared → Prop} (hl : s.heap.get? l = some (lst vs n)) (h0 : 0 ≤ k) (hfit : k < 2 ^ 63) (hn : k < vs.length)
    (hQ : ∀ h' n', h'.get? l = some (lst (vs.set k.toNat v) n') → Heap.SameBut l s.heap h' → Q () { s with heap := h' }) :
    wpAny (model prog w) A (setItem (.ref l) (.int k t) v) Q E s := by
  have hL : s.heap.IsList l vs.toArray := ⟨_, hl, rfl, n, rfl⟩
  unfold setItem
  try with_reducible refine wpAny_holding ?_
  first | refine wpAny_bind (wpAny_pure ?_) | skip
  refine wpAny_bind (wpAny_sequenceKey hL.typeIs (by decide) ?_)
  refine wpAny_bind (wpAny_callSpecial?_slot (name := Str.ofString "__setitem__") hL.typeIs slot_list_setitem
    (wpAny_call_entry slot_list_setitem hL.typeIs entry_list_setitem ?_ (args_list_setitem _ _ _)))
  show wpAny _ _ (Builtin.List.listSubscript? (.int k t) >>= _) _ _ s
  refine wpAny_bind (wpAny_listSubscript_int (fitsIndex_of h0 hfit) ?_)

  clear hfit
  obtain ⟨j, rfl⟩ := Int.eq_ofNat_of_zero_le h0
  have hj : j < vs.length := by omega
  have hx' : vs.toArray[j]? = some vs[j] := by simp [hj]
  show wpAny _ _ ((seqItemAt l j >>= fun r => pure (r.map (j, ·))) >>= _) _ _ s
  refine wpAny_bind (wpAny_bind (wpAny_seqItemAt hl rfl (wpAny_pure ?_)))
  rw [hx']
  show wpAny _ _ (setSeqItemAt l j v >>= _) _ _ s
  obtain ⟨n', hn'⟩ := upd_lst hl (·.setIfInBounds j v)
  have e : (vs.toArray.setIfInBounds j v).toList = vs.set j v := by simp
  rw [e] at hn'
  refine wpAny_bind (wpAny_setSeqItemAt hl rfl ?_)
  first
    | exact wpAny_bind (wpAny_pure (wpAny_pure ⟨.none, rfl, wpAny_pure (hQ _ n' hn' (Heap.SameBut.update ..))⟩))
    | exact wpAny_pure ⟨.none, rfl, wpAny_pure (hQ _ n' hn' (Heap.SameBut.update ..))⟩

theorem RepAll.set {vs : List Value} {ds : List PyData} {v : Value} {d : PyData} (r : RepAll U h vs ds) (rv : Rep U h v d) : ∀ (j : Nat), RepAll U h (vs.set j v) (ds.set j d) := by
  induction vs generalizing ds with
  | nil =>
    cases ds with
    | nil => intro j; exact .nil
    | cons => have := r.length; simp at this
  | cons y ys ih =>
    cases ds with
    | nil => have := r.length; simp at this
    | cons dd dds =>
      intro j
      cases j with
      | zero => exact .cons rv r.tail
      | succ j => exact .cons r.head (ih r.tail j)

theorem setItem_ok (PS : SpecOk prog w mg H0 C Φ k) (T : SortOk prog w srt) (G : Ground0 mg mb H0) (rm : Room A k) (t : St C H0 P B env own X ρ s.heap) {n : Nat} {x : Str} {xp sp pos : Pos} {i e : Expr} {d : PyData} {j : Int} {ds : List PyData} (hc : isComp e = false)
    (hx : look env.scope ρ x = some (.own ds)) (qe : ev Φ srt n .value env.scope ρ e = some d) (qi : ev Φ srt n .value env.scope ρ i = some (.int j)) (h0 : 0 ≤ j) (h1 : j < ds.length) (h2 : ds.length ≤ top) :
    wpAny (model prog w) A (exec (.Assign [.Subscript (.Name x xp) i sp] e pos) env) (ExPost C H0 P B env own s .next (ρ.set x (.own (ds.set j.toNat d)))) NoE s := by
  obtain ⟨v, hv, ad, vs, n0, rfl, hX, ha, rr⟩ := t.vars x _ hx
  obtain ⟨_, hd, _⟩ := look_ok hx
  refine wpAny_Assign_Subscript (thenV ((ev_ok (C := C) PS T G n _ _ _ _ _ _ _ _ rfl t.cx rm).1 qe) fun ve h₁ tk₁ st₁ re => ?_) (swapsWith_other hc)
  refine wpAny_Name (load_ok (s := { s with heap := h₁, toks := tk₁ }) t.fn hx (hv.stays st₁) ?_) hd
  refine thenV ((ev_ok (C := C) PS T G n _ _ _ _ _ _ { s with heap := h₁, toks := tk₁ } _ rfl (t.stays st₁).cx rm).1 qi) fun vi h₂ tk₂ st₂ ri => ?_
  obtain ⟨ti, rfl⟩ := ri.intInv
  have hlen := rr.length
  refine setItem_lst (s := { s with heap := h₂, toks := tk₂ }) (st₂ _ _ (st₁ _ _ ha)) h0 (by unfold top at h2; omega) (by omega) fun h' n' hn' hs => ?_
  exact ⟨B, X, h', tk₂, rfl, fun _ _ z => z, (t.stays (st₁.trans st₂)).setOwn (hv.stays (st₁.trans st₂)) hX hs hn' ((rr.stays (st₁.trans st₂)).set (re.stays st₂) _), trivial⟩

theorem Assign_Tuple0 {es : List Expr} {kk : Nat} {tp pos : Pos} {e : Expr} {Q : Flow → Shared → Prop} {E : Value → Shared → Prop} (ht : isTup e = false)
    (h : wpAny (model prog w) A (eval e env) (fun v s₁ => wpAny (model prog w) A (assign (.Tuple es kk tp) env v) (fun _ => Q .next) E s₁) E s) : wpAny (model prog w) A (exec (.Assign [.Tuple es kk tp] e pos) env) Q E s := by
  refine Assign_Tuple h ?_ ?_
  · cases e <;> first | rfl | cases ht
  · cases e <;> first | rfl | cases ht

theorem assign_tup (PS : SpecOk prog w mg H0 C Φ k) (T : SortOk prog w srt) (G : Ground0 mg mb H0) (rm : Room A k) (t : St C H0 P B env own X ρ s.heap) {n : Nat} {es : List Expr} {kk : Nat} {tp pos : Pos} {e : Expr} {d : PyData} {b : List (Str × PyData)} (ht : isTup e = false)
    (q : ev Φ srt n .value env.scope ρ e = some d) (hb : bindD (.Tuple es kk tp) d = some b) (ho : b.all (fun p => own p.1) = true) :
    wpAny (model prog w) A (exec (.Assign [.Tuple es kk tp] e pos) env) (ExPost C H0 P B env own s .next (ρ.sets b)) NoE s := by
  refine Assign_Tuple0 ht (thenV ((ev_ok (C := C) PS T G n _ _ _ _ _ _ _ _ rfl t.cx rm).1 q) fun v h₁ tk₁ st₁ rv => ?_)
  refine wpAny_mono (bind_ok (s := { s with heap := h₁, toks := tk₁ }) (t.stays st₁) rm.handled hb ho rv) (fun _ s' zP => ?_) fun _ _ z => z
  obtain ⟨h2, tk2, e2, _, _, t2⟩ := zP
  exact ⟨B, _, h2, tk2, e2, fun _ _ z => z, t2, trivial⟩

-- CUT
theorem assign_pop (rm : Room A k) (t : St C H0 P B env own X ρ s.heap) {x : Str} {es : List Expr} {kk : Nat} {tp xp ap cp pos : Pos} {d : PyData} {ds : List PyData} {b : List (Str × PyData)} (hl : (ap.endLine == cp.line) = true)
    (hx : look env.scope ρ x = some (.own ds)) (h2 : ds.length ≤ top) (hd : ds.getLast? = some d) (hb : bindD (.Tuple es kk tp) d = some b) (ho : b.all (fun p => own p.1) = true) :
    wpAny (model prog w) A (exec (.Assign [.Tuple es kk tp] (.Call (.Attribute (.Name x xp) ("pop" : Str) ap) [] [] cp) pos) env) (ExPost C H0 P B env own s .next ((ρ.set x (.own ds.dropLast)).sets b)) NoE s := by
  obtain ⟨v, hv, ad, vs, n0, rfl, hX, ha, rr⟩ := t.vars x _ hx
  obtain ⟨_, hdb, _⟩ := look_ok hx
  have hlen := rr.length
  have hd' : ds[ds.length - 1]? = some d := by rw [← List.getLast?_eq_getElem?]; exact hd
  obtain ⟨y, hy, ry⟩ := rr.get hd'
  refine Assign_Tuple0 rfl (wpAny_Call_method_lateS rfl rfl hl (wpAny_Name (load_ok t.fn hx hv ?_) hdb))
  refine ⟨"list", "list.pop", PySem.F.plainAttrs_list, PySem.F.slot_list_pop, PySem.F.type_list_pop, ⟨_, ha, rfl⟩, fun a' e' => by cases e'; exact ⟨_, ha, rfl⟩, PySem.P.pop_list (y := y) ha (by simpa [hlen] using hy) ?_ (by rw [List.size_toArray, hlen]; exact Nat.le_trans h2 top_le)⟩
  obtain ⟨n', hn'⟩ := upd_lst ha (fun xs => xs.eraseIdxIfInBounds (vs.toArray.size - 1))
  have e1 : (vs.toArray.eraseIdxIfInBounds (vs.toArray.size - 1)).toList = vs.dropLast := by
    have hpos : 0 < vs.length := by
      rw [hlen]
      cases ds with
      | nil => simp at hd
      | cons => simp
    have : vs.length - 1 < vs.length := by omega
    simp [Array.eraseIdxIfInBounds, this, List.eraseIdx_length_sub_one]
  rw [e1] at hn'
  have rr' : RepAll (UU P env X) s.heap vs.dropLast ds.dropLast := by
    rw [List.dropLast_eq_take, List.dropLast_eq_take, hlen]
    exact rr.take _
  have hs : Heap.SameBut ad s.heap (s.heap.update ad (Obj.mapSeq fun xs => xs.eraseIdxIfInBounds (vs.toArray.size - 1))) := Heap.SameBut.update ..
  obtain ⟨lv, _⟩ := t.mutX hX hs hn'
  have t1 := t.setOwn hv hX hs hn' rr'
  refine wpAny_mono (bind_ok (s := { s with heap := s.heap.update ad (Obj.mapSeq fun xs => xs.eraseIdxIfInBounds (vs.toArray.size - 1)) }) t1 rm.handled hb ho (lv.rep ry)) (fun _ s' zP => ?_) fun _ _ z => z
  obtain ⟨h2, tk2, e2, _, _, t2⟩ := zP
  exact ⟨B, _, h2, tk2, e2, fun _ _ z => z, t2, trivial⟩

theorem aug_ok (PS : SpecOk prog w mg H0 C Φ k) (T : SortOk prog w srt) (G : Ground0 mg mb H0) (rm : Room A k) (t : St C H0 P B env own X ρ s.heap) {n : Nat} {x : Str} {xp pos : Pos} {e : Expr} {a b : Str} (hx : own x = true) (hl : look env.scope ρ x = some (.val (.str a)))
    (q : ev Φ srt n .value env.scope ρ e = some (.str b)) (hlen : a.length + b.length ≤ top) :
    wpAny (model prog w) A (exec (.AugAssign (.Name x xp) .Add e pos) env) (ExPost C H0 P B env own s .next (ρ.set x (.val (.str (a ++ b))))) NoE s := by
  obtain ⟨v, hv, rv⟩ := t.vars x _ hl
  obtain ⟨ta, rfl⟩ := Rep.strInv rv
  refine wpAny_AugAssign_Name (load_ok t.fn hl hv ?_)
  refine thenV ((ev_ok (C := C) PS T G n _ _ _ _ _ _ _ _ rfl t.cx rm).1 q) fun v' h₁ tk₁ st₁ rv' => ?_
  obtain ⟨tb, rfl⟩ := rv'.strInv
  refine PyProof.Rows.iadd_str (fun t' tk => ?_) (Nat.le_trans hlen top_le)
  refine wpAny_mono (store_val (s := { s with heap := h₁, toks := tk }) (t.stays st₁) hx (.str _ _)) (fun _ s' zP => ?_) fun _ _ z => z
  obtain ⟨h2, tk2, e2, _, _, t2, _⟩ := zP
  exact ⟨B, _, h2, tk2, e2, fun _ _ z => z, t2, trivial⟩
end
end Mine

namespace Mine
open PySem PySem.Calls PySem.Spec PyProof.Rows PySem.W PySem.SeqAt

section
variable {prog : Program} {w : World} {A : Around} {s : Shared} {env : Env} {C : Cls} {H0 : Heap} {P P' U : Addr → Prop} {B B' : Addr → Option Obj} {own : Str → Bool} {X X' : List (Str × Addr)} {ρ ρ' : Rho} {h h' : Heap} {k : Nat} {mg mb : Str → Option Value}
variable {Φ : Tab} {srt : PyData → Option PyData}

noncomputable def isHdrE : Option Ent → Bool
  | some (.hdr _) => true
  | _ => false
theorem lookup_freeze (ρ : Rho) (x : Str) : (freeze ρ).lookup x = (ρ.lookup x).map freezeE := by
  unfold freeze
  induction ρ with
  | nil => rfl
  | cons p r ih =>
    obtain ⟨z, e⟩ := p
    rw [List.map_cons, List.lookup_cons, List.lookup_cons]
    cases x == z with
    | true => rfl
    | false => exact ih
theorem look_freeze {sc : Scope} {x : Str} {ent : Ent} (e : look sc (freeze ρ) x = some ent) : ∃ e0, look sc ρ x = some e0 ∧ ent = freezeE e0 := by
  unfold look at e ⊢
  replace e := iteS e
  obtain ⟨c, e⟩ := e
  rw [if_pos c]
  rw [lookup_freeze] at e
  obtain ⟨e0, h0, h1⟩ := Option.map_eq_some_iff.mp e
  exact ⟨e0, h0, h1.symm⟩

/-- owned lists become plain values -/
theorem St.freeze (t : St C H0 P B env own X ρ h) : ∃ X', St C H0 P B env own X' (freeze ρ) h := by
  let f : Str × Addr → Bool := fun p => isHdrE (look env.scope ρ p.1)
  have sub : ∀ p, p ∈ X.filter f → p ∈ X := fun p hp => (List.mem_filter.mp hp).1
  have up : ∀ a, UU P env X a → UU P env (X.filter f) a := fun a u => ⟨u.1, u.2.1, fun p hp => u.2.2 p (sub p hp)⟩
  refine ⟨X.filter f, { t with xs := fun p hp => t.xs p (sub p hp), xp := fun p hp => t.xp p (sub p hp), xnd := fun p hp q hq => t.xnd p (sub p hp) q (sub q hq), xfn := fun p hp q hq => t.xfn p (sub p hp) q (sub q hq), vars := fun x ent e => ?_ }⟩
  obtain ⟨e0, h0, rfl⟩ := look_freeze e
  obtain ⟨v, hv, he⟩ := t.vars x e0 h0
  refine ⟨v, hv, ?_⟩
  cases e0 with
  | val d => exact Rep.mono up he
  | own ds =>
    obtain ⟨a, vs, n, rfl, hx, ha, r⟩ := he
    refine Rep.list ⟨_, ha, rfl, n, rfl⟩ (r.mono up) ⟨t.xp _ hx, (t.xs _ hx).2.1, fun p hp q => ?_⟩
    have e1 := t.xnd p (sub p hp) _ hx q
    have e2 := (List.mem_filter.mp hp).2
    simp only [f] at e2
    rw [e1, h0] at e2
    cases e2
  | slf ds => obtain ⟨y9, dx, hs9, tk9, a9, e1, e2, e3, r⟩ := he; exact ⟨y9, dx, hs9, tk9, a9, e1, e2, e3, r.mono up⟩
  | hdr ds =>
    obtain ⟨y, dx, hs, tk, a, vs, n, e1, e2, e3, e4, e5, r⟩ := he
    refine ⟨y, dx, hs, tk, a, vs, n, e1, e2, e3, List.mem_filter.mpr ⟨e4, ?_⟩, e5, r.mono up⟩
    simp only [f]; rw [h0]; rfl

/-- what is to be shown of a block -/
noncomputable def BlockOk (prog : Program) (w : World) (A : Around) (C : Cls) (H0 : Heap) (P : Addr → Prop) (env : Env) (own : Str → Bool) (l : List Stmt) (f : Rho → Option (Fl × Rho)) : Prop :=
  ∀ (ρ : Rho) (fl : Fl) (ρ' : Rho) (B : Addr → Option Obj) (X : List (Str × Addr)) (s : Shared), f ρ = some (fl, ρ') → St C H0 P B env own X ρ s.heap →
    wpAny (model prog w) A (execs l env) (ExPost C H0 P B env own s fl ρ') NoE s

/-- a list made anew, for what may look it up -/
noncomputable def SndF (prog : Program) (w : World) (H0 : Heap) (C : Cls) (k : Nat) (r : Md → Scope → Rho → Expr → Option PyData) : Prop := ∀ (ρ : Rho) (e : Expr) (ds : List PyData) (env : Env) (A : Around) (s : Shared) (U : Addr → Prop), Cx C H0 U env ρ s.heap → Room A k → isFresh e = true →
  r .value env.scope ρ e = some (.list ds) → wpAny (model prog w) A (eval e env) (EvPostF U s ds) NoE s
/-- the statements' hook is sound -/
noncomputable def StmtOk (prog : Program) (w : World) (C : Cls) (H0 : Heap) (k : Nat) (sh : SHook) : Prop := ∀ (r : Md → Scope → Rho → Expr → Option PyData), Snd prog w H0 C k r → SndF prog w H0 C k r →
  ∀ (ρ ρ' : Rho) (st : Stmt) (fl : Fl) (env : Env) (A : Around) (s : Shared) (P : Addr → Prop) (B : Addr → Option Obj) (X : List (Str × Addr)),
  sh r env.scope ρ st = some (fl, ρ') → St C H0 P B env (own1 env.scope) X ρ s.heap → Room A k → wpAny (model prog w) A (exec st env) (ExPost C H0 P B env (own1 env.scope) s fl ρ') NoE s
theorem StmtOk.none : StmtOk prog w C H0 k (fun _ _ _ _ => Option.none) := fun _ _ _ _ _ _ _ _ _ _ _ _ _ q => nomatch q

theorem ret_ok (PS : SpecOk prog w mg H0 C Φ k) (T : SortOk prog w srt) (G : Ground0 mg mb H0) (rm : Room A k) (t : St C H0 P B env own X ρ s.heap) {n : Nat} {e : Expr} {pos : Pos} {d : PyData} (q : ev Φ srt n .value env.scope (freeze ρ) e = some d) :
    wpAny (model prog w) A (exec (.Return (some e) pos) env) (ExPost C H0 P B env own s (.ret d) (freeze ρ)) NoE s := by
  obtain ⟨X', t'⟩ := t.freeze
  refine wpAny_Return_some (thenV ((ev_ok (C := C) PS T G n _ _ _ _ _ _ _ _ rfl t'.cx rm).1 q) fun v h₁ tk₁ st₁ rv => ?_)
  exact ⟨B, X', h₁, tk₁, rfl, fun _ _ z => z, t'.stays st₁, rv⟩

theorem if_ok (PS : SpecOk prog w mg H0 C Φ k) (T : SortOk prog w srt) (G : Ground0 mg mb H0) (rm : Room A k) (t : St C H0 P B env own X ρ s.heap) {n : Nat} {e : Expr} {body orelse : List Stmt} {pos : Pos} {b : Bool} {fl : Fl} {f : List Stmt → Rho → Option (Fl × Rho)} (q : ev Φ srt n .truth env.scope ρ e = some (.bool b))
    (hb : BlockOk prog w A C H0 P env own body (f body)) (ho : BlockOk prog w A C H0 P env own orelse (f orelse)) (qf : (if b then f body ρ else f orelse ρ) = some (fl, ρ')) :
    wpAny (model prog w) A (exec (.If e body orelse pos) env) (ExPost C H0 P B env own s fl ρ') NoE s := by
  refine wpAny_If (thenT ((ev_ok (C := C) PS T G n _ _ _ _ _ _ _ _ rfl t.cx rm).2.2 q) fun b' h₁ tk₁ st₁ e => ?_)
  cases e
  cases b with
  | true => exact wpAny_mono (hb ρ fl ρ' B X { s with heap := h₁, toks := tk₁ } qf (t.stays st₁)) (fun _ _ z => exPost_from (fun _ _ z => z) z) fun _ _ z => z
  | false => exact wpAny_mono (ho ρ fl ρ' B X { s with heap := h₁, toks := tk₁ } qf (t.stays st₁)) (fun _ _ z => exPost_from (fun _ _ z => z) z) fun _ _ z => z

inductive LoopInv (C : Cls) (H0 : Heap) (P : Addr → Prop) (B : Addr → Option Obj) (env : Env) (own : Str → Bool) (s : Shared) (Q : Rho → (Addr → Option Obj) → List (Str × Addr) → Heap → Prop) (s₁ : Shared) : Prop
  | mk (ρ1 : Rho) (B1 : Addr → Option Obj) (X1 : List (Str × Addr)) (h : Heap) (tk : Nat) (e : s₁ = { s with heap := h, toks := tk }) (sub : ∀ a o, B a = some o → B1 a = some o) (t : St C H0 P B1 env own X1 ρ1 h) (q : Q ρ1 B1 X1 h)
inductive ForInv (env : Env) (P : Addr → Prop) (f : Rho → Option (Fl × Rho)) (tg : Expr) (fl : Fl) (ρ' : Rho) (all : List PyData) (I : Addr) (K : Option (List Value)) (Sv : Nat → Heap → Prop) (fp : List Addr) (m : Nat) (ρ1 : Rho) (B1 : Addr → Option Obj) (X1 : List (Str × Addr)) (h : Heap) : Prop
  | mk (i : Nat) (em : m = all.length - i) (hi : i ≤ all.length) (hq : forL env.scope f tg (all.drop i) ρ1 = some (fl, ρ')) (hI : B1 I = none) (sv : Sv i h) (vl : ValsAt K all (UU P env X1) h) (hU : ∀ b ∈ fp, b ≠ I → UU P env X1 b)
-- CUT
theorem while_ok (PS : SpecOk prog w mg H0 C Φ k) (T : SortOk prog w srt) (G : Ground0 mg mb H0) (rm : Room A k) (t : St C H0 P B env own X ρ s.heap) {n m : Nat} {e : Expr} {body : List Stmt} {pos : Pos} {fl : Fl} {f : Rho → Option (Fl × Rho)}
    (hb : BlockOk prog w A C H0 P env own body f) (q : whL (fun ρ => (ev Φ srt n .truth env.scope ρ e).bind truthD) f m ρ = some (fl, ρ')) :
    wpAny (model prog w) A (exec (.While e body [] pos) env) (ExPost C H0 P B env own s fl ρ') NoE s := by
  refine wpAny_While (codeAny_whileLoop (fun j s₁ => LoopInv C H0 P B env own s (fun ρ1 _ _ _ => whL (fun ρ => (ev Φ srt n .truth env.scope ρ e).bind truthD) f j ρ1 = some (fl, ρ')) s₁) ?_ m ⟨ρ, B, X, s.heap, s.toks, rfl, fun _ _ z => z, t, q⟩)
  rintro j s₁ ⟨ρ1, B1, X1, h1, tk1, rfl, sub, t1, hq⟩
  cases j with
  | zero => cases hq
  | succ j =>
    unfold whL at hq
    obtain ⟨tt, htt, hq⟩ := Option.bind_eq_some_iff.mp hq
    obtain ⟨d, hd, htt⟩ := Option.bind_eq_some_iff.mp htt
    refine wpAny_mono ((ev_ok (C := C) PS T G n _ _ _ _ _ _ { s with heap := h1, toks := tk1 } _ rfl t1.cx rm).2.2 hd) (fun b s₂ zP => ?_) fun _ _ z => z.elim
    obtain ⟨h₂, tk₂, e₂, st₂, ed⟩ := zP
    subst e₂ ed
    cases htt
    have t2 := t1.stays st₂
    cases tt with
    | false =>
      simp only [Bool.false_eq_true, if_false] at hq ⊢
      cases hq
      exact wpAny_execs_nil ⟨B1, X1, h₂, tk₂, rfl, sub, t2, trivial⟩
    | true =>
      simp only [if_true] at hq ⊢
      obtain ⟨⟨fl1, ρ2⟩, hf, hq⟩ := Option.bind_eq_some_iff.mp hq
      refine wpAny_mono (hb ρ1 fl1 ρ2 B1 X1 { s with heap := h₂, toks := tk₂ } hf t2) (fun g s₃ zP => ?_) fun _ _ z => z.elim
      obtain ⟨B3, X3, h₃, tk₃, e₃, sub₃, t3, hfl⟩ := zP
      subst e₃
      have sub' : ∀ a o, B a = some o → B3 a = some o := fun a o z => sub₃ a o (sub a o z)
      cases g <;> cases fl1 <;> first | exact hfl.elim | skip
      · exact ⟨j, Nat.lt_succ_self j, ⟨ρ2, B3, X3, h₃, tk₃, rfl, sub', t3, hq⟩⟩
      · cases hq; exact ⟨B3, X3, h₃, tk₃, rfl, sub', t3, trivial⟩
      · exact ⟨j, Nat.lt_succ_self j, ⟨ρ2, B3, X3, h₃, tk₃, rfl, sub', t3, hq⟩⟩
      · cases hq; exact ⟨B3, X3, h₃, tk₃, rfl, sub', t3, hfl⟩
set_option maxHeartbeats 1000000 in
theorem for_ok (PS : SpecOk prog w mg H0 C Φ k) (T : SortOk prog w srt) (G : Ground0 mg mb H0) (rm : Room A k) (t : St C H0 P B env (own1 env.scope) X ρ s.heap) {n : Nat} {tg ie : Expr} {body : List Stmt} {pos : Pos} {fl : Fl} {f : Rho → Option (Fl × Rho)} {all : List PyData}
    (hb : BlockOk prog w A C H0 P env (own1 env.scope) body f) (qi : itemsD (ev Φ srt n) env.scope ρ ie = some all) (q : forL env.scope f tg all ρ = some (fl, ρ')) :
    wpAny (model prog w) A (exec (.For tg ie body [] pos) env) (ExPost C H0 P B env (own1 env.scope) s fl ρ') NoE s := by
  obtain ⟨hf, hw⟩ := itemsD_ok (ev_ok (C := C) PS T G n) G rm t.cx qi
  refine wpAny_For (wpAny_mono hw (fun x s₁ h₁ => wpAny_mono h₁ (fun it s₂ h₂ => ?_) fun _ _ z => z) fun _ _ z => z) hf
  obtain ⟨h0, tk0, I, fp, K, Pv, Sv, rfl, st, rfl, it, s0, vl, hn, hU⟩ := h₂
  have t0 := t.stays st
  have hBI : B I = none := by
    cases z : B I with
    | none => rfl
    | some o => have := t.base I o z; rw [hn] at this; cases this
  have hHI : H0.get? I = none := by
    cases z : H0.get? I with
    | none => rfl
    | some o => have := t.h0 I o z; rw [hBI] at this; cases this
  have hPI : P I := t.fresh I hn
  refine codeAny_forLoop_any (fun m s₁ => LoopInv C H0 P B env (own1 env.scope) s (ForInv env P f tg fl ρ' all I K Sv fp m) s₁) ?_ all.length
    ⟨ρ, B, X, h0, tk0, rfl, fun _ _ z => z, t0, 0, rfl, Nat.zero_le _, q, hBI, s0, vl, hU⟩
  rintro m s₁ ⟨ρ1, B1, X1, h1, tk1, rfl, sub, t1, i, rfl, hi, hq, hbI, sv, vl1, hU1⟩
  obtain ⟨o, fs, T', ho, hd, _⟩ := it.flds _ _ sv
  by_cases hlt : i < all.length
  · refine it.W.item i { s with heap := h1, toks := tk1 } _ _ hlt sv fun v h₂ tk₂ pv sv₂ kp => ?_
    rw [List.drop_eq_getElem_cons hlt] at hq
    unfold forL at hq
    obtain ⟨b, hbd, hq⟩ := Option.bind_eq_some_iff.mp hq
    split at hq
    rotate_left
    · cases hq
    rename_i hown
    obtain ⟨⟨fl1, ρ2⟩, hf1, hq⟩ := Option.bind_eq_some_iff.mp hq
    obtain ⟨lv, t2⟩ := t1.ext ho hd hbI (fun b o hb e => kp b o (by simpa using hb) e) hPI
    have vl2 := vl1.liv lv
    obtain ⟨d', hd', rv⟩ := it.val hlt pv vl2
    rw [List.getElem?_eq_getElem hlt] at hd'; cases hd'
    obtain ⟨o₂, fs₂, T₂, ho₂, hd₂, hc₂, hT₂⟩ := it.flds _ _ sv₂
    refine lot_ok (s := { s with heap := h₂, toks := tk₂ }) ho₂ hd₂ hc₂ hT₂ ?_
    obtain ⟨sub2, ti2⟩ := t2.inflate
    refine wpAny_mono (bind_ok (s := { s with heap := h₂, toks := tk₂ }) ti2 rm.handled hbd hown rv) (fun _ s₃ zP => ?_) fun _ _ z => z.elim
    obtain ⟨h₃, tk₃, e₃, lv₃, kl₃, t3⟩ := zP
    subst e₃
    have sv₃ : Sv (i + 1) h₃ := it.keep t2 hU1 sv₂ fun a o e => t3.base a o e
    have vl3 : ValsAt K all (UU P env (dropXs X1 b)) h₃ := by
      have := vl2.liv lv₃
      cases K with
      | some vs => exact RepAll.mono (fun _ u => uu_drops b u) this
      | none => exact this
    have hU3 : ∀ c ∈ fp, c ≠ I → UU P env (dropXs X1 b) c := fun c hc hcI => uu_drops b (hU1 c hc hcI)
    obtain ⟨sub3, ti3⟩ := t3.inflate
    refine wpAny_mono (hb (ρ1.sets b) fl1 ρ2 _ _ { s with heap := h₃, toks := tk₃ } hf1 ti3) (fun g s₄ zP => ?_) fun _ _ z => z.elim
    obtain ⟨B4, X4, h₄, tk₄, e₄, sub₄, t4, hfl⟩ := zP
    subst e₄
    have subAll : ∀ a o, B1 a = some o → B4 a = some o := fun a o z => sub₄ a o (sub3 a o (sub2 a o z))
    have again : forL env.scope f tg (all.drop (i + 1)) ρ2 = some (fl, ρ') → ∃ m, m < all.length - i ∧ LoopInv C H0 P B env (own1 env.scope) s (ForInv env P f tg fl ρ' all I K Sv fp m) { s with heap := h₄, toks := tk₄ } := by
      intro hq
      have sv₄ : Sv (i + 1) h₄ := it.keep t3 hU3 sv₃ fun a o e => t4.base a o (sub₄ a o e)
      obtain ⟨o₄, fs₄, T₄, ho₄, hd₄, _⟩ := it.flds _ _ sv₄
      refine ⟨all.length - (i + 1), by omega, ρ2, hideB B4 I, X4, h₄, tk₄, rfl, fun a o z => ?_, t4.hide ho₄ hd₄ hHI, i + 1, rfl, hlt, hq, by unfold hideB; rw [if_pos rfl], sv₄, vl3.frz t3 t4 sub₄, fun c hc hcI => ?_⟩
      · unfold hideB
        rw [if_neg fun y => by rw [y, hBI] at z; cases z]
        exact subAll a o (sub a o z)
      · obtain ⟨oc, vs, nn, hoc, hdc⟩ := it.seqs _ _ sv₃ c hc hcI
        have u := hU3 c hc hcI
        have := sub₄ c oc (frz_of hoc (t3.seqNotMut hoc (.inl ⟨_, _, hdc⟩) (.inl u)))
        exact ⟨u.1, u.2.1, fun p hp y => by rw [← y, (t4.xs p hp).1] at this; cases this⟩
    have sub' : ∀ a o, B a = some o → B4 a = some o := fun a o z => subAll a o (sub a o z)
    cases g <;> cases fl1 <;> first | exact hfl.elim | skip
    · exact again hq
    · cases hq; exact ⟨B4, X4, h₄, tk₄, rfl, sub', t4, trivial⟩
    · exact again hq
    · cases hq; exact ⟨B4, X4, h₄, tk₄, rfl, sub', t4, hfl⟩
  · have : i = all.length := by omega
    subst this
    refine it.W.done { s with heap := h1, toks := tk1 } _ _ sv fun h₂ tk₂ kp => ?_
    rw [List.drop_length] at hq
    cases hq
    obtain ⟨lv, t2⟩ := t1.ext ho hd hbI (fun b o hb e => kp b o (by simpa using hb) e) hPI
    exact wpAny_execs_nil ⟨B1, X1, h₂, tk₂, rfl, sub, t2, trivial⟩
end
end Mine

namespace Mine
open PySem PySem.Calls PySem.Spec PyProof.Rows PySem.W PySem.SeqAt

section
variable {prog : Program} {w : World} {A : Around} {s : Shared} {env : Env} {C : Cls} {H0 : Heap} {P P' U : Addr → Prop} {B B' : Addr → Option Obj} {own : Str → Bool} {X X' : List (Str × Addr)} {ρ ρ' : Rho} {h h' : Heap} {k : Nat} {mg mb : Str → Option Value}
variable {Φ : Tab} {srt : PyData → Option PyData} {mu : List Str} {N : Nat} {sh : SHook}

/-- a statement does what the evaluator says -/
noncomputable def Runs (prog : Program) (w : World) (A : Around) (C : Cls) (H0 : Heap) (P : Addr → Prop) (B : Addr → Option Obj) (env : Env) (s : Shared) (fl : Fl) (ρ' : Rho) (st : Stmt) : Prop :=
  wpAny (model prog w) A (exec st env) (ExPost C H0 P B env (own1 env.scope) s fl ρ') NoE s
theorem exTup_ok (PS : SpecOk prog w mg H0 C Φ k) (T : SortOk prog w srt) (G : Ground0 mg mb H0) (rm : Room A k) (t : St C H0 P B env (own1 env.scope) X ρ s.heap) {es : List Expr} {kk : Nat} {p pos : Pos} {e : Expr} {fl : Fl}
    (q : exTup (ev Φ srt N) env.scope ρ (.Tuple es kk p) e = some (fl, ρ')) : Runs prog w A C H0 P B env s fl ρ' (.Assign [.Tuple es kk p] e pos) := by
  unfold exTup at q
  replace q := iteN q
  have ht := q.1
  obtain ⟨d, hd, q⟩ := Option.bind_eq_some_iff.mp q.2
  obtain ⟨b, hb, q⟩ := Option.bind_eq_some_iff.mp q
  have ho := (iteS q).1
  cases (iteS q).2
  exact assign_tup PS T G rm t (by simpa using ht) hd hb ho
-- CUT
theorem exPop_ok (rm : Room A k) (t : St C H0 P B env (own1 env.scope) X ρ s.heap) {es : List Expr} {kk : Nat} {p pos ap cp : Pos} {o : Expr} {m : Str} {fl : Fl}
    (q : exPop env.scope ρ (.Tuple es kk p) (o, m, ap, [], [], cp) = some (fl, ρ')) : Runs prog w A C H0 P B env s fl ρ' (.Assign [.Tuple es kk p] (.Call (.Attribute o m ap) [] [] cp) pos) := by
  unfold exPop at q
  replace q := iteS q
  have hm := q.1
  rw [Bool.and_eq_true, beq_iff_eq] at hm
  obtain ⟨x, hx, q0⟩ := Option.bind_eq_some_iff.mp q.2
  obtain ⟨xp, hxp⟩ := nameOfE_eq hx
  have hm1 := hm.1
  dsimp only at hxp hm1
  subst hxp hm1
  obtain ⟨ds, hds, q1⟩ := Option.bind_eq_some_iff.mp q0
  replace q1 := iteS q1
  obtain ⟨d, hd, q2⟩ := Option.bind_eq_some_iff.mp q1.2
  obtain ⟨b, hb, q3⟩ := Option.bind_eq_some_iff.mp q2
  have ho := (iteS q3).1
  cases (iteS q3).2
  exact assign_pop rm t hm.2 (ownOf?_eq hds) q1.1 hd hb ho
theorem exAsg_ok (PS : SpecOk prog w mg H0 C Φ k) (T : SortOk prog w srt) (G : Ground0 mg mb H0) (rm : Room A k) (t : St C H0 P B env (own1 env.scope) X ρ s.heap) {tg e : Expr} {pos : Pos} {fl : Fl}
    (q : exAsg (ev Φ srt N) mu env.scope ρ tg e = some (fl, ρ')) : Runs prog w A C H0 P B env s fl ρ' (.Assign [tg] e pos) := by
  cases tg with
  | Name x p =>
    replace q := iteS (show (if own1 env.scope x then _ else none) = some (fl, ρ') from q)
    have hx := q.1
    by_cases c : mu.contains x = true
    · have q2 := q.2
      rw [if_pos c] at q2
      have hf := (iteS q2).1
      obtain ⟨d, hd, q3⟩ := Option.bind_eq_some_iff.mp (iteS q2).2
      cases d with
      | list ds =>
        cases q3
        exact assign_own PS T G rm t hx hf hd
      | _ => exact noSome q3
    · have q2 := q.2
      rw [if_neg c] at q2
      obtain ⟨d, hd, q3⟩ := Option.bind_eq_some_iff.mp q2
      cases q3
      exact assign_val PS T G rm t hx hd
-- CUT
  | Tuple es kk p =>
    have q0 : (match callOf e with
      | some c => if noArgs c then exPop env.scope ρ (.Tuple es kk p) c else exTup (ev Φ srt N) env.scope ρ (.Tuple es kk p) e
      | none => exTup (ev Φ srt N) env.scope ρ (.Tuple es kk p) e) = some (fl, ρ') := q
    cases hc : callOf e with
    | none => rw [hc] at q0; exact exTup_ok PS T G rm t q0
    | some c =>
      rw [hc] at q0
      dsimp only at q0
      by_cases hn : noArgs c = true
      · rw [if_pos hn] at q0
        obtain ⟨o, m, ap, args, kws, cp⟩ := c
        have he := callOf_eq hc
        unfold noArgs at hn
        simp only [Bool.and_eq_true] at hn
        have h1 := List.isEmpty_iff.mp hn.1.1
        have h2 := List.isEmpty_iff.mp hn.1.2
        subst he h1 h2
        exact exPop_ok rm t q0
      · rw [if_neg hn] at q0
        exact exTup_ok PS T G rm t q0
-- CUT2
  | Subscript o i p =>
    replace q := iteN (show (if isComp e then none else _) = some (fl, ρ') from q)
    have hc := q.1
    obtain ⟨x, hx, q2⟩ := Option.bind_eq_some_iff.mp q.2
    obtain ⟨xp, hxp⟩ := nameOfE_eq hx
    subst hxp
    obtain ⟨ds, hds, q3⟩ := Option.bind_eq_some_iff.mp q2
    obtain ⟨d, hd, q4⟩ := Option.bind_eq_some_iff.mp q3
    obtain ⟨kd, hk, q5⟩ := Option.bind_eq_some_iff.mp q4
    cases kd with
    | int j =>
      have hj := (iteS q5).1
      cases (iteS q5).2
      simp only [Bool.and_eq_true, decide_eq_true_eq] at hj
      exact setItem_ok PS T G rm t (by simpa using hc) (ownOf?_eq hds) hd hk hj.1.1 hj.1.2 hj.2
    | _ => exact noSome q5
-- /CUT2
  | _ => exact noSome q
-- CUT
theorem exAug_ok (PS : SpecOk prog w mg H0 C Φ k) (T : SortOk prog w srt) (G : Ground0 mg mb H0) (rm : Room A k) (t : St C H0 P B env (own1 env.scope) X ρ s.heap) {tg e : Expr} {op : Operator} {pos : Pos} {fl : Fl}
    (q : exAug (ev Φ srt N) mu env.scope ρ tg op e = some (fl, ρ')) : Runs prog w A C H0 P B env s fl ρ' (.AugAssign tg op e pos) := by
  cases op with
  | Add =>
    obtain ⟨x, hx, q2⟩ := Option.bind_eq_some_iff.mp q
    obtain ⟨xp, hxp⟩ := nameOfE_eq hx
    subst hxp
    have ho := (iteS q2).1
    have q3 := (iteS q2).2
    rw [Bool.and_eq_true] at ho
    cases hl : look env.scope ρ x with
    | none => rw [hl] at q3; exact noSome q3
    | some en =>
      rw [hl] at q3
      cases en with
      | val a =>
        cases a with
        | str a =>
          obtain ⟨d, hd, q4⟩ := Option.bind_eq_some_iff.mp q3
          cases d with
          | str b =>
            have hlen := (iteS q4).1
            cases (iteS q4).2
            exact aug_ok PS T G rm t ho.1 hl hd hlen
          | _ => exact noSome q4
        | _ => exact noSome q3
      | _ => exact noSome q3
  | _ => exact noSome q
theorem exExpr_ok (PS : SpecOk prog w mg H0 C Φ k) (T : SortOk prog w srt) (G : Ground0 mg mb H0) (rm : Room A k) (t : St C H0 P B env (own1 env.scope) X ρ s.heap) {e : Expr} {pos : Pos} {fl : Fl}
    (q : exExpr (ev Φ srt N) env.scope ρ e = some (fl, ρ')) : Runs prog w A C H0 P B env s fl ρ' (.Expr e pos) := by
  unfold exExpr at q
  obtain ⟨⟨o, m, ap, args, kws, cp⟩, hc, q⟩ := Option.bind_eq_some_iff.mp q
  have he := callOf_eq hc
  replace q := iteS q
  have hl := q.1
  rw [Bool.and_eq_true] at hl
  have h1 := List.isEmpty_iff.mp hl.1
  obtain ⟨a, ha, q2⟩ := Option.bind_eq_some_iff.mp q.2
  have h2 := arg1_eq ha
  dsimp only at h1 h2
  subst he h1 h2
  replace q2 := iteN q2
  have hs := q2.1
  obtain ⟨x, hx, q3⟩ := Option.bind_eq_some_iff.mp q2.2
  obtain ⟨xp, hxp⟩ := nameOfE_eq hx
  dsimp only at hxp
  subst hxp
  obtain ⟨ds, hds, q4⟩ := Option.bind_eq_some_iff.mp q3
  obtain ⟨d, hd, q5⟩ := Option.bind_eq_some_iff.mp q4
  obtain ⟨ds', hds', q6⟩ := Option.bind_eq_some_iff.mp q5
  cases q6
  exact listOp_ok PS T G rm t hl.2 (by simpa using hs) (ownOf?_eq hds) hd hds'

theorem ex1_ok (PS : SpecOk prog w mg H0 C Φ k) (T : SortOk prog w srt) (G : Ground0 mg mb H0) (rm : Room A k) (t : St C H0 P B env (own1 env.scope) X ρ s.heap) {rs : List Stmt → Rho → Option (Fl × Rho)} (hrs : ∀ l, BlockOk prog w A C H0 P env (own1 env.scope) l (rs l)) {st : Stmt} {fl : Fl}
    (q : ex1 (ev Φ srt N) mu env.scope rs ρ st = some (fl, ρ')) : Runs prog w A C H0 P B env s fl ρ' st := by
  cases st with
  | Assign ts e p =>
    rcases ts with _ | ⟨tg, _ | ⟨_, _⟩⟩
    · exact noSome q
    · exact exAsg_ok PS T G rm t q
    · exact noSome q
-- CUT
  | AugAssign tg op e p => exact exAug_ok PS T G rm t q
  | Expr e p => exact exExpr_ok PS T G rm t q
  | If tst body orelse p =>
    obtain ⟨d, hd, q⟩ := Option.bind_eq_some_iff.mp q
    cases d with
    | bool b =>
      refine if_ok PS T G rm t (f := rs) hd (hrs _) (hrs _) ?_
      cases b <;> exact q
    | _ => exact noSome q
  | For tg it body orelse p =>
    replace q := iteS (show (if orelse.isEmpty then _ else none) = some (fl, ρ') from q)
    have ho := List.isEmpty_iff.mp q.1
    obtain ⟨all, hi, q2⟩ := Option.bind_eq_some_iff.mp q.2
    subst ho
    exact for_ok PS T G rm t (hrs _) hi q2
-- CUT
  | While tst body orelse p =>
    replace q := iteS (show (if orelse.isEmpty then _ else none) = some (fl, ρ') from q)
    have ho := List.isEmpty_iff.mp q.1
    have q2 := q.2
    subst ho
    exact while_ok PS T G rm t (hrs _) q2
  | Return v p =>
    obtain ⟨e, he, q2⟩ := Option.bind_eq_some_iff.mp q
    subst he
    obtain ⟨d, hd, q3⟩ := Option.bind_eq_some_iff.mp q2
    cases q3
    exact ret_ok PS T G rm t hd
  | _ => exact noSome q

theorem exL_ok (PS : SpecOk prog w mg H0 C Φ k) (T : SortOk prog w srt) (G : Ground0 mg mb H0) (rm : Room A k) (SH : StmtOk prog w C H0 k sh) {rs : List Stmt → Rho → Option (Fl × Rho)} (hrs : ∀ l, BlockOk prog w A C H0 P env (own1 env.scope) l (rs l)) :
    ∀ l, BlockOk prog w A C H0 P env (own1 env.scope) l (exL (ev Φ srt N) mu env.scope sh rs l)
  | [] => fun ρ fl ρ' B X s q t => by
    cases q
    exact wpAny_execs_nil ⟨B, X, s.heap, s.toks, rfl, fun _ _ z => z, t, trivial⟩
  | st :: rest => fun ρ fl ρ' B X s q t => by
    unfold exL at q
    obtain ⟨⟨fl1, ρ1⟩, h1, q⟩ := Option.bind_eq_some_iff.mp q
    have h1' : wpAny (model prog w) A (exec st env) (ExPost C H0 P B env (own1 env.scope) s fl1 ρ1) NoE s := by
      cases z : sh (ev Φ srt N) env.scope ρ st with
      | none => rw [z] at h1; exact ex1_ok PS T G rm t hrs h1
      | some q' => rw [z] at h1; cases h1; exact SH _ (ev_ok PS T G N) (fun _ _ _ _ _ _ _ c rm hf q => evFresh_ok PS T G c rm q hf) ρ ρ1 st fl1 env A s P B X z t rm
    refine wpAny_execs_cons (wpAny_mono h1' (fun g s' x => ?_) fun _ _ z => z)
    have x' := x
    obtain ⟨B1, X1, h₁, tk₁, e₁, sub, t1, hfl⟩ := x
    subst e₁
    cases g <;> cases fl1 <;> first | exact hfl.elim | skip
    · exact wpAny_mono (exL_ok PS T G rm SH hrs rest ρ1 fl ρ' B1 X1 { s with heap := h₁, toks := tk₁ } q t1) (fun _ _ z => exPost_from sub z) fun _ _ z => z
    · cases q; exact x'
    · cases q; exact x'
    · cases q; exact x'

theorem exs_ok (PS : SpecOk prog w mg H0 C Φ k) (T : SortOk prog w srt) (G : Ground0 mg mb H0) (rm : Room A k) (SH : StmtOk prog w C H0 k sh) : ∀ n l, BlockOk prog w A C H0 P env (own1 env.scope) l (exs (ev Φ srt N) mu env.scope sh n l)
  | 0, _ => fun _ _ _ _ _ _ q _ => nomatch q
  | n + 1, l => exL_ok PS T G rm SH (exs_ok PS T G rm SH n) l
end
end Mine

namespace Mine
open PySem PySem.Calls PySem.Spec PyProof.Rows PySem.W PySem.SeqAt

/-- one function's contract at one row of arguments -/
noncomputable def FnOk (prog : Program) (w : World) (mg : Str → Option Value) (H0 : Heap) (k : Nat) (f : Str) (args : List PyData) (d : PyData) : Prop :=
  ∃ a o fd, mg f = some (.ref a) ∧ H0.get? a = some o ∧ o.data = .func fd ∧
  ∀ (A : Around) (s : Shared) (vs : List Value) (as : List Addr), Room A k → Stays H0 s.heap → ReadsAll s.heap vs args as →
    wpAny (model prog w) A (call (.ref a) vs) (fun r s' => ∃ h' tk bs, s' = { s with heap := h', toks := tk } ∧ Stays s.heap h' ∧ Reads h' r d bs ∧ ∀ b ∈ bs, b ∈ as ∨ s.heap.get? b = none) NoE s

/-- a function of the text, found at the top -/
noncomputable def DefAt (mg : Str → Option Value) (H0 : Heap) (f : Str) (ps : Arguments) (body : List Stmt) (sc : Scope) : Prop :=
  ∃ a o pm code doc, mg f = some (.ref a) ∧ H0.get? a = some o ∧ o.data = .func (docDef f ps body sc pm code doc) ∧ H0.CodeRec code f

noncomputable def rho0 (xs : List Str) (args : List PyData) : Rho := (xs.zip args).map fun p => (p.1, .val p.2)
noncomputable def noFree (sc : Scope) : Bool := sc.names.all fun p => !(p.2 == .free)
noncomputable def plainSc (sc : Scope) : Bool := (sc.kind == .function) && !sc.isCoroutine && !sc.isGenerator && noFree sc
noncomputable def distinct : List Str → Bool
  | [] => true
  | x :: r => !r.contains x && distinct r

noncomputable def runB (f : Rho → Option (Fl × Rho)) (xs : List Str) (args : List PyData) : Option PyData :=
  if args.length = xs.length then (match f (rho0 xs args) with
    | some (.ret d, _) => some d
    | some (.next, _) => some .none
    | _ => none) else none
noncomputable def runF (r : Md → Scope → Rho → Expr → Option PyData) (sh : SHook) (mu : List Str) (n : Nat) (xs : List Str) (body : List Stmt) (sc : Scope) (args : List PyData) : Option PyData :=
  if args.length = xs.length then (match exs r mu sc sh n body (rho0 xs args) with
    | some (.ret d, _) => some d
    | some (.next, _) => some .none
    | _ => none) else none

section
variable {prog : Program} {w : World} {A : Around} {s : Shared} {env : Env} {C : Cls} {H0 : Heap} {k : Nat} {mg mb : Str → Option Value}
variable {Φ : Tab} {srt : PyData → Option PyData} {mu : List Str} {N : Nat} {sh : SHook}

theorem FnOk.mono {k' : Nat} {f : Str} {args : List PyData} {d : PyData} (x : FnOk prog w mg H0 k f args d) (h : k ≤ k') : FnOk prog w mg H0 k' f args d := by
  obtain ⟨a, o, fd, e1, e2, e3, g⟩ := x
  exact ⟨a, o, fd, e1, e2, e3, fun A s vs as rm => g A s vs as ⟨rm.handled, by have := rm.depth; omega, by have := rm.units; omega⟩⟩

theorem cells_some {x : Str} : ∀ (names : List (Str × NameKind)) (n : Nat) (acc : List (Str × Addr)), (acc.lookup x).isSome = true ∨ names.lookup x = some .cell → ((cellsFrom n names acc).lookup x).isSome = true
  | [], _, _, h => h.elim id fun z => by cases z
  | (y, kd) :: r, n, acc, h => by
    unfold cellsFrom
    split
    · rename_i hk
      refine cells_some r _ _ ?_
      rw [List.lookup_cons]
      cases hxy : x == y with
      | true => exact .inl rfl
      | false => rw [List.lookup_cons, hxy] at h; exact h
    · rename_i hk
      refine cells_some r _ _ (h.imp id fun z => ?_)
      rw [List.lookup_cons] at z
      cases hxy : x == y with
      | true => rw [hxy] at z; cases z; exact absurd rfl hk
      | false => rw [hxy] at z; exact z

theorem bindL_other {kf : Str → Option NameKind} {x : Str} : ∀ (b : List (Str × Value)) (m : Str → Option Value), (∀ p ∈ b, p.1 ≠ x) → bindL kf b m x = m x
  | [], _, _ => rfl
  | (y, v) :: r, m, h => by
    unfold bindL
    rw [bindL_other r _ fun p hp => h p (List.mem_cons_of_mem _ hp)]
    have : y ≠ x := h _ List.mem_cons_self
    split
    · simp only [if_neg (Ne.symm this)]
    · rfl
theorem bindC_other {kf : Str → Option NameKind} {x : Str} : ∀ (b : List (Str × Value)) (m : Str → Option Value), (∀ p ∈ b, p.1 ≠ x) → bindC kf b m x = m x
  | [], _, _ => rfl
  | (y, v) :: r, m, h => by
    unfold bindC
    rw [bindC_other r _ fun p hp => h p (List.mem_cons_of_mem _ hp)]
    have : y ≠ x := h _ List.mem_cons_self
    split
    · rfl
    · simp only [if_neg (Ne.symm this)]

theorem zip_names {xs : List Str} {vs : List Value} {x : Str} (hx : x ∉ xs) : ∀ p ∈ xs.zip vs, p.1 ≠ x := fun _ hp q => hx (q ▸ (List.of_mem_zip hp).1)
/-- the bound names hold their arguments -/
theorem bound {U : Addr → Prop} {h : Heap} {kf : Str → Option NameKind} {x : Str} {ent : Ent} : ∀ (xs : List Str) (vs : List Value) (args : List PyData) (m cm : Str → Option Value), distinct xs = true → RepAll U h vs args → (rho0 xs args).lookup x = some ent →
    ∃ v d, ent = .val d ∧ Rep U h v d ∧ x ∈ xs ∧ (kf x = some .local → bindL kf (xs.zip vs) m x = some v) ∧ (kf x ≠ some .local → bindC kf (xs.zip vs) cm x = some v)
  | [], _, _, _, _, _, _, e => by cases e
  | _ :: _, _, [], _, _, _, _, e => by cases e
  | _ :: _, [], _ :: _, _, _, _, r, _ => by have := r.length; simp at this
  | y :: xs, v :: vs, d :: args, m, cm, hd, r, e => by
    unfold distinct at hd
    rw [Bool.and_eq_true, Bool.not_eq_true'] at hd
    have e' : (((y, Ent.val d) :: rho0 xs args) : Rho).lookup x = some ent := e
    rw [List.lookup_cons] at e'
    cases hxy : x == y with
    | true =>
      rw [hxy] at e'
      cases e'
      have hx := beq_iff_eq.mp hxy
      subst hx
      have hn : x ∉ xs := fun q => by have := hd.1; rw [List.contains_iff_mem.mpr q] at this; cases this
      refine ⟨v, d, rfl, r.head, List.mem_cons_self, fun hk => ?_, fun hk => ?_⟩
      · show bindL kf ((x, v) :: xs.zip vs) m x = _
        unfold bindL
        rw [bindL_other _ _ (zip_names hn), if_pos hk]
        simp
      · show bindC kf ((x, v) :: xs.zip vs) cm x = _
        unfold bindC
        rw [bindC_other _ _ (zip_names hn), if_neg hk]
        simp
    | false =>
      rw [hxy] at e'
      obtain ⟨v', d', h1, h2, h3, h4, h5⟩ := bound (kf := kf) xs vs args (if kf y = some .local then fun z => if z = y then some v else m z else m) (if kf y = some .local then cm else fun z => if z = y then some v else cm z) hd.2 r.tail e'
      exact ⟨v', d', h1, h2, List.mem_cons_of_mem _ h3, h4, h5⟩

theorem fun_codeB (G : Ground0 mg mb H0) {f : Str} {ps : Arguments} {body : List Stmt} {sc : Scope} (D : DefAt mg H0 f ps body sc) {xs : List Str} {args : List PyData} {d : PyData} {F : Rho → Option (Fl × Rho)} (hB : ∀ (A : Around) (P : Addr → Prop) (env : Env), env.scope = sc → Room A k → BlockOk prog w A C H0 P env (own1 env.scope) body F)
    (hsc : plainSc sc = true) (hxs : distinct xs = true) (hk : xs.all (own1 sc) = true) (hbind : ∀ pm code doc vals, vals.length = xs.length → bindArgs (docDef f ps body sc pm code doc) ⟨vals, []⟩ = pure (xs.zip vals))
    (q : runB F xs args = some d) :
    ∃ a o fd, mg f = some (.ref a) ∧ H0.get? a = some o ∧ o.data = .func fd ∧ ∀ (A : Around) (s : Shared) (vs : List Value) (as : List Addr) (R : Result → Shared → Prop), Room A (k + 1) → Stays H0 s.heap → ReadsAll s.heap vs args as →
      (∀ r h' tk bs, Stays s.heap h' → Reads h' r d bs → (∀ b ∈ bs, b ∈ as ∨ s.heap.get? b = none) → R (.ok (.ret r)) { s with heap := h', toks := tk }) → codeAny (model prog w) A (.call (.ref a) ⟨vs, []⟩) R s := by
  obtain ⟨a, o, pm, code, doc, hm, ho, hd, hc⟩ := D
  refine ⟨a, o, _, hm, ho, hd, fun A s vs as R rm st ra hR => ?_⟩
  unfold plainSc at hsc
  simp only [Bool.and_eq_true, Bool.not_eq_true', beq_iff_eq] at hsc
  obtain ⟨⟨⟨hf, hco⟩, hge⟩, hfree⟩ := hsc
  unfold runB at q
  split at q
  rotate_left
  · cases q
  rename_i hlen
  have hvl : vs.length = args.length := RepAll.length (U := fun _ => True) ⟨as, ra, fun _ _ => trivial⟩
  refine (codeAny_call_cells (by have := rm.depth; omega) (st _ _ ho) hd (G.nolimit.keeps st) (hc.keeps st) rfl (hbind pm code doc vs (by omega)) rfl ?_ (fun s₁ x => ?_) hco hge hf)
  · intro p hp
    have := List.all_eq_true.mp hk p.1 (List.of_mem_zip hp).1
    unfold own1 at this
    show sc.names.lookup p.1 = _ ∨ (sc.names.lookup p.1 = _ ∧ ((cellsFrom _ sc.names []).lookup p.1).isSome = true)
    split at this
    · rename_i h1; exact .inl h1
    · rename_i h1; exact .inr ⟨h1, cells_some _ _ _ (.inr h1)⟩
    · cases this
  · obtain ⟨h1, tk1, e1⟩ := x.toInCall.same
    subst e1
    let env := callEnvC (docDef f ps body sc pm code doc) s.heap.objs.size a
    let P : Addr → Prop := fun b => b ∈ as ∨ s.heap.get? b = none
    have keep : Stays s.heap h1 := x.toInCall.keep
    have r0 : RepAll (UU P env []) s.heap vs args := ⟨as, ra, fun b hb => ⟨.inl hb, fun z => by
      obtain ⟨o', ho'⟩ := repAll_new.readsAll_alloc ra b hb
      have h2 := Heap.lt_size ho'
      have z' : b = s.heap.objs.size := z
      exact Nat.lt_irrefl _ (z' ▸ h2), fun _ hp => nomatch hp⟩⟩
    have t : St C H0 P (fun b => s.heap.get? b) env (own1 env.scope) [] (rho0 xs args) h1 := {
      fn := hf, gl := rfl, bl := rfl, h0 := st, base := keep, fresh := fun b e => .inr (none_of_stays keep e), ns := ⟨_, x.toInCall.ns⟩, bL := new_none _,
      mine := fun y hy => by
        unfold own1 at hy
        split at hy
        · rename_i h1; exact .inl h1
        · rename_i h1
          refine .inr ⟨h1, ?_⟩
          obtain ⟨c, hc⟩ := Option.isSome_iff_exists.mp (cells_some sc.names (s.heap.objs.size + 1) [] (.inr h1))
          refine ⟨c, _, hc, x.cell y c hc, ?_⟩
          have := x.above y c (mem_of_lookup hc)
          cases z : s.heap.get? c with
          | none => rfl
          | some o' =>
            have h2 := Heap.lt_size z
            have h3 : s.heap.objs.size < c := this
            exact absurd (Nat.lt_trans h2 h3) (Nat.lt_irrefl _)
        · cases hy
      apart := fun y z c hy hz _ => name_of_addr x.apart (mem_of_lookup hy) (mem_of_lookup hz)
      cells := fun y hy => by
        rcases hy with hy | hy
        · exact Option.isSome_iff_exists.mp (cells_some sc.names (s.heap.objs.size + 1) [] (.inr hy))
        · have := List.all_eq_true.mp hfree _ (mem_of_lookup hy)
          simp at this
      isCell := fun y c hy => ⟨_, x.cell y c hy⟩
      xs := fun _ hp => nomatch hp
      xp := fun _ hp => nomatch hp
      xnd := fun _ hp => nomatch hp
      xfn := fun _ hp => nomatch hp
      vars := fun y ent e => by
        unfold look at e
        split at e
        rotate_left
        · cases e
        rename_i hv
        obtain ⟨v, d', rfl, rv, hy, hl, hcl⟩ := bound (kf := env.kindOf) (h := s.heap) xs vs args (fun _ => none) (fun _ => none) hxs r0 e
        refine ⟨v, ?_, Rep.stays keep rv⟩
        have := List.all_eq_true.mp hk y hy
        unfold own1 at this
        split at this
        · rename_i h1
          exact .inl ⟨h1, _, x.toInCall.ns, hl h1⟩
        · rename_i h1
          obtain ⟨c, hc⟩ := Option.isSome_iff_exists.mp (cells_some sc.names (s.heap.objs.size + 1) [] (.inr h1))
          refine .inr ⟨.inl h1, c, hc, ?_⟩
          have i := x.cell y c hc
          have h1' : env.kindOf y = some .cell := h1
          rw [hcl (by rw [h1']; intro z; cases z)] at i
          exact i
        · cases this }
    have rm' : Room (A.deeper env) k := ⟨rm.handled, by have := rm.depth; show A.depth + 1 + k < _; omega, by have := rm.units; show A.units + 3 + 200 + 10 * k < _; omega⟩
    have main : ∀ fl ρ', F (rho0 xs args) = some (fl, ρ') → wpAny (model prog w) (A.deeper env) (execs body env) (ExPost C H0 P (fun b => s.heap.get? b) env (own1 env.scope) { s with heap := h1, toks := tk1 } fl ρ') NoE { s with heap := h1, toks := tk1 } := fun fl ρ' e => hB _ P env rfl rm' _ fl ρ' _ [] { s with heap := h1, toks := tk1 } e t
    split at q
    · rename_i d' ρ' he
      cases q
      refine wpAny_mono (main _ _ he) (fun g s' zP => ?_) fun _ _ z => z.elim
      obtain ⟨B2, X2, h2, tk2, e2, sub, t2, fl⟩ := zP
      subst e2
      cases g <;> try exact fl.elim
      obtain ⟨bs, rb, ub⟩ := fl
      exact hR _ h2 tk2 bs (fun b o z => t2.base b o (sub b o z)) rb fun b hb => (ub b hb).1
    · rename_i ρ' he
      cases q
      refine wpAny_mono (main _ _ he) (fun g s' zP => ?_) fun _ _ z => z.elim
      obtain ⟨B2, X2, h2, tk2, e2, sub, t2, fl⟩ := zP
      subst e2
      cases g <;> try exact fl.elim
      exact hR _ h2 tk2 [] (fun b o z => t2.base b o (sub b o z)) .none fun b hb => nomatch hb
    · cases q

theorem fun_okB (G : Ground0 mg mb H0) {f : Str} {ps : Arguments} {body : List Stmt} {sc : Scope} (D : DefAt mg H0 f ps body sc) {xs : List Str} {args : List PyData} {d : PyData} {F : Rho → Option (Fl × Rho)} (hB : ∀ (A : Around) (P : Addr → Prop) (env : Env), env.scope = sc → Room A k → BlockOk prog w A C H0 P env (own1 env.scope) body F)
    (hsc : plainSc sc = true) (hxs : distinct xs = true) (hk : xs.all (own1 sc) = true) (hbind : ∀ pm code doc vals, vals.length = xs.length → bindArgs (docDef f ps body sc pm code doc) ⟨vals, []⟩ = pure (xs.zip vals))
    (q : runB F xs args = some d) : FnOk prog w mg H0 (k + 1) f args d := by
  obtain ⟨a, o, fd, e1, e2, e3, g⟩ := fun_codeB G D hB hsc hxs hk hbind q
  exact ⟨a, o, fd, e1, e2, e3, fun A s vs as rm st ra => wpAny_call (g A s vs as _ rm st ra fun r h' tk bs st' rd hb => ⟨h', tk, bs, rfl, st', rd, hb⟩)⟩
theorem exs_blk (PS : SpecOk prog w mg H0 C Φ k) (T : SortOk prog w srt) (G : Ground0 mg mb H0) (SH : StmtOk prog w C H0 k sh) {body : List Stmt} {sc : Scope} {n : Nat} (A : Around) (P : Addr → Prop) (env : Env) (e : env.scope = sc) (rm : Room A k) :
    BlockOk prog w A C H0 P env (own1 env.scope) body (exs (ev Φ srt N) mu sc sh n body) := by
  subst e
  exact exs_ok PS T G rm SH n body
theorem fun_code (PS : SpecOk prog w mg H0 C Φ k) (T : SortOk prog w srt) (G : Ground0 mg mb H0) (SH : StmtOk prog w C H0 k sh) {f : Str} {ps : Arguments} {body : List Stmt} {sc : Scope} (D : DefAt mg H0 f ps body sc) {xs : List Str} {args : List PyData} {d : PyData} {n : Nat}
    (hsc : plainSc sc = true) (hxs : distinct xs = true) (hk : xs.all (own1 sc) = true) (hbind : ∀ pm code doc vals, vals.length = xs.length → bindArgs (docDef f ps body sc pm code doc) ⟨vals, []⟩ = pure (xs.zip vals))
    (q : runF (ev Φ srt N) sh mu n xs body sc args = some d) :
    ∃ a o fd, mg f = some (.ref a) ∧ H0.get? a = some o ∧ o.data = .func fd ∧ ∀ (A : Around) (s : Shared) (vs : List Value) (as : List Addr) (R : Result → Shared → Prop), Room A (k + 1) → Stays H0 s.heap → ReadsAll s.heap vs args as →
      (∀ r h' tk bs, Stays s.heap h' → Reads h' r d bs → (∀ b ∈ bs, b ∈ as ∨ s.heap.get? b = none) → R (.ok (.ret r)) { s with heap := h', toks := tk }) → codeAny (model prog w) A (.call (.ref a) ⟨vs, []⟩) R s :=
  fun_codeB G D (exs_blk PS T G SH) hsc hxs hk hbind q

theorem fun_ok (PS : SpecOk prog w mg H0 C Φ k) (T : SortOk prog w srt) (G : Ground0 mg mb H0) (SH : StmtOk prog w C H0 k sh) {f : Str} {ps : Arguments} {body : List Stmt} {sc : Scope} (D : DefAt mg H0 f ps body sc) {xs : List Str} {args : List PyData} {d : PyData} {n : Nat}
    (hsc : plainSc sc = true) (hxs : distinct xs = true) (hk : xs.all (own1 sc) = true) (hbind : ∀ pm code doc vals, vals.length = xs.length → bindArgs (docDef f ps body sc pm code doc) ⟨vals, []⟩ = pure (xs.zip vals))
    (q : runF (ev Φ srt N) sh mu n xs body sc args = some d) : FnOk prog w mg H0 (k + 1) f args d := by
  obtain ⟨a, o, fd, e1, e2, e3, g⟩ := fun_code PS T G SH D hsc hxs hk hbind q
  exact ⟨a, o, fd, e1, e2, e3, fun A s vs as rm st ra => wpAny_call (g A s vs as _ rm st ra fun r h' tk bs st' rd hb => ⟨h', tk, bs, rfl, st', rd, hb⟩)⟩
end
end Mine

namespace Mine
open PySem PySem.Calls PySem.Spec PyProof.Rows PySem.W PySem.SeqAt

/-! the patterns' search: nothing found in the short texts that occur -/
theorem slot_re_search : Slot "re.Pattern" "search" "re.Pattern.search" :=
  .of (owner := "re.Pattern") (n := "search") (by rw [typeLookup_type, builtinLookup_eq_fast]; kernel_rfl) (by decide +kernel) (by decide +kernel) (by decide +kernel)
    (by first | exact .inl (by decide +kernel) | exact .inr (by decide +kernel)) (by rw [isSubtype_type]; kernel_rfl)
theorem entry_re_search : entryFor table "re.Pattern.search" = some Builtin.«re.Pattern.search» := entryFor_of_fast (by kernel_rfl)
theorem type_re_search : typeOf (.builtin "re.Pattern.search") = pure (.type "method_descriptor") := by show builtinType _ = _; rw [builtinType_eq_fast]; kernel_rfl
theorem plainAttrs_re : PlainAttrs "re.Pattern" :=
  ⟨⟨"object.__getattribute__", by rw [typeLookup_type, builtinLookup_eq_fast]; kernel_rfl, by decide +kernel⟩, by rw [typeLookup_type, builtinLookup_eq_fast]; kernel_rfl⟩
theorem args_re_search (a b : Value) : argsOk "re.Pattern.search" ⟨[a, b], []⟩ := by unfold argsOk; kernel_rfl

noncomputable def okList : List Str := ["", "a", "A", "b", "B", "c", "C", "x", "X", "y", "Y", "z", "Z", "p", "q", "0", "1", "2", "3"]
noncomputable def okS (x : Str) : Bool := okList.contains x

noncomputable def goes : Nat → Sre.M → Option Sre.M
  | 0, _ => none
  | j + 1, m => if (m.runFor Builtin.Re.reTurnSteps).outcome.isSome then some (m.runFor Builtin.Re.reTurnSteps) else goes j (m.runFor Builtin.Re.reTurnSteps)
noncomputable def failsM (m : Sre.M) : Bool := match m.outcome with | some .failed => true | _ => false
noncomputable def nameCode : Array Nat := #[14, 10, 4, 1, 1, 22, 0, 31, 16, 127, 0, 13, 7, 22, 0, 31, 16, 127, 0, 1]
noncomputable def valCode : Array Nat := #[14, 14, 4, 1, 1, 9, 4294966783, 0, 0, 2147483648, 0, 0, 0, 0, 0, 13, 11, 9, 4294966783, 0, 0, 2147483648, 0, 0, 0, 0, 0, 1]
noncomputable def noFind (code : Array Nat) (x : Str) : Bool := match goes 64 (Sre.forSearch code x.cps 0 0 x.cps.size false) with | some m => failsM m | none => false
theorem noFind_name : ∀ x ∈ okList, noFind nameCode x = true := by decide +kernel
theorem noFind_val : ∀ x ∈ okList, noFind valCode x = true := by decide +kernel

section
variable {prog : Program} {w : World} {M : Model} {A : Around} {E : Value → Shared → Prop} {s : Shared}
theorem drive_ok {Q : Sre.M → Shared → Prop} : ∀ (j turns : Nat) (m m' : Sre.M), goes j m = some m' → j ≤ turns → Q m' s → wpAny M A (Builtin.Re.reDrive turns m) Q E s
  | 0, _, _, _, e, _, _ => nomatch e
  | j + 1, 0, _, _, _, h, _ => absurd h (by omega)
  | j + 1, n + 1, m, m', e, h, q => by
    unfold goes at e
    unfold Builtin.Re.reDrive
    dsimp only
    split at e
    · rename_i hs
      cases e
      rw [if_pos hs]
      exact wpAny_pure q
    · rename_i hs
      rw [if_neg hs]
      exact wpAny_bind (wpAny_rule (drive_ok j n _ m' e (by omega) q))

theorem rules_ok {Q : PUnit → Shared → Prop} (m : Sre.M) (q : Q ⟨⟩ s) : ∀ (l : List Nat), wpAny M A (forIn l PUnit.unit (fun i _ => (if m.seen.has i = true then (do rule (Sre.names.getD i ""); pure (ForInStep.yield PUnit.unit)) else pure (ForInStep.yield PUnit.unit) : Sem (ForInStep PUnit)))) Q E s
  | [] => by rw [List.forIn_nil]; exact wpAny_pure q
  | i :: l => by
    rw [List.forIn_cons]
    refine wpAny_bind ?_
    split
    · exact wpAny_bind (wpAny_rule (wpAny_pure (rules_ok m q l)))
    · exact wpAny_pure (rules_ok m q l)

theorem toEnd_ok {m m' : Sre.M} {Q : Option Sre.M → Shared → Prop} (h : goes 64 m = some m') (hf : failsM m' = true) (q : Q none s) : wpAny M A (Builtin.Re.reRunToEnd m) Q E s := by
  unfold Builtin.Re.reRunToEnd
  refine wpAny_bind (drive_ok 64 (2 ^ 64) m m' h (by decide) ?_)
  refine wpAny_bind (wpAny_mono (rules_ok (M := M) (A := A) (E := E) (s := s) m' (Q := fun _ s' => s' = s) rfl (List.range Sre.names.size)) (fun _ s' (e : s' = s) => ?_) fun _ _ z => z)
  subst e
  unfold failsM at hf
  split at hf
  · rename_i ho
    rw [ho]
    exact wpAny_pure q
  · cases hf

/-- a pattern in the heap -/
inductive PatAt (h : Heap) (p : Addr) (code : Array Nat) : Prop
  | mk (o : Obj) (fs : Array Value) (ct : Addr) (oc : Obj) (cs : Array Value) (n : Nat) (e1 : h.get? p = some o) (e2 : o.cls = .type "re.Pattern") (e3 : o.dict = none) (e4 : o.data = .fields fs) (e5 : fs[2]? = some (.int 0 0)) (e6 : fs[5]? = some (.ref ct)) (e7 : fs[6]? = some (.int 0 0))
    (e8 : h.get? ct = some oc) (e9 : oc.data = .seq cs n) (e10 : (cs.map Builtin.Re.reRawOf).map (·.toNat) = code)
theorem PatAt.stays {h h' : Heap} {p : Addr} {code : Array Nat} (k : Stays h h') (x : PatAt h p code) : PatAt h' p code := by
  obtain ⟨o, fs, ct, oc, cs, n, e1, e2, e3, e4, e5, e6, e7, e8, e9, e10⟩ := x
  exact ⟨o, fs, ct, oc, cs, n, k _ _ e1, e2, e3, e4, e5, e6, e7, k _ _ e8, e9, e10⟩

theorem search_ok {p : Addr} {code : Array Nat} {x : Str} {t : Tok} {Q : Value → Shared → Prop} (P : PatAt s.heap p code) (hf : noFind code x = true) (hx1 : x.cps.size ≤ 1000) (q : Q .none s) :
    wpAny (model prog w) A (call (.builtin "re.Pattern.search") [.ref p, .str x t]) Q E s := by
  obtain ⟨o, fs, ct, oc, cs, n, ho, hc, hd, hfs, f2, f5, f6, hoc, hcs, hcode⟩ := P
  refine wpAny_call_entry slot_re_search ⟨o, ho, hc⟩ entry_re_search ?_ (args_re_search _ _)
  unfold Builtin.«re.Pattern.search» Builtin.Re.reTarget
  have hn : Builtin.Re.reNamed "re.Pattern.search" "search" ["string", "pos", "endpos"] 1 [Value.str x t] [] = pure [some (Value.str x t), none, none] := by kernel_rfl
  dsimp only
  rw [hn]
  refine wpAny_bind (wpAny_bind (wpAny_pure ?_))
  dsimp only
  refine wpAny_bind (wpAny_pure (wpAny_bind (wpAny_pure ?_)))
  refine wpAny_bind (wpAny_fieldsOf ho hfs ?_)
  have hx : Builtin.Re.reTextOf (Value.str x t) = pure (x.cps, 0) := rfl
  rw [hx]
  refine wpAny_bind (wpAny_pure ?_)
  have e6 : fs.getD 6 .none = .int 0 0 := by rw [Array.getD_eq_getD_getElem?, f6]; rfl
  have e5 : fs.getD 5 .none = .ref ct := by rw [Array.getD_eq_getD_getElem?, f5]; rfl
  have e2 : fs.getD 2 .none = .int 0 0 := by rw [Array.getD_eq_getD_getElem?, f2]; rfl
  rw [e6, e5, e2]
  rw [if_neg (by intro z; cases z), if_neg (by intro z; cases z)]
  have hnc : Builtin.Re.reNoCollectionInside (Value.str x t) (x.cps, 0).snd = pure () := rfl
  rw [hnc]
  refine wpAny_bind (wpAny_pure ?_)
  unfold Builtin.Re.reRawItems seqItems?
  refine wpAny_bind (wpAny_bind (wpAny_bind (wpAny_load hoc ?_)))
  rw [hcs]
  refine wpAny_pure (wpAny_pure (wpAny_pure ?_))
  have h0 : min (Int.toNat 0) (x.cps, 0).fst.size = 0 := Nat.zero_min _
  have h1 : min ((2 : Int) ^ 63 - 1).toNat (x.cps, 0).fst.size = x.cps.size := Nat.min_eq_right (Nat.le_trans hx1 (by decide))
  have hz : Builtin.Re.reRawNat (Value.int 0 0) = 0 := rfl
  dsimp only [Option.getD_some]
  rw [hcode, hz, h0]
  unfold Builtin.Re.reAnswer
  dsimp only
  unfold noFind at hf
  split at hf
  · rename_i m hm
    refine wpAny_bind (toEnd_ok (m' := m) (by rw [← hm]; congr 2) hf ?_)
    exact wpAny_pure ⟨_, rfl, q⟩
  · cases hf
end
theorem okS_size : ∀ x ∈ okList, x.cps.size ≤ 1000 := by decide +kernel
theorem okS_mem {x : Str} (h : okS x = true) : x ∈ okList := List.contains_iff_mem.mp h
end Mine

namespace Mine
open PySem PySem.Calls PySem.Spec PyProof.Rows PySem.W PySem.SeqAt

/-! a function's frame, with any names bound at its head -/
structure FunAt (H0 : Heap) (a : Addr) (fd : FuncData) : Prop where
  at_ : ∃ o, H0.get? a = some o ∧ o.data = .func fd
  code : H0.CodeRec fd.code fd.qualname

noncomputable def plainFd (fd : FuncData) : Prop := fd.globals = mainGlobals ∧ fd.builtins = builtinsNs ∧ fd.closure = [] ∧ plainSc fd.scope = true

section
variable {prog : Program} {w : World} {A : Around} {s : Shared} {env : Env} {C : Cls} {H0 : Heap} {k : Nat} {mg mb : Str → Option Value}

theorem bind_has {kf : Str → Option NameKind} {x : Str} {v : Value} : ∀ (b : List (Str × Value)) (m cm : Str → Option Value), distinct (b.map (·.1)) = true → (x, v) ∈ b →
    (kf x = some .local → bindL kf b m x = some v) ∧ (kf x ≠ some .local → bindC kf b cm x = some v)
  | [], _, _, _, h => nomatch h
  | (y, u) :: r, m, cm, hd, h => by
    have hd' : ((!(r.map (·.1)).contains y) && distinct (r.map (·.1))) = true := hd
    rw [Bool.and_eq_true, Bool.not_eq_true'] at hd'
    have hn : ∀ p ∈ r, p.1 ≠ y := fun p hp q => by
      have := hd'.1
      rw [List.contains_iff_mem.mpr (q ▸ List.mem_map_of_mem hp)] at this
      cases this
    rcases List.mem_cons.mp h with e | h
    · cases e
      refine ⟨fun hk => ?_, fun hk => ?_⟩
      · unfold bindL
        rw [bindL_other r _ hn, if_pos hk]
        simp
      · unfold bindC
        rw [bindC_other r _ hn, if_neg hk]
        simp
    · exact bind_has r _ _ hd'.2 h

theorem codeAny_cells {R : Result → Shared → Prop} {a : Addr} {o : Obj} {fd : FuncData} {body : List Stmt} {args : Args} {binds : List (Str × Value)}
    (hroom : A.depth < recursionLimit) (ho : s.heap.get? a = some o) (hdata : o.data = .func fd) (hlim : s.heap.NoLimit) (hcd : s.heap.CodeRec fd.code fd.qualname)
    (hbody : fd.body = .stmts body) (hbind : BindsTo s fd args binds) (hclo : fd.closure = [])
    (hkind : ∀ x ∈ binds, fd.scope.names.lookup x.1 = some .local ∨ (fd.scope.names.lookup x.1 = some .cell ∧ ((cellsFrom (s.heap.objs.size + 1) fd.scope.names []).lookup x.1).isSome = true))
    (h : ∀ s₁, InCallC s (callEnvC fd s.heap.objs.size a).locals (bindL (callEnvC fd s.heap.objs.size a).kindOf binds fun _ => none) (callEnvC fd s.heap.objs.size a).cells
        (bindC (callEnvC fd s.heap.objs.size a).kindOf binds fun _ => none) s₁ →
      wpAny (model prog w) (A.deeper (callEnvC fd s.heap.objs.size a)) (execs body (callEnvC fd s.heap.objs.size a)) (fun f s' => R (.ok (.ret (match f with | .ret v => v | _ => .none))) s')
        (fun e s' => wpAny (model prog w) (A.deeper (callEnvC fd s.heap.objs.size a)) (leaving (callEnvC fd s.heap.objs.size a) e) (fun _ s'' => R (.error e) s'') (fun e' s'' => R (.error e') s'') s') s₁)
    (hco : fd.scope.isCoroutine = false) (hgen : fd.scope.isGenerator = false) (hk : fd.scope.kind = .function) :
    codeAny (model prog w) A (.call (.ref a) args) R s := by
  refine codeAny_call_function hroom ho hdata hco hgen hbody hcd (hbind _ _ _ _ ?_)
  rw [hclo]
  refine wpAny_newFunctionEnv_cells hk hkind fun env he s' x => ?_
  subst he
  exact ⟨hlim.keeps x.toInCall.keep, codeAny_func (h s' x)⟩

theorem entry_st {fd : FuncData} {a : Addr} {args : Args} {binds : List (Str × Value)} {body : List Stmt} {R : Result → Shared → Prop} (FA : FunAt H0 a fd) (hst : Stays H0 s.heap) (hbody : fd.body = .stmts body) (hfd : plainFd fd)
    (hroom : A.depth < recursionLimit) (hlim : H0.NoLimit) (hbind : BindsTo s fd args binds) (hd : distinct (binds.map (·.1)) = true) (hk : binds.all (fun p => own1 fd.scope p.1) = true)
    {B0 : Addr → Option Obj} {P : Addr → Prop} {X0 : List (Str × Addr)} {ρ0 : Rho}
    (h0 : ∀ b o, H0.get? b = some o → B0 b = some o) (base : ∀ b o, B0 b = some o → s.heap.get? b = some o) (fresh : ∀ b, s.heap.get? b = none → P b)
    (hX : ∀ p ∈ X0, B0 p.2 = none ∧ P p.2 ∧ ∃ vs n, s.heap.get? p.2 = some (lst vs n)) (xnd : ∀ p ∈ X0, ∀ q ∈ X0, p.2 = q.2 → p.1 = q.1) (xfn : ∀ p ∈ X0, ∀ q ∈ X0, p.1 = q.1 → p.2 = q.2)
    (ents : ∀ x ent, ρ0.lookup x = some ent → ∃ v, (x, v) ∈ binds ∧ EntS C B0 (fun b => P b ∧ ∀ p ∈ X0, p.2 ≠ b) X0 s.heap x v ent)
    (kk : ∀ env h1 tk, env = callEnvC fd s.heap.objs.size a → St C H0 P B0 env (own1 env.scope) X0 ρ0 h1 → Stays s.heap h1 → (∀ p ∈ binds, VarHas h1 env p.1 p.2) →
      wpAny (model prog w) (A.deeper env) (execs body env) (fun f s' => R (.ok (.ret (match f with | .ret v => v | _ => .none))) s') NoE { s with heap := h1, toks := tk }) :
    codeAny (model prog w) A (.call (.ref a) args) R s := by
  obtain ⟨⟨o, ho, hdat⟩, hcode⟩ := FA
  obtain ⟨hgl, hbl, hclo, hsc⟩ := hfd
  unfold plainSc at hsc
  simp only [Bool.and_eq_true, Bool.not_eq_true', beq_iff_eq] at hsc
  obtain ⟨⟨⟨hf, hco⟩, hge⟩, hfree⟩ := hsc
  refine codeAny_cells hroom (hst _ _ ho) hdat (hlim.keeps hst) (hcode.keeps hst) hbody hbind hclo ?_ (fun s₁ x => ?_) hco hge hf
  · intro p hp
    have := List.all_eq_true.mp hk p hp
    unfold own1 at this
    show fd.scope.names.lookup p.1 = _ ∨ (fd.scope.names.lookup p.1 = _ ∧ ((cellsFrom _ fd.scope.names []).lookup p.1).isSome = true)
    split at this
    · rename_i h1; exact .inl h1
    · rename_i h1; exact .inr ⟨h1, cells_some _ _ _ (.inr h1)⟩
    · cases this
  · obtain ⟨h1, tk1, e1⟩ := x.toInCall.same
    subst e1
    have keep : Stays s.heap h1 := x.toInCall.keep
    generalize henv : callEnvC fd s.heap.objs.size a = env at x
    have eL : env.locals = s.heap.objs.size := by rw [← henv]; rfl
    have eC : env.cells = cellsFrom (s.heap.objs.size + 1) fd.scope.names [] := by rw [← henv]; rfl
    have eS : env.scope = fd.scope := by rw [← henv]; rfl
    have eK : ∀ y, env.kindOf y = fd.scope.names.lookup y := fun y => by rw [← henv]; rfl
    have vars : ∀ p ∈ binds, VarHas h1 env p.1 p.2 := fun p hp => by
      have := List.all_eq_true.mp hk p hp
      obtain ⟨hl, hcl⟩ := bind_has (kf := env.kindOf) binds (fun _ => none) (fun _ => none) hd hp
      unfold own1 at this
      split at this
      · rename_i h2; exact .inl ⟨(eK _).trans h2, _, x.toInCall.ns, hl ((eK _).trans h2)⟩
      · rename_i h2
        obtain ⟨c, hc⟩ := Option.isSome_iff_exists.mp (cells_some fd.scope.names (s.heap.objs.size + 1) [] (.inr h2))
        have hc' : env.cells.lookup p.1 = some c := by rw [eC]; exact hc
        refine .inr ⟨.inl ((eK _).trans h2), c, hc', ?_⟩
        have i := x.cell p.1 c hc'
        rw [hcl (by rw [eK, h2]; intro z; cases z)] at i
        exact i
      · cases this
    have none_at : ∀ c, s.heap.objs.size ≤ c → s.heap.get? c = none := fun c hc => by
      cases z : s.heap.get? c with
      | none => rfl
      | some o' => exact absurd (Nat.lt_of_lt_of_le (Heap.lt_size z) hc) (Nat.lt_irrefl _)
    have bnone : ∀ c, s.heap.objs.size ≤ c → B0 c = none := fun c hc => by
      cases z : B0 c with
      | none => rfl
      | some o' => have := base c o' z; rw [none_at c hc] at this; cases this
    have t : St C H0 P B0 env (own1 env.scope) X0 ρ0 h1 := {
      fn := by rw [eS]; exact hf
      gl := by rw [← henv]; exact hgl
      bl := by rw [← henv]; exact hbl
      h0 := h0
      base := fun b o e => keep b o (base b o e)
      fresh := fun b e => fresh b (none_of_stays keep e)
      ns := ⟨_, x.toInCall.ns⟩
      bL := bnone _ (Nat.le_of_eq eL.symm)
      mine := fun y hy => by
        rw [eS] at hy
        unfold own1 at hy
        split at hy
        · rename_i h2; exact .inl ((eK _).trans h2)
        · rename_i h2
          refine .inr ⟨(eK _).trans h2, ?_⟩
          obtain ⟨c, hc⟩ := Option.isSome_iff_exists.mp (cells_some fd.scope.names (s.heap.objs.size + 1) [] (.inr h2))
          have hc' : env.cells.lookup y = some c := by rw [eC]; exact hc
          refine ⟨c, _, hc', x.cell y c hc', bnone c ?_⟩
          have := x.above y c (mem_of_lookup hc')
          rw [eL] at this
          exact Nat.le_of_lt this
        · cases hy
      apart := fun y z c hy hz _ => name_of_addr x.apart (mem_of_lookup hy) (mem_of_lookup hz)
      cells := fun y hy => by
        rcases hy with hy | hy
        · rw [eC]; exact Option.isSome_iff_exists.mp (cells_some fd.scope.names (s.heap.objs.size + 1) [] (.inr ((eK _).symm.trans hy)))
        · have := List.all_eq_true.mp hfree _ (mem_of_lookup ((eK _).symm.trans hy))
          simp at this
      isCell := fun y c hy => ⟨_, x.cell y c hy⟩
      xs := fun p hp => by
        obtain ⟨b1, _, vs, n, e⟩ := hX p hp
        refine ⟨b1, fun q => ?_, vs, n, keep _ _ e⟩
        rw [none_at _ (Nat.le_of_eq (eL.symm.trans q.symm))] at e
        cases e
      xp := fun p hp => (hX p hp).2.1
      xnd := xnd
      xfn := xfn
      vars := fun y ent e => by
        unfold look at e
        split at e
        rotate_left
        · cases e
        obtain ⟨v, hv, he⟩ := ents y ent e
        refine ⟨v, vars _ hv, ?_⟩
        have loc : ∀ (as : List Addr), (∀ b ∈ as, ∃ o, s.heap.get? b = some o) → (∀ b ∈ as, P b ∧ ∀ p ∈ X0, p.2 ≠ b) → ∀ b ∈ as, UU P env X0 b := fun as q u b hb =>
          ⟨(u b hb).1, (fun z => by
            obtain ⟨o', ho'⟩ := q b hb
            rw [none_at b (Nat.le_of_eq (eL.symm.trans z.symm))] at ho'
            cases ho'), (u b hb).2⟩
        have one : ∀ {v d}, Rep (fun b => P b ∧ ∀ p ∈ X0, p.2 ≠ b) s.heap v d → Rep (UU P env X0) h1 v d := fun {v d} ⟨as, r, u⟩ =>
          Rep.stays keep ⟨as, r, loc as (fun b hb => repAll_new.reads_alloc r b hb) u⟩
        have many : ∀ {vs ds}, RepAll (fun b => P b ∧ ∀ p ∈ X0, p.2 ≠ b) s.heap vs ds → RepAll (UU P env X0) h1 vs ds := fun {vs ds} ⟨as, r, u⟩ =>
          RepAll.stays keep ⟨as, r, loc as (fun b hb => repAll_new.readsAll_alloc r b hb) u⟩
        cases ent with
        | val d => exact one he
        | own ds => obtain ⟨b, vs, n, e1, e2, e3, r⟩ := he; exact ⟨b, vs, n, e1, e2, keep _ _ e3, many r⟩
        | slf ds => obtain ⟨y9, dx, hs9, tk9, a9, e1, e2, e3, r⟩ := he; exact ⟨y9, dx, hs9, tk9, a9, e1, e2, e3, one r⟩
        | hdr ds => obtain ⟨y9, dx, hs9, tk9, a9, vs, n, e1, e2, e3, e4, e5, r⟩ := he; exact ⟨y9, dx, hs9, tk9, a9, vs, n, e1, e2, e3, e4, keep _ _ e5, many r⟩ }
    refine wpAny_mono (kk env h1 tk1 henv.symm t keep vars) (fun f s' z => z) fun _ _ z => z.elim
end
end Mine

namespace Mine
open PySem PySem.Calls PySem.Spec PyProof.Rows PySem.W PySem.SeqAt

/-! _convert_string_type -/
structure Ground1 (mg mb : Str → Option Value) (H0 : Heap) : Prop extends Ground0 mg mb H0 where
  type_ : mg ("type" : Str) = none ∧ mb ("type" : Str) = some (.type "type")
  str_ : mg ("str" : Str) = none ∧ mb ("str" : Str) = some (.type "str")
  pats : ∃ pn pv, mg ("_name_disallowed_re" : Str) = some (.ref pn) ∧ mg ("_value_disallowed_re" : Str) = some (.ref pv) ∧ PatAt H0 pn nameCode ∧ PatAt H0 pv valCode

noncomputable def convScope : Scope := { kind := .function, names := [("self", .local), ("value", .local), ("name", .local), ("regex", .local), ("type", .globalImplicit), ("str", .globalImplicit), ("_name_disallowed_re", .globalImplicit), ("_value_disallowed_re", .globalImplicit), ("ValueError", .globalImplicit), ("AssertionError", .globalImplicit), ("repr", .globalImplicit)], isGenerator := false, isCoroutine := false }

inductive ConvBody (body : List Stmt) : Prop
  | mk (p1 p2 p3 p4 p5 p6 p7 p8 p9 p10 p11 p12 p13 p14 p15 p16 p17 p18 p19 : Pos) (rs : List Stmt) (last : Stmt) (hl : (p13.endLine == p15.line) = true)
      (hb : body = [.If (.Compare (.Call (.Name "type" p1) [.Name "value" p2] [] p3) [.Is] [.Name "str" p4] p5)
        [.Assign [.Name "regex" p6] (.IfExp (.Name "name" p7) (.Name "_name_disallowed_re" p8) (.Name "_value_disallowed_re" p9) p10) p11,
         .If (.Call (.Attribute (.Name "regex" p12) "search" p13) [.Name "value" p14] [] p15) rs [] p16, .Return (some (.Name "value" p17)) p18] [] p19, last])
structure ConvAt (H0 : Heap) (f : Addr) : Prop where
  has : ∃ fd, FunAt H0 f fd ∧ plainFd fd ∧ fd.scope = convScope ∧ (∃ body, fd.body = .stmts body ∧ ConvBody body) ∧
    ∀ self v b, bindArgs fd ⟨[self, v], [(("name" : Str), .bool b)]⟩ = pure [(("self" : Str), self), (("value" : Str), v), (("name" : Str), .bool b)]

section
variable {prog : Program} {w : World} {A : Around} {s : Shared} {env : Env} {C : Cls} {H0 : Heap} {k : Nat} {mg mb : Str → Option Value}

theorem load_has {x : Str} {v : Value} {pos : Pos} {Q E : Value → Shared → Prop} (hk : env.scope.kind = .function) (hd : (x == ("__debug__" : Str)) = false) (hc : (x == ("__classdict__" : Str)) = false) (hv : VarHas s.heap env x v) (h : Q v s) :
    wpAny (model prog w) A (eval (.Name x pos) env) Q E s := by
  refine wpAny_Name ?_ hd
  rcases hv with ⟨hl, m, n, hx⟩ | ⟨hl, c, hcl, hi⟩
  · exact wpAny_loadName_local hk hl n hx h
  · rcases hl with hl | hl
    · exact wpAny_loadName_cell hk hl hcl hi h
    · exact wpAny_loadName_free hk hl hcl hi h hc

theorem conv_ok {f : Addr} (CA : ConvAt H0 f) (G : Ground1 mg mb H0) {self : Value} {x : Str} {t : Tok} {b : Bool} (hx : okS x = true) (rm : Room A 1) (hst : Stays H0 s.heap) :
    wpAny (model prog w) A (call (.ref f) [self, .str x t] [("name", .bool b)]) (fun r s' => ∃ h' tk, s' = { s with heap := h', toks := tk } ∧ Stays s.heap h' ∧ r = .str x t) NoE s := by
  obtain ⟨fd, FA, hfd, hsc, ⟨_, hbody, p1, p2, p3, p4, p5, p6, p7, p8, p9, p10, p11, p12, p13, p14, p15, p16, p17, p18, p19, rs, last, hline, rfl⟩, hbind⟩ := CA.has
  obtain ⟨pn, pv, gn, gv, patn, patv⟩ := G.pats
  have hdis : distinct ([(("self" : Str), self), ("value", .str x t), ("name", .bool b)].map (·.1)) = true := by
    show distinct [("self" : Str), "value", "name"] = true
    decide +kernel
  have hown : ([(("self" : Str), self), ("value", .str x t), ("name", .bool b)].all fun p => own1 fd.scope p.1) = true := by
    rw [hsc]
    show (own1 convScope "self" && (own1 convScope "value" && (own1 convScope "name" && true))) = true
    decide +kernel
  refine wpAny_call (entry_st (C := ⟨0, fun _ _ => True⟩) (B0 := fun a => s.heap.get? a) (P := fun _ => True) (X0 := []) (ρ0 := []) FA hst hbody hfd (by have := rm.depth; omega) G.nolimit (BindsTo.of_eq (hbind _ _ _)) hdis hown
    hst (fun _ _ z => z) (fun _ _ => trivial) (fun _ h => nomatch h) (fun _ h => nomatch h) (fun _ h => nomatch h) (fun _ _ h => nomatch h) ?_)
  intro env h1 tk henv t1 st1 vars
  have hS : env.scope = convScope := by rw [henv, ← hsc]; rfl
  have hF : env.scope.kind = .function := by rw [hS]; rfl
  have hv := vars _ (List.mem_cons_of_mem _ List.mem_cons_self)
  have hn := vars _ (List.mem_cons_of_mem _ (List.mem_cons_of_mem _ List.mem_cons_self))
  have gi : ∀ f : Str, convScope.names.lookup f = some .globalImplicit → env.scope.names.lookup f = some .globalImplicit := fun f e => by rw [hS]; exact e
  refine wpAny_execs_cons (wpAny_If (wpAny_isTrue_Compare1 (Call_ (built_ok G.toGround0 t1.cx (gi _ rfl) (by decide +kernel) G.type_ ?_)) (by rfl)))
  refine callWith_type1 (wpAny_items_cons (load_has hF (by decide +kernel) (by decide +kernel) hv (wpAny_items_nil ?_)))
  refine call_type_of (Tx := "str") rfl (by decide +kernel) ?_
  refine built_ok G.toGround0 t1.cx (gi _ rfl) (by decide +kernel) G.str_ ?_
  refine wpAny_is_plain (by rfl) ?_
  rw [beq_self_eq_true]
  refine wpAny_truthy_bool ?_
  dsimp only [if_true]
  -- the pattern is chosen
  obtain ⟨p, code, hp, hpc, hf⟩ : ∃ p code, mg (if b then ("_name_disallowed_re" : Str) else "_value_disallowed_re") = some (.ref p) ∧ PatAt H0 p code ∧ noFind code x = true := by
    cases b with
    | true => exact ⟨pn, _, gn, patn, noFind_name x (okS_mem hx)⟩
    | false => exact ⟨pv, _, gv, patv, noFind_val x (okS_mem hx)⟩
  refine wpAny_execs_cons (wpAny_Assign_Name (wpAny_IfExp (wpAny_isTrue_value (load_has hF (by decide +kernel) (by decide +kernel) hn (wpAny_truthy_bool ?_)))) ?_)
  rotate_left
  · rfl
  have hname : ∀ Q : Value → Shared → Prop, Q (.ref p) { s with heap := h1, toks := tk } → (if b = true then wpAny (model prog w) (A.deeper env) (eval (.Name "_name_disallowed_re" p8) env) Q NoE { s with heap := h1, toks := tk } else wpAny (model prog w) (A.deeper env) (eval (.Name "_value_disallowed_re" p9) env) Q NoE { s with heap := h1, toks := tk }) := fun Q q => by
    cases b with
    | true => exact glob_ok (s := { s with heap := h1, toks := tk }) G.toGround0 t1.cx (gi _ rfl) (by decide +kernel) hp q
    | false => exact glob_ok (s := { s with heap := h1, toks := tk }) G.toGround0 t1.cx (gi _ rfl) (by decide +kernel) hp q
  refine hname _ ?_
  refine store_raw (s := { s with heap := h1, toks := tk }) t1 (by rw [hS]; decide +kernel) ?_
  intro h2 tk2 a hs ha _ _ _ _ _ hrx hoth
  have st2 : Stays s.heap h2 := fun c o e => (hs.2 c fun q => by rw [q, ha] at e; cases e).trans (st1 c o e)
  have hv2 := hoth "value" _ (by decide +kernel) hv
  dsimp only
  refine wpAny_execs_cons (wpAny_If (wpAny_isTrue_value (wpAny_Call_method_lateS rfl rfl hline (load_has hF (by decide +kernel) (by decide +kernel) hrx ?_))))
  obtain ⟨o, fs, ct, oc, cs, n, ho, hc, hd, _⟩ := (hpc.stays (hst.trans st2))
  refine ⟨"re.Pattern", "re.Pattern.search", plainAttrs_re, slot_re_search, type_re_search, ⟨o, ho, hc⟩, fun a' e' => by cases e'; exact ⟨o, ho, hd⟩, ?_⟩
  refine callWith_method1 (wpAny_items_cons (load_has hF (by decide +kernel) (by decide +kernel) hv2 (wpAny_items_nil ?_)))
  refine search_ok (hpc.stays (hst.trans st2)) hf (okS_size x (okS_mem hx)) ?_
  refine PyProof.Rows.truthy_none ?_
  rw [if_neg (by simp)]
  refine wpAny_execs_nil ?_
  refine wpAny_execs_cons (wpAny_Return_some (load_has hF (by decide +kernel) (by decide +kernel) hv2 ?_))
  exact ⟨h2, tk2, rfl, st2, rfl⟩
end
end Mine

namespace Mine
open PySem PySem.Calls PySem.Spec PyProof.Rows PySem.W PySem.SeqAt

section
variable {prog : Program} {w : World} {A : Around} {E : Value → Shared → Prop} {s : Shared} {env : Env} {C : Cls} {H0 : Heap} {P U : Addr → Prop} {B : Addr → Option Obj} {own : Str → Bool} {X : List (Str × Addr)} {ρ : Rho} {h h' : Heap} {k : Nat} {mg mb : Str → Option Value}

/-! xs[:] = ys -/
theorem setAll_lst {a sl b : Addr} {vs ws : List Value} {n : Nat} {Q : Unit → Shared → Prop} (ha : s.heap.get? a = some (lst vs n)) (hs : s.heap.IsSliceOf sl .none .none .none) (hb : s.heap.IsList b ws.toArray)
    (h1 : vs.length + ws.length ≤ top)
    (hQ : ∀ h' n', h'.get? a = some (lst ws n') → Heap.SameBut a s.heap h' → Q () { s with heap := h' }) : wpAny (model prog w) A (setItem (.ref a) (.ref sl) (.ref b)) Q E s := by
  have hL : s.heap.IsList a vs.toArray := ⟨_, ha, rfl, n, rfl⟩
  obtain ⟨os, hos, hcs, hds⟩ := id hs
  have hTs : s.TypeIs (.ref sl) "slice" := ⟨os, hos, hcs⟩
  have htop := top_le
  unfold setItem
  try with_reducible refine wpAny_holding ?_
  first | refine wpAny_bind (wpAny_pure ?_) | skip
  refine wpAny_bind (wpAny_sequenceKey hL.typeIs (by decide) ?_)
  refine wpAny_bind (wpAny_callSpecial?_slot (name := Str.ofString "__setitem__") hL.typeIs slot_list_setitem
    (wpAny_call_entry slot_list_setitem hL.typeIs entry_list_setitem ?_ (args_list_setitem _ _ _)))
  show wpAny _ _ (Builtin.List.listSubscript? (.ref sl) >>= _) _ _ s
  refine wpAny_bind ?_
  unfold Builtin.List.listSubscript?
  refine wpAny_bind (wpAny_specialOf hTs slice_no_index ?_)
  simp only [Option.isNone_none, if_true]
  refine wpAny_pure ?_
  show wpAny _ _ (typeOf (.ref sl) >>= _) _ _ s
  refine wpAny_bind (wpAny_typeOf hTs ?_)
  rw [if_neg (by decide)]
  rw [listSliceParts_eq]
  have hstep : ¬ ((rawPart (none : Option Int) == rawInt 0) = true) := Bool.false_ne_true
  refine wpAny_bind (wpAny_bind (wpAny_field hos hds (x := .none) rfl (wpAny_bind (wpAny_listPart .none ?_))))
  rw [if_neg hstep]
  refine wpAny_bind (wpAny_field hos hds (x := .none) rfl (wpAny_bind (wpAny_listPart .none ?_)))
  refine wpAny_bind (wpAny_field hos hds (x := .none) rfl (wpAny_bind (wpAny_listPart .none (wpAny_pure ?_))))
  have hTb : s.TypeIs (.ref b) "list" := hb.typeIs
  obtain ⟨ob, hob, hcb, nb, hdb⟩ := id hb
  dsimp only
  cases hsame : Builtin.List.listSameRef (.ref a) (.ref b)
  case' false =>
    simp only [Bool.false_eq_true, if_false]
    refine wpAny_bind ?_
    unfold Builtin.List.listAllItems
    refine wpAny_bind (wpAny_typeOf hTb ?_)
    rw [if_pos (by decide)]
    refine PyProof.Rows.listItems_at hob hdb ?_
  case' true =>
    simp only [if_true]
    refine wpAny_bind (PyProof.Rows.listItems_at hob hdb ?_)
  all_goals
    · refine wpAny_bind (PyProof.Rows.listItems_at ha rfl ?_)
      refine wpAny_bind (wpAny_of_eq (sliceIndices_raw none none none vs.toArray.size (by simp)) ?_)
      have e1 : sliceBounds none none none vs.toArray.size = (0, (vs.length : Int), 1) := by simp [sliceBounds]
      rw [e1]
      dsimp only
      rw [if_pos (by decide)]
      refine wpAny_bind (wpAny_rule ?_)
      rw [if_neg (by unfold Builtin.List.listTooLong; simp; omega)]
      have ef : ∀ (xs : Array Value), xs = vs.toArray → (xs.extract 0 (Int.toNat 0) ++ ws.toArray ++ xs.extract (max (0 : Int) (vs.length : Int)).toNat xs.size).toList = ws := fun xs e => by
        subst e
        have : (max (0 : Int) (vs.length : Int)).toNat = vs.length := by omega
        rw [this]
        simp
      obtain ⟨n', hn'⟩ := upd_lst ha (fun xs => xs.extract 0 (Int.toNat 0) ++ ws.toArray ++ xs.extract (max (0 : Int) (vs.length : Int)).toNat xs.size)
      rw [ef _ rfl] at hn'
      refine wpAny_bind (PyProof.Rows.listUpdate_at ha rfl ?_ (by rw [List.size_toArray]; omega) (by
        have := congrArg List.length (ef _ rfl)
        rw [Array.length_toList] at this
        rw [this]; omega))
      refine wpAny_bind (wpAny_letGo ?_)
      first
        | exact wpAny_bind (wpAny_pure (wpAny_pure ⟨.none, rfl, wpAny_pure (hQ _ n' hn' (Heap.SameBut.update ..))⟩))
        | exact wpAny_pure ⟨.none, rfl, wpAny_pure (hQ _ n' hn' (Heap.SameBut.update ..))⟩

/-! the class's objects -/
structure ClsAt (K : Frag) (H0 : Heap) (Ca : Addr) : Prop where
  X : K.In H0
  ga : findIn K (.ref Ca) "__getattribute__" = some (some (.builtin "object.__getattribute__"))
  gattr : findIn K (.ref Ca) "__getattr__" = some none
  noseq : noSeq K Ca = true
structure MethAt (K : Frag) (H0 : Heap) (Ca : Addr) (m : Str) (f : Addr) : Prop where
  find : findIn K (.ref Ca) m = some (some (.ref f))
  ty : typeIn K (.ref f) = some (.type "function")
  plain : (m == ("_headers" : Str)) = false
  fn : ∃ fd, FunAt H0 f fd

theorem HdrAt.inst {y l : Addr} (x : HdrAt C.addr h y l) : ∃ dx hs t, h.get? y = some (instObj C.addr dx) ∧ InstAt h y (instObj C.addr dx) C.addr (some (dictOf [⟨hs, .str "_headers" t, .ref l⟩] 1)) := by
  obtain ⟨dx, hs, t, e1, e2⟩ := x
  exact ⟨dx, hs, t, e1, ⟨e1, rfl, rfl, e2⟩⟩

theorem shadow_plain {hs : Int} {t : Tok} {l : Addr} {m : Str} (hm : (m == ("_headers" : Str)) = false) : shadowIn (some (dictOf [⟨hs, .str "_headers" t, .ref l⟩] 1)) m = some false := by
  have h1 : (Value.str ("_headers" : Str) t).isStr m = false := by
    have : (("_headers" : Str) == m) = false := by
      rw [beq_eq_false_iff_ne] at hm ⊢
      exact fun q => hm q.symm
    exact this
  unfold shadowIn lookIn
  show Option.map _ (match (List.find? (fun d : DictEntry => d.key.isStr m) [⟨hs, Value.str "_headers" t, .ref l⟩]) with | some e => some (some e.val) | none => if ([⟨hs, Value.str "_headers" t, .ref l⟩] : List DictEntry).any (·.refKey) then none else some none) = some false
  simp only [List.find?_cons, h1, List.find?_nil]
  rfl

theorem getMethod_hdr {K : Frag} {y l f : Addr} {m : Str} {pl : Sem Bool} {Q : Value × List Value → Shared → Prop} (CK : ClsAt K H0 C.addr) (M : MethAt K H0 C.addr m f) (hst : Stays H0 s.heap) (Hy : HdrAt C.addr s.heap y l) (q : Q (.ref f, [.ref y]) s) :
    wpAny (model prog w) A (getMethod (.ref y) m pl) Q E s := by
  obtain ⟨dx, hs, t, _, I⟩ := Hy.inst
  exact method_fn (CK.X.keeps hst) I CK.ga CK.gattr M.find M.ty (shadow_plain M.plain) q

theorem meth_call {K : Frag} {o : Expr} {m : Str} {apos pos : Pos} {args : List Expr} {kws : List Keyword} {Q : Value → Shared → Prop} (CK : ClsAt K H0 C.addr)
    (hbase : attributeBase o m env (eval o env) = eval o env)
    (hfew : methodCallForm (args.length + kws.length) (backTo pos (starEach args env)) (backToKw pos (keywordEach kws env)) = true) (hline : (apos.endLine == pos.line) = true)
    (h : wpAny (model prog w) A (eval o env) (fun ov s₁ => ∃ y l f, ov = .ref y ∧ Stays H0 s₁.heap ∧ HdrAt C.addr s₁.heap y l ∧ MethAt K H0 C.addr m f ∧
      wpAny (model prog w) A (evalArgs (.ref f) true (backTo pos (starEach args env)) (backToKw pos (keywordEach kws env))) (fun x s₂ => Stays H0 s₂.heap ∧ wpAny (model prog w) A (call (.ref f) (.ref y :: x.pos) x.kw) Q E s₂) E s₁) E s) :
    wpAny (model prog w) A (eval (.Call (.Attribute o m apos) args kws pos) env) Q E s := by
  rw [arm_eval_Call, hbase]
  refine wpAny_bind (wpAny_mono h (fun ov s₁ h₁ => ?_) fun _ _ e => e)
  obtain ⟨y, l, f, rfl, hst, Hy, M, hc⟩ := h₁
  refine wpAny_bind (wpAny_standAt ?_)
  have hpos : methodCallPos true o env apos pos = pure pos := by unfold methodCallPos; simp [hline]
  unfold methodCall
  rw [hfew]
  refine wpAny_bind (wpAny_holding (getMethod_hdr CK M hst Hy ?_))
  refine wpAny_bind (wpAny_of_eq hpos ?_)
  obtain ⟨fd, FA⟩ := M.fn
  obtain ⟨of, hof, hdf⟩ := FA.at_
  refine callWith_function_kw (o := of) (fd := fd) (wpAny_mono hc (fun x s₂ h₂ => ⟨⟨h₂.1 _ _ hof, hdf⟩, h₂.2⟩) fun _ _ z => z)

theorem setItem_hdr {K : Frag} {y l f : Addr} {i v : Value} {Q : Unit → Shared → Prop} (CK : ClsAt K H0 C.addr) (M : MethAt K H0 C.addr "__setitem__" f) (hst : Stays H0 s.heap) (Hy : HdrAt C.addr s.heap y l)
    (q : wpAny (model prog w) A (call (.ref f) [.ref y, i, v]) (fun _ s' => Q () s') E s) : wpAny (model prog w) A (setItem (.ref y) i v) Q E s := by
  obtain ⟨dx, hs, t, _, I⟩ := Hy.inst
  have X := CK.X.keeps hst
  unfold setItem sequenceKey
  refine wpAny_holding (wpAny_bind (wpAny_bind (I.type.here ?_)))
  refine wpAny_bind ((anyM_none X CK.noseq).here ?_)
  rw [if_pos (show (!false) = true from rfl)]
  exact wpAny_pure (wpAny_bind (special_fn X I M.find M.ty (wpAny_mono q (fun _ _ z => wpAny_pure z) fun _ _ z => z)))
theorem delItem_hdr {K : Frag} {y l f : Addr} {i : Value} {Q : Unit → Shared → Prop} (CK : ClsAt K H0 C.addr) (M : MethAt K H0 C.addr "__delitem__" f) (hst : Stays H0 s.heap) (Hy : HdrAt C.addr s.heap y l)
    (q : wpAny (model prog w) A (call (.ref f) [.ref y, i]) (fun _ s' => Q () s') E s) : wpAny (model prog w) A (delItem (.ref y) i) Q E s := by
  obtain ⟨dx, hs, t, _, I⟩ := Hy.inst
  have X := CK.X.keeps hst
  unfold delItem sequenceKey
  refine wpAny_holding (wpAny_bind (wpAny_bind (I.type.here ?_)))
  refine wpAny_bind ((anyM_none X CK.noseq).here ?_)
  rw [if_pos (show (!false) = true from rfl)]
  exact wpAny_pure (wpAny_bind (special_fn X I M.find M.ty (wpAny_mono q (fun _ _ z => wpAny_pure z) fun _ _ z => z)))

/-! the owned list behind an object changes, and new objects come -/
theorem St.wrHdr (t : St C H0 P B env own X ρ h) {x : Str} {ps ps' : List PyData} {y a : Addr} {vs' : List Value} {n' : Nat} (hx : look env.scope ρ x = some (.hdr ps)) (hv : VarHas h env x (.ref y)) (hX : (x, a) ∈ X)
    (hk : ∀ b o, b ≠ a → h.get? b = some o → h'.get? b = some o) (ho : h'.get? a = some (lst vs' n')) (hr : RepAll (UU P env X) h' vs' ps') :
    St C H0 P B env own X (ρ.set x (.hdr ps')) h' ∧ Liv (UU P env X) h h' := by
  obtain ⟨hb, hL, vs, n, ha⟩ := t.xs _ hX
  have hs : Heap.SameBut a (h'.update a fun _ => lst vs n) h' := ⟨by rw [Heap.size_update], fun b q => (Heap.get?_update_ne _ _ _ _ q).symm⟩
  have ha1 : (h'.update a fun _ => lst vs n).get? a = some (lst vs n) := by
    exact Heap.get?_update_self (fun _ => lst vs n) ho rfl
  have st : Stays h (h'.update a fun _ => lst vs n) := fun b o e => by
    by_cases q : b = a
    · subst q; rw [ha] at e; rw [← e]; exact ha1
    · rw [Heap.get?_update_ne _ _ _ _ q]; exact hk b o q e
  have t1 := t.stays st
  obtain ⟨lv, t'⟩ := t1.mutX hX hs ho
  obtain ⟨v, hv', y', dx, hs', tk', a', vs0, n0, ⟨e1, ok⟩, e2, e3, e4, e5, _⟩ := t.vars x _ hx
  subst e1
  have ey : a' = a := t.xfn _ e4 _ hX rfl
  subst ey
  refine ⟨{ t' with vars := fun z ent e => ?_ }, fun v d as q u => lv v d as (reads_stays st q) u⟩
  rcases look_set e with ⟨rfl, rfl⟩ | ⟨hy, e⟩
  · exact ⟨_, var_but hs hL ⟨vs, n, ha1⟩ (hv'.stays st), y', dx, hs', tk', a', vs', n', ⟨rfl, ok⟩, e2, e3, e4, ho, hr⟩
  · refine t'.vars z ent ?_
    unfold look at e ⊢
    split at e
    · rename_i c
      rw [if_pos c]
      exact lookup_keep hy e
    · cases e
end
end Mine

namespace Mine
open PySem PySem.Calls PySem.Spec PyProof.Rows PySem.W PySem.SeqAt

/-! what is known of the class's methods; the hooks that lean on it -/
structure HT where
  rd : Str → List PyData → List PyData → Option PyData
  wr : Str → List PyData → List PyData → Option (List PyData × PyData)
  conv : Bool

noncomputable abbrev EHook := (Md → Scope → Rho → Expr → Option PyData) → Scope → Rho → Expr → Option PyData
noncomputable def pairsOf? : Option Ent → Option (List PyData)
  | some (.hdr ps) => some ps
  | some (.slf ps) => some ps
  | _ => none
noncomputable def convD : PyData → Option PyData
  | .str x => if okS x then some (.str x) else none
  | _ => none
/-- name=True, name=False -/
noncomputable def boolKw : List Keyword → Option Str
  | [k] => (match k.arg with
    | some kn => (match k.value with
      | .Constant c _ _ => (match c with
        | .bool _ => some kn
        | _ => none)
      | _ => none)
    | none => none)
  | _ => none
theorem boolKw_eq {l : List Keyword} {kn : Str} (q : boolKw l = some kn) : ∃ b kk bp kp, l = [⟨some kn, .Constant (.bool b) kk bp, kp⟩] := by
  rcases l with _ | ⟨⟨ka, kv, kp⟩, _ | ⟨_, _⟩⟩
  · exact noSome q
  · cases ka with
    | none => exact noSome q
    | some kn =>
      cases kv with
      | Constant c kk bp =>
        cases c with
        | bool b => cases q; exact ⟨_, _, _, _, rfl⟩
        | _ => exact noSome q
      | _ => exact noSome q
  · exact noSome q
noncomputable abbrev CallP := Expr × Str × Pos × List Expr × List Keyword × Pos
noncomputable def hkCall (T : HT) (r : Md → Scope → Rho → Expr → Option PyData) (sc : Scope) (ρ : Rho) (x : Str) (c : CallP) : Option PyData :=
  if (c.2.2.1.endLine == c.2.2.2.2.2.line) && decide (c.2.2.2.1.length < 20) then (pairsOf? (look sc ρ x)).bind fun ps => (evL r sc ρ c.2.2.2.1).bind (T.rd c.2.1 ps) else none
noncomputable def hkConv (T : HT) (r : Md → Scope → Rho → Expr → Option PyData) (sc : Scope) (ρ : Rho) (x : Str) (c : CallP) : Option PyData :=
  (boolKw c.2.2.2.2.1).bind fun kn => (arg1 c.2.2.2.1).bind fun a =>
    if (c.2.2.1.endLine == c.2.2.2.2.2.line) && T.conv && (c.2.1 == ("_convert_string_type" : Str)) && (kn == ("name" : Str)) && !isStar a then
      (pairsOf? (look sc ρ x)).bind fun _ => (r .value sc ρ a).bind convD else none
noncomputable def fieldE (sc : Scope) (ρ : Rho) : Expr → Option PyData
  | .Attribute o m _ => if m == ("_headers" : Str) then (nameOfE o).bind fun x => (match look sc ρ x with | some (.slf ps) => some (.list ps) | _ => none) else none
  | _ => none
noncomputable def hkE (T : HT) : EHook := fun r sc ρ e => match callOf e with
  | some c => (nameOfE c.1).bind fun x => if c.2.2.2.2.1.isEmpty then hkCall T r sc ρ x c else hkConv T r sc ρ x c
  | none => fieldE sc ρ e

section
variable (prog : Program) (w : World) (mg mb : Str → Option Value) (K : Frag) (H0 : Heap) (Ca : Addr) (k : Nat)
noncomputable def RdOk (rd : Str → List PyData → List PyData → Option PyData) : Prop := ∀ m ps args d, rd m ps args = some d → ∃ f, MethAt K H0 Ca m f ∧
  ∀ (A : Around) (s : Shared) (U : Addr → Prop) (y a : Addr) (vs vargs : List Value), Room A k → Stays H0 s.heap → HdrAt Ca s.heap y a → s.heap.IsList a vs.toArray → RepAll U s.heap vs ps →
    (∀ b, s.heap.get? b = none → U b) → RepAll U s.heap vargs args → wpAny (model prog w) A (call (.ref f) (.ref y :: vargs)) (EvPost U s d) NoE s
/-- what a call that may change the pairs leaves -/
inductive WrPost (P : Addr → Prop) (s : Shared) (a : Addr) (ps' : List PyData) (d : PyData) (r : Value) (s' : Shared) : Prop
  | mk (h' : Heap) (tk : Nat) (vs' : List Value) (n' : Nat) (e : s' = { s with heap := h', toks := tk }) (kp : ∀ b o, b ≠ a → s.heap.get? b = some o → h'.get? b = some o) (at_ : h'.get? a = some (lst vs' n')) (r1 : RepAll P h' vs' ps') (r2 : Rep P h' r d)
noncomputable def WrOk (wr : Str → List PyData → List PyData → Option (List PyData × PyData)) : Prop := ∀ m ps args ps' d, wr m ps args = some (ps', d) → ∃ f, MethAt K H0 Ca m f ∧
  ∀ (A : Around) (s : Shared) (P : Addr → Prop) (y a : Addr) (vs vargs : List Value) (n : Nat), Room A k → Stays H0 s.heap → HdrAt Ca s.heap y a → H0.get? a = none → s.heap.get? a = some (lst vs n) → RepAll P s.heap vs ps → ¬ P a →
    (∀ b, s.heap.get? b = none → P b) → RepAll P s.heap vargs args → wpAny (model prog w) A (call (.ref f) (.ref y :: vargs)) (WrPost P s a ps' d) NoE s
structure ClOk (T : HT) : Prop where
  cls : ClsAt K H0 Ca
  g : Ground1 mg mb H0
  rd : RdOk prog w K H0 Ca k T.rd
  wr : WrOk prog w K H0 Ca k T.wr
  cv : T.conv = true → 1 ≤ k ∧ ∃ f, MethAt K H0 Ca "_convert_string_type" f ∧ ConvAt H0 f
  field : ∃ cd, clsIn K Ca = some cd ∧ cd.hasDict = true
  nofield : findIn K (.ref Ca) "_headers" = some none
end

section
variable {prog : Program} {w : World} {A : Around} {E : Value → Shared → Prop} {s : Shared} {env : Env} {C : Cls} {H0 : Heap} {P U : Addr → Prop} {B : Addr → Option Obj} {own : Str → Bool} {X : List (Str × Addr)} {ρ ρ' : Rho} {h h' : Heap} {k : Nat} {mg mb : Str → Option Value} {K : Frag} {T : HT}
variable {r : Md → Scope → Rho → Expr → Option PyData}

theorem pairs_at (c : Cx C H0 U env ρ h) {x : Str} {ps : List PyData} (e : pairsOf? (look env.scope ρ x) = some ps) :
    ∃ ent y a vs, look env.scope ρ x = some ent ∧ VarHas h env x (.ref y) ∧ HdrAt C.addr h y a ∧ h.IsList a vs.toArray ∧ RepAll U h vs ps := by
  unfold pairsOf? at e
  split at e
  · rename_i q
    cases e
    obtain ⟨v, hv, y, a, vs, rfl, H, L, R⟩ := c.vars x _ q
    exact ⟨_, y, a, vs, q, hv, H, L, R⟩
  · rename_i q
    cases e
    obtain ⟨v, hv, y, a, rfl, H, R⟩ := c.vars x _ q
    obtain ⟨a', vs, ea, L, R, _⟩ := R.listInv
    cases ea
    exact ⟨_, y, a, vs, q, hv, H, L, R⟩
  · cases e

theorem evalArgs_L (S : Snd prog w H0 C k r) (rm : Room A k) {pos : Pos} {f : Value} : ∀ (es : List Expr) (ds : List PyData) (s : Shared), Cx C H0 U env ρ s.heap → evL r env.scope ρ es = some ds →
    wpAny (model prog w) A (evalArgs f true (backTo pos (starEach es env)) []) (fun x s' => x.kw = [] ∧ EvPostL U s ds x.pos s') NoE s
  | [], ds, s, c, e => by
    simp only [evL, Option.some.injEq] at e
    subst e
    exact PyProof.Rows.evalArgs_none ⟨rfl, s.heap, s.toks, rfl, Stays.refl _, .nil⟩
  | e :: es, ds, s, c, q => by
    have hs : isStar e = false := by
      cases z : isStar e with
      | false => rfl
      | true => simp only [evL, z, if_true] at q; cases q
    have main := evL_ok S rm pos (e :: es) ds s c q
    rw [star_cons hs] at main ⊢
    exact evalArgs_plain (wpAny_mono main (fun vs s' z => ⟨rfl, z⟩) fun _ _ z => z)

theorem form_L {es : List Expr} {ds : List PyData} {pos : Pos} (q : evL r env.scope ρ es = some ds) (hl : es.length < 20) : methodCallForm (es.length + ([] : List Keyword).length) (backTo pos (starEach es env)) (backToKw pos (keywordEach [] env)) = true := by
  have h1 := starEach_any (r := r) (ρ := ρ) (env := env) pos es ds q
  have h2 : (backTo pos (starEach es env)).all (!·.1) = true := by
    rw [List.all_eq_true]
    intro z hz
    rw [List.any_eq_false] at h1
    simpa using h1 z hz
  unfold methodCallForm
  rw [h2]
  show (true && true && decide (es.length + 0 + 0 < 30)) = true
  simp
  omega

theorem look_load {x : Str} {v : Value} {pos : Pos} {ent : Ent} {Q : Value → Shared → Prop} (hk : env.scope.kind = .function) (hx : look env.scope ρ x = some ent) (hv : VarHas s.heap env x v) (q : Q v s) :
    wpAny (model prog w) A (eval (.Name x pos) env) Q E s := wpAny_Name (load_ok hk hx hv q) (look_ok hx).2.1

theorem field_read (CL : ClOk prog w mg mb K H0 C.addr k T) (hst : Stays H0 s.heap) {y a : Addr} {Q : Value → Shared → Prop} {E : Value → Shared → Prop} {expr : Bool} (Hy : HdrAt C.addr s.heap y a) (q : Q (.ref a) { s with toks := s.toks + 1 }) :
    wpAny (model prog w) A (getAttr (.ref y) "_headers" expr) Q E s := by
  obtain ⟨dx, hs, t, _, I⟩ := Hy.inst
  obtain ⟨cd, hcd, hd⟩ := CL.field
  refine get_value (CL.cls.X.keeps hst) I CL.cls.ga ?_ rfl q
  unfold findObj
  rw [hcd, CL.nofield]
  show Option.bind (PySem.W.ownOf cd _ _) _ = _
  unfold PySem.W.ownOf
  rw [hd, if_pos rfl]
  show Option.bind (lookIn _ _) _ = _
  have h1 : lookIn ("_headers" : Str) (dictOf [⟨hs, .str "_headers" t, .ref a⟩] 1) = some (some (.ref a)) := by
    unfold lookIn
    show (match (List.find? (fun d : DictEntry => d.key.isStr "_headers") [⟨hs, Value.str "_headers" t, .ref a⟩]) with | some e => some (some e.val) | none => if ([⟨hs, Value.str "_headers" t, .ref a⟩] : List DictEntry).any (·.refKey) then none else some none) = _
    have h2 : (Value.str ("_headers" : Str) t).isStr "_headers" = true := beq_self_eq_true ("_headers" : Str)
    simp only [List.find?_cons, h2]
  rw [h1]
  rfl

/-- the evaluation of self._convert_string_type(a, name=b) -/
theorem conv_call (CL : ClOk prog w mg mb K H0 C.addr k T) (S : Snd prog w H0 C k r) (c : Cx C H0 U env ρ s.heap) (rm : Room A k) {x : Str} {xp ap cp kp bp : Pos} {m kn : Str} {a : Expr} {b : Bool} {kk : Nat} {d e : PyData} {ps : List PyData}
    (hl : (ap.endLine == cp.line) = true) (hc : T.conv = true) (hm : m = ("_convert_string_type" : Str)) (hkn : kn = ("name" : Str)) (hs : isStar a = false) (hp : pairsOf? (look env.scope ρ x) = some ps) (qa : r .value env.scope ρ a = some d) (q : convD d = some e) :
    wpAny (model prog w) A (eval (.Call (.Attribute (.Name x xp) m ap) [a] [⟨some kn, .Constant (.bool b) kk bp, kp⟩] cp) env) (EvPost U s e) NoE s := by
  subst hm hkn
  obtain ⟨hk1, f, M, CA⟩ := CL.cv hc
  obtain ⟨ent, y, l, vs, hx, hv, Hy, _, _⟩ := pairs_at c hp
  cases d <;> simp only [convD, reduceCtorEq] at q
  rename_i str
  replace q := iteS q
  obtain ⟨hok, q⟩ := q
  cases q
  refine meth_call CL.cls rfl ?_ hl (look_load c.fn hx hv ?_)
  · rw [star_cons hs]; rfl
  refine ⟨y, l, f, rfl, c.h0, Hy, M, ?_⟩
  rw [star_cons hs]
  refine evalArgs_kw (by rfl) ?_
  show wpAny _ _ (spliced ((false, eval a env) :: [])) _ _ _
  refine Calls.spliced_cons (thenV ((S _ _ _ _ _ _ _ _ rfl c rm).1 qa) fun v h₁ tk₁ st₁ rv => Calls.spliced_nil ?_)
  obtain ⟨t, rfl⟩ := rv.strInv
  refine wpAny_evalAll_cons ?_
  show wpAny _ _ (eval (.Constant (.bool b) kk bp) env >>= fun v => standAt cp >>= fun _ => pure v) _ _ _
  refine wpAny_bind (wpAny_mono (const_ok (U := U) (s := { s with heap := h₁, toks := tk₁ }) (d := .bool b) rfl) (fun v s₂ zP => ?_) fun _ _ z => z)
  obtain ⟨h₂, tk₂, e₂, st₂, rb⟩ := zP
  subst e₂
  have := rb.boolInv
  subst this
  refine wpAny_bind (wpAny_standAt (wpAny_pure (wpAny_evalAll_nil ⟨(c.h0.trans st₁).trans st₂, ?_⟩)))
  refine wpAny_mono (conv_ok (s := { s with heap := h₂, toks := tk₂ }) CA CL.g (self := .ref y) (x := str) (t := t) (b := b) hok ⟨rm.handled, by have := rm.depth; omega, by have := rm.units; omega⟩ ((c.h0.trans st₁).trans st₂)) (fun v s₃ zP => ?_) fun _ _ z => z
  obtain ⟨h₃, tk₃, e₃, st₃, er⟩ := zP
  subst e₃ er
  exact ⟨h₃, tk₃, rfl, (st₁.trans st₂).trans st₃, .str _ _⟩

theorem hkCall_ok (CL : ClOk prog w mg mb K H0 C.addr k T) (S : Snd prog w H0 C k r) (c : Cx C H0 U env ρ s.heap) (rm : Room A k) {x m : Str} {xp ap cp : Pos} {args : List Expr} {d : PyData} (q : hkCall T r env.scope ρ x (.Name x xp, m, ap, args, [], cp) = some d) :
    wpAny (model prog w) A (eval (.Call (.Attribute (.Name x xp) m ap) args [] cp) env) (EvPost U s d) NoE s := by
  unfold hkCall at q
  replace q := iteS q
  have hl := q.1
  rw [Bool.and_eq_true, decide_eq_true_eq] at hl
  obtain ⟨ps, hp, q1⟩ := Option.bind_eq_some_iff.mp q.2
  obtain ⟨ds, hds, q2⟩ := Option.bind_eq_some_iff.mp q1
  obtain ⟨ent, y, l, vs, hx, hv, Hy, L, R⟩ := pairs_at c hp
  obtain ⟨f, M, hf⟩ := CL.rd _ _ _ _ q2
  refine meth_call CL.cls rfl (form_L hds hl.2) hl.1 (look_load c.fn hx hv ⟨y, l, f, rfl, c.h0, Hy, M, ?_⟩)
  refine wpAny_mono (evalArgs_L S rm _ ds s c hds) (fun x s₁ zP => ?_) fun _ _ z => z
  obtain ⟨ek, h₁, tk₁, e₁, st₁, rr⟩ := zP
  subst e₁
  refine ⟨c.h0.trans st₁, ?_⟩
  rw [ek]
  exact wpAny_mono (hf A { s with heap := h₁, toks := tk₁ } U y l vs x.pos rm (c.h0.trans st₁) (Hy.stays st₁) (isList_stays st₁ L) (R.stays st₁) (c.stays st₁).fresh rr) (fun _ _ z => evPost_from st₁ z) fun _ _ z => z
theorem hkConv_ok (CL : ClOk prog w mg mb K H0 C.addr k T) (S : Snd prog w H0 C k r) (c : Cx C H0 U env ρ s.heap) (rm : Room A k) {x m : Str} {xp ap cp : Pos} {args : List Expr} {kws : List Keyword} {d : PyData} (q : hkConv T r env.scope ρ x (.Name x xp, m, ap, args, kws, cp) = some d) :
    wpAny (model prog w) A (eval (.Call (.Attribute (.Name x xp) m ap) args kws cp) env) (EvPost U s d) NoE s := by
  unfold hkConv at q
  obtain ⟨kn, hkn, q1⟩ := Option.bind_eq_some_iff.mp q
  obtain ⟨b, kk, bp, kp, hk⟩ := boolKw_eq hkn
  obtain ⟨a, ha, q2⟩ := Option.bind_eq_some_iff.mp q1
  have ha' := arg1_eq ha
  dsimp only at hk ha'
  subst hk ha'
  replace q2 := iteS q2
  have hl := q2.1
  simp only [Bool.and_eq_true, beq_iff_eq, Bool.not_eq_true'] at hl
  obtain ⟨ps, hp, q3⟩ := Option.bind_eq_some_iff.mp q2.2
  obtain ⟨d', hd', q4⟩ := Option.bind_eq_some_iff.mp q3
  exact conv_call CL S c rm (beq_iff_eq.mpr hl.1.1.1.1) hl.1.1.1.2 hl.1.1.2 hl.1.2 hl.2 hp hd' q4
theorem fieldE_ok (CL : ClOk prog w mg mb K H0 C.addr k T) (c : Cx C H0 U env ρ s.heap) {e : Expr} {d : PyData} (q : fieldE env.scope ρ e = some d) : wpAny (model prog w) A (eval e env) (EvPost U s d) NoE s := by
  cases e with
  | Attribute o m p =>
    replace q := iteS q
    have hm := beq_iff_eq.mp q.1
    obtain ⟨x, hx, q1⟩ := Option.bind_eq_some_iff.mp q.2
    obtain ⟨xp, hxp⟩ := nameOfE_eq hx
    subst hm hxp
    cases hl : look env.scope ρ x with
    | none => rw [hl] at q1; exact noSome q1
    | some en =>
      rw [hl] at q1
      cases en with
      | slf ps =>
        cases q1
        obtain ⟨v, hv, y, a, rfl, Hy, R⟩ := c.vars _ _ hl
        exact Attribute_name (look_load c.fn hl hv (field_read CL c.h0 Hy ⟨s.heap, _, rfl, Stays.refl _, R⟩))
      | _ => exact noSome q1
  | _ => exact noSome q
theorem hkE_ok (CL : ClOk prog w mg mb K H0 C.addr k T) {fn : Str → List PyData → Option PyData} : HookOk prog w H0 C ⟨fn, hkE T⟩ k := by
  intro r S ρ e d env A s U q c rm
  replace q : (match callOf e with
    | some c => (nameOfE c.1).bind fun x => if c.2.2.2.2.1.isEmpty then hkCall T r env.scope ρ x c else hkConv T r env.scope ρ x c
    | none => fieldE env.scope ρ e) = some d := q
  cases hc : callOf e with
  | none => rw [hc] at q; exact fieldE_ok CL c q
  | some c' =>
    rw [hc] at q
    obtain ⟨o, m, ap, args, kws, cp⟩ := c'
    have he := callOf_eq hc
    subst he
    obtain ⟨x, hx, q1⟩ := Option.bind_eq_some_iff.mp q
    obtain ⟨xp, hxp⟩ := nameOfE_eq hx
    dsimp only at hxp q1
    subst hxp
    by_cases hk : kws.isEmpty = true
    · rw [if_pos hk] at q1
      have hk' := List.isEmpty_iff.mp hk
      subst hk'
      exact hkCall_ok CL S c rm q1
    · rw [if_neg hk] at q1
      exact hkConv_ok CL S c rm q1

theorem HookOk.or {fn : Str → List PyData → Option PyData} {h1 h2 : EHook} (x : HookOk prog w H0 C ⟨fn, h1⟩ k) (y : HookOk prog w H0 C ⟨fn, h2⟩ k) : HookOk prog w H0 C ⟨fn, fun r sc ρ e => (h1 r sc ρ e).or (h2 r sc ρ e)⟩ k := by
  intro r S ρ e d env A s U q c rm
  have q' : (h1 r env.scope ρ e).or (h2 r env.scope ρ e) = some d := q
  cases z : h1 r env.scope ρ e with
  | none => rw [z] at q'; exact y r S ρ e d env A s U q' c rm
  | some d' => rw [z] at q'; exact x r S ρ e d env A s U (by cases q'; exact z) c rm
end
end Mine

namespace Mine
open PySem PySem.Calls PySem.Spec PyProof.Rows PySem.W PySem.SeqAt

/-! data without a list in it -/
mutual
noncomputable def noL : PyData → Bool
  | .none => true
  | .bool _ => true
  | .int _ => true
  | .str _ => true
  | .tuple ds => noLs ds
  | _ => false
noncomputable def noLs : List PyData → Bool
  | [] => true
  | d :: ds => noL d && noLs ds
end
theorem reads_noL2 {h : Heap} : (∀ v d as, Reads h v d as → noL d = true → as = []) ∧ (∀ vs ds as, ReadsAll h vs ds as → noLs ds = true → as = []) := by
  have c9 : ∀ {d : PyData} {ds : List PyData} {as bs : List Addr}, (noL d = true → as = []) → (noLs ds = true → bs = []) → noLs (d :: ds) = true → as ++ bs = [] := fun i j e => by
    unfold noLs at e
    rw [Bool.and_eq_true] at e
    rw [i e.1, j e.2]; rfl
  exact ⟨fun _ _ _ r => Reads.rec (motive_1 := fun _ d as _ => noL d = true → as = []) (motive_2 := fun _ ds as _ => noLs ds = true → as = []) (fun _ => rfl) (fun _ _ => rfl) (fun _ _ _ => rfl) (fun _ _ _ => rfl) (fun _ _ _ _ _ e => by unfold noL at e; cases e) (fun _ _ _ _ i e => i (by unfold noL at e; exact e)) (fun _ _ _ _ _ _ _ e => by unfold noL at e; cases e) (fun _ => rfl) (fun _ _ i j => c9 i j) r,
    fun _ _ _ r => ReadsAll.rec (motive_1 := fun _ d as _ => noL d = true → as = []) (motive_2 := fun _ ds as _ => noLs ds = true → as = []) (fun _ => rfl) (fun _ _ => rfl) (fun _ _ _ => rfl) (fun _ _ _ => rfl) (fun _ _ _ _ _ e => by unfold noL at e; cases e) (fun _ _ _ _ i e => i (by unfold noL at e; exact e)) (fun _ _ _ _ _ _ _ e => by unfold noL at e; cases e) (fun _ => rfl) (fun _ _ i j => c9 i j) r⟩
theorem reads_noL {h : Heap} {v d as} (r : Reads h v d as) (e : noL d = true) : as = [] := reads_noL2.1 _ _ _ r e
theorem readsAll_noL {h : Heap} {vs ds as} (r : ReadsAll h vs ds as) (e : noLs ds = true) : as = [] := reads_noL2.2 _ _ _ r e
theorem Rep.noL' {U U' : Addr → Prop} {h : Heap} {v : Value} {d : PyData} (x : Rep U h v d) (e : noL d = true) : Rep U' h v d := by
  obtain ⟨as, r, _⟩ := x
  have := reads_noL r e
  subst this
  exact ⟨[], r, fun _ m => nomatch m⟩
theorem RepAll.noL' {U U' : Addr → Prop} {h : Heap} {vs : List Value} {ds : List PyData} (x : RepAll U h vs ds) (e : noLs ds = true) : RepAll U' h vs ds := by
  obtain ⟨as, r, _⟩ := x
  have := readsAll_noL r e
  subst this
  exact ⟨[], r, fun _ m => nomatch m⟩

noncomputable def scalarD : PyData → Bool
  | .none => true
  | .str _ => true
  | _ => false
theorem Rep.scalar {U : Addr → Prop} {h : Heap} {v : Value} {d : PyData} (x : Rep U h v d) (e : scalarD d = true) : v = .none ∨ ∃ y t, v = .str y t := by
  cases d <;> try (cases e; done)
  · exact .inl x.noneInv
  · exact .inr (let ⟨t, q⟩ := x.strInv; ⟨_, t, q⟩)
theorem swapsWith_sub {e o i : Expr} {p : Pos} {line : Nat} {env : Env} : swapsWith e (some (.Subscript o i p)) line env = pure false := by
  cases e <;> rfl

/-! the statements' hooks -/
noncomputable def hdrOf (sc : Scope) (ρ : Rho) (x : Str) : Option (List PyData) := match look sc ρ x with
  | some (.hdr ps) => some ps
  | _ => none
theorem hdrOf_eq {sc : Scope} {ρ : Rho} {x : Str} {ps : List PyData} (q : hdrOf sc ρ x = some ps) : look sc ρ x = some (.hdr ps) := by
  unfold hdrOf at q
  cases hl : look sc ρ x with
  | none => rw [hl] at q; exact noSome q
  | some e =>
    rw [hl] at q
    cases e with
    | hdr ps => cases q; rfl
    | _ => exact noSome q
noncomputable def subOf : Expr → Option (Expr × Expr)
  | .Subscript o i _ => some (o, i)
  | _ => none
theorem subOf_eq {e o i : Expr} (q : subOf e = some (o, i)) : ∃ p, e = .Subscript o i p := by
  cases e with
  | Subscript a b p => cases q; exact ⟨_, rfl⟩
  | _ => exact noSome q
/-- x._headers -/
noncomputable def fieldOf : Expr → Option Str
  | .Attribute o m _ => if m == ("_headers" : Str) then nameOfE o else none
  | _ => none
theorem fieldOf_eq {e : Expr} {x : Str} (q : fieldOf e = some x) : ∃ p p', e = .Attribute (.Name x p) "_headers" p' := by
  cases e with
  | Attribute o m p' =>
    replace q := iteS q
    have hm := beq_iff_eq.mp q.1
    obtain ⟨p, hq⟩ := nameOfE_eq q.2
    subst hm hq
    exact ⟨_, _, rfl⟩
  | _ => exact noSome q
noncomputable def allOf : Expr → Bool
  | .Slice a b c _ => a.isNone && b.isNone && c.isNone
  | _ => false
theorem allOf_eq {e : Expr} (q : allOf e = true) : ∃ p, e = .Slice none none none p := by
  cases e with
  | Slice a b c p =>
    cases a with
    | some _ => cases q
    | none =>
      cases b with
      | some _ => cases q
      | none =>
        cases c with
        | some _ => cases q
        | none => exact ⟨_, rfl⟩
  | _ => cases (show false = true from q)
noncomputable def listD : PyData → Option (List PyData)
  | .list es => some es
  | _ => none
theorem listD_eq {d : PyData} {es : List PyData} (q : listD d = some es) : d = .list es := by
  cases d with
  | list ds => cases q; rfl
  | _ => exact noSome q
section
variable (T : HT) (r : Md → Scope → Rho → Expr → Option PyData) (sc : Scope) (ρ : Rho)
noncomputable def hkDel (x : Str) (i : Expr) : Option (Fl × Rho) := (hdrOf sc ρ x).bind fun ps => (r .value sc ρ i).bind fun d => (T.wr "__delitem__" ps [d]).bind fun q => some (.next, ρ.set x (.hdr q.1))
noncomputable def hkSet (x : Str) (i e : Expr) : Option (Fl × Rho) := if isComp e then none else (hdrOf sc ρ x).bind fun ps => (r .value sc ρ e).bind fun v => (r .value sc ρ i).bind fun d => (T.wr "__setitem__" ps [d, v]).bind fun q => some (.next, ρ.set x (.hdr q.1))
noncomputable def hkMeth (x : Str) (c : CallP) : Option (Fl × Rho) := if (c.2.2.1.endLine == c.2.2.2.2.2.line) && decide (c.2.2.2.1.length < 20) then
  (hdrOf sc ρ x).bind fun ps => (evL r sc ρ c.2.2.2.1).bind fun ds => (T.wr c.2.1 ps ds).bind fun q => if scalarD q.2 then some (.next, ρ.set x (.hdr q.1)) else none else none
noncomputable def hkCnv (e : Expr) : Option (Fl × Rho) := (hkE T r sc ρ e).bind fun d => if scalarD d then some (.next, ρ) else none
noncomputable def hkBoth (y x : Str) (c : CallP) : Option (Fl × Rho) := if (c.2.2.1.endLine == c.2.2.2.2.2.line) && decide (c.2.2.2.1.length < 20) && own1 sc y && !(y == x) then
  (hdrOf sc ρ x).bind fun ps => (evL r sc ρ c.2.2.2.1).bind fun ds => (T.wr c.2.1 ps ds).bind fun q => some (.next, (ρ.set x (.hdr q.1)).set y (.val q.2)) else none
noncomputable def hkApp (x : Str) (c : CallP) : Option (Fl × Rho) := (arg1 c.2.2.2.1).bind fun a => if c.2.2.2.2.1.isEmpty && (c.2.2.1.endLine == c.2.2.2.2.2.line) && (c.2.1 == ("append" : Str)) && !isStar a then
  (hdrOf sc ρ x).bind fun ps => (r .value sc ρ a).bind fun d => if ps.length < top then some (.next, ρ.set x (.hdr (ps ++ [d]))) else none else none
noncomputable def hkAll (x : Str) (e : Expr) : Option (Fl × Rho) := (hdrOf sc ρ x).bind fun ps => (r .value sc (ρ.set x (.slf ps)) e).bind fun d => (listD d).bind fun es => if noLs es && decide (ps.length + es.length ≤ top) then some (.next, ρ.set x (.hdr es)) else none
noncomputable def hkSE (e : Expr) : Option (Fl × Rho) := (callOf e).bind fun c => match nameOfE c.1 with
  | some x => if c.2.2.2.2.1.isEmpty then hkMeth T r sc ρ x c else hkCnv T r sc ρ e
  | none => (fieldOf c.1).bind fun x => hkApp r sc ρ x c
noncomputable def hkSA (t e : Expr) : Option (Fl × Rho) := match subOf t with
  | some oi => (match nameOfE oi.1 with
    | some x => hkSet T r sc ρ x oi.2 e
    | none => (fieldOf oi.1).bind fun x => if allOf oi.2 then hkAll r sc ρ x e else none)
  | none => (nameOfE t).bind fun y => (callOf e).bind fun c => (nameOfE c.1).bind fun x => if c.2.2.2.2.1.isEmpty then hkBoth T r sc ρ y x c else none
end
noncomputable def hkS (T : HT) : SHook := fun r sc ρ st => match st with
  | .Delete ts _ => (arg1 ts).bind fun t => (subOf t).bind fun oi => (nameOfE oi.1).bind fun x => hkDel T r sc ρ x oi.2
  | .Assign ts e _ => (arg1 ts).bind fun t => hkSA T r sc ρ t e
  | .Expr e _ => hkSE T r sc ρ e
  | _ => none

section
variable {prog : Program} {w : World} {A : Around} {E : Value → Shared → Prop} {s : Shared} {env : Env} {C : Cls} {H0 : Heap} {P U : Addr → Prop} {B : Addr → Option Obj} {own : Str → Bool} {X : List (Str × Addr)} {ρ ρ' : Rho} {h h' : Heap} {k : Nat} {mg mb : Str → Option Value} {K : Frag} {T : HT}
variable {r : Md → Scope → Rho → Expr → Option PyData}

/-- a call that may change the pairs of x, made somewhat later -/
theorem wr_use (CL : ClOk prog w mg mb K H0 C.addr k T) (rm : Room A k) (t : St C H0 P B env own X ρ h) {x m : Str} {ps ps' args : List PyData} {d : PyData} (hx : look env.scope ρ x = some (.hdr ps)) (q : T.wr m ps args = some (ps', d)) :
    ∃ f y a, MethAt K H0 C.addr m f ∧ VarHas h env x (.ref y) ∧ HdrAt C.addr h y a ∧ Stays H0 h ∧
      ∀ (s₁ : Shared) (vargs : List Value), Stays h s₁.heap → RepAll (UU P env X) s₁.heap vargs args →
        wpAny (model prog w) A (call (.ref f) (.ref y :: vargs)) (fun r s' => ∃ h' tk, s' = { s₁ with heap := h', toks := tk } ∧ St C H0 P B env own X (ρ.set x (.hdr ps')) h' ∧ Rep (UU P env X) h' r d) NoE s₁ := by
  obtain ⟨v, hv, y, dx, hs, tk, a, vs, n, ⟨rfl, ok⟩, e2, e3, e4, e5, rr⟩ := t.vars x _ hx
  obtain ⟨f, M, hf⟩ := CL.wr _ _ _ _ _ q
  obtain ⟨hb, _⟩ := t.xs _ e4
  have hy : HdrAt C.addr h y a := ⟨dx, hs, tk, t.base _ _ e2, t.base _ _ e3⟩
  have h0 : Stays H0 h := fun b o e => t.base b o (t.h0 b o e)
  refine ⟨f, y, a, M, hv, hy, h0, fun s₁ vargs st₁ ra => ?_⟩
  have t1 := t.stays st₁
  refine wpAny_mono (hf A s₁ (UU P env X) y a vs vargs n rm (h0.trans st₁) (hy.stays st₁) ?_ (st₁ _ _ e5) (rr.stays st₁) (fun z => z.2.2 _ e4 rfl) t1.freshU ra) (fun r s' ⟨h', tk', vs', n', es, kp, ho, r1, r2⟩ => ?_) fun _ _ z => z
  · cases z : H0.get? a with
    | none => rfl
    | some o => have := t.h0 a o z; rw [hb] at this; cases this
  · exact ⟨h', tk', es, (t1.wrHdr hx (hv.stays st₁) e4 kp ho r1).1, r2⟩

theorem exPost_next {h' : Heap} {tk : Nat} (t : St C H0 P B env own X ρ h') : ExPost C H0 P B env own s .next ρ .next { s with heap := h', toks := tk } := ⟨B, X, h', tk, rfl, fun _ _ z => z, t, trivial⟩

inductive AsSlf (C : Cls) (H0 : Heap) (P : Addr → Prop) (env : Env) (X : List (Str × Addr)) (ρ : Rho) (h : Heap) (x : Str) (ps : List PyData) : Prop
  | mk (y a : Addr) (vs : List Value) (n : Nat) (hv : VarHas h env x (.ref y)) (hy : HdrAt C.addr h y a) (e4 : (x, a) ∈ X) (e5 : h.get? a = some (lst vs n)) (rr : RepAll (UU P env X) h vs ps) (c : Cx C H0 (fun b => UU P env X b ∨ b = a) env (ρ.set x (.slf ps)) h)
/-- the frame with x's pairs taken as plain data -/
theorem St.asSlf (t : St C H0 P B env own X ρ h) {x : Str} {ps : List PyData} (hx : look env.scope ρ x = some (.hdr ps)) : AsSlf C H0 P env X ρ h x ps := by
  obtain ⟨v, hv, y, dx, hs, tk, a, vs, n, ⟨rfl, ok⟩, e2, e3, e4, e5, rr⟩ := t.vars x _ hx
  have hy : HdrAt C.addr h y a := ⟨dx, hs, tk, t.base _ _ e2, t.base _ _ e3⟩
  refine ⟨y, a, vs, n, hv, hy, e4, e5, rr, { t.cx with fresh := fun b e => .inl (t.freshU b e), vars := fun z ent e => ?_ }⟩
  rcases look_set e with ⟨rfl, rfl⟩ | ⟨hz, e⟩
  · exact ⟨_, hv, y, a, rfl, hy, .list ⟨_, e5, rfl, n, rfl⟩ (rr.mono fun b u => .inl u) (.inr rfl)⟩
  · obtain ⟨u, hu, he⟩ := t.cx.vars z ent e
    refine ⟨u, hu, ?_⟩
    cases ent with
    | val d => exact Rep.mono (fun b u => .inl u) he
    | own ds => obtain ⟨b, ws, e1, e2, e3⟩ := he; exact ⟨b, ws, e1, e2, e3.mono fun b u => .inl u⟩
    | slf ds => obtain ⟨y', b, e1, e2, e3⟩ := he; exact ⟨y', b, e1, e2, e3.mono fun b u => .inl u⟩
    | hdr ds => obtain ⟨y', b, ws, e1, e2, e3, e4⟩ := he; exact ⟨y', b, ws, e1, e2, e3, e4.mono fun b u => .inl u⟩

section
variable {fl : Fl} (CL : ClOk prog w mg mb K H0 C.addr k T) (S : Snd prog w H0 C k r) (rm : Room A k) (t : St C H0 P B env (own1 env.scope) X ρ s.heap)
include CL S rm t
theorem hkDel_ok {x : Str} {i : Expr} {xp p : Pos} {pos : Pos} (q : hkDel T r env.scope ρ x i = some (fl, ρ')) : wpAny (model prog w) A (exec (.Delete [.Subscript (.Name x xp) i p] pos) env) (ExPost C H0 P B env (own1 env.scope) s fl ρ') NoE s := by
  replace q := Option.bind_eq_some_iff.mp q
  obtain ⟨ps, hx, q⟩ := q
  have hx := hdrOf_eq hx
  replace q := Option.bind_eq_some_iff.mp q
  obtain ⟨d, hd, q⟩ := q
  replace q := Option.bind_eq_some_iff.mp q
  obtain ⟨⟨ps', d'⟩, hw, q⟩ := q
  cases q
  obtain ⟨f, y, a, M, hv, hy, h0, hf⟩ := wr_use CL rm t hx hw
  refine wpAny_Delete (wpAny_deleteEach_cons (wpAny_delete_Subscript (look_load t.fn hx hv ?_)))
  refine thenV ((S _ _ _ _ _ _ _ _ rfl t.cx rm).1 hd) fun vi h₁ tk₁ st₁ ri => ?_
  refine delItem_hdr (s := { s with heap := h₁, toks := tk₁ }) CL.cls M (h0.trans st₁) (hy.stays st₁) ?_
  refine wpAny_mono (hf { s with heap := h₁, toks := tk₁ } [vi] st₁ (.cons ri .nil)) (fun r s' zP => ?_) fun _ _ z => z
  obtain ⟨h', tk', es, t', _⟩ := zP
  subst es
  exact wpAny_deleteEach_nil (exPost_next t')

theorem hkSet_ok {x : Str} {i e : Expr} {xp p : Pos} {pos : Pos} (q : hkSet T r env.scope ρ x i e = some (fl, ρ')) : wpAny (model prog w) A (exec (.Assign [.Subscript (.Name x xp) i p] e pos) env) (ExPost C H0 P B env (own1 env.scope) s fl ρ') NoE s := by
  unfold hkSet at q
  split at q
  · cases q
  · rename_i hc
    replace q := Option.bind_eq_some_iff.mp q
    obtain ⟨ps, hx, q⟩ := q
    have hx := hdrOf_eq hx
    replace q := Option.bind_eq_some_iff.mp q
    obtain ⟨v, hv', q⟩ := q
    replace q := Option.bind_eq_some_iff.mp q
    obtain ⟨d, hd, q⟩ := q
    replace q := Option.bind_eq_some_iff.mp q
    obtain ⟨⟨ps', d'⟩, hw, q⟩ := q
    cases q
    obtain ⟨f, y, a, M, hv, hy, h0, hf⟩ := wr_use CL rm t hx hw
    refine wpAny_Assign_Subscript (thenV ((S _ _ _ _ _ _ _ _ rfl t.cx rm).1 hv') fun ve h₁ tk₁ st₁ re => ?_) (swapsWith_other (by simpa using hc))
    refine look_load (s := { s with heap := h₁, toks := tk₁ }) t.fn hx (hv.stays st₁) ?_
    refine thenV ((S _ _ _ _ _ _ { s with heap := h₁, toks := tk₁ } _ rfl (t.stays st₁).cx rm).1 hd) fun vi h₂ tk₂ st₂ ri => ?_
    refine setItem_hdr (s := { s with heap := h₂, toks := tk₂ }) CL.cls M (h0.trans (st₁.trans st₂)) (hy.stays (st₁.trans st₂)) ?_
    refine wpAny_mono (hf { s with heap := h₂, toks := tk₂ } [vi, ve] (st₁.trans st₂) (.cons ri (.cons (re.stays st₂) .nil))) (fun r s' zP => ?_) fun _ _ z => z
    obtain ⟨h', tk', es, t', _⟩ := zP
    subst es
    exact exPost_next t'

theorem hkMeth_ok {x m : Str} {xp ap cp pos : Pos} {args : List Expr} (q : hkMeth T r env.scope ρ x (.Name x xp, m, ap, args, [], cp) = some (fl, ρ')) : wpAny (model prog w) A (exec (.Expr (.Call (.Attribute (.Name x xp) m ap) args [] cp) pos) env) (ExPost C H0 P B env (own1 env.scope) s fl ρ') NoE s := by
  unfold hkMeth at q
  replace q := iteS q
  obtain ⟨hl, q⟩ := q
  rw [Bool.and_eq_true, decide_eq_true_eq] at hl
  replace q := Option.bind_eq_some_iff.mp q
  obtain ⟨ps, hx, q⟩ := q
  have hx := hdrOf_eq hx
  replace q := Option.bind_eq_some_iff.mp q
  obtain ⟨ds, hds, q⟩ := q
  replace q := Option.bind_eq_some_iff.mp q
  obtain ⟨⟨ps', d'⟩, hw, q⟩ := q
  split at q
  rotate_left
  · cases q
  rename_i hsc
  cases q
  obtain ⟨f, y, a, M, hv, hy, h0, hf⟩ := wr_use CL rm t hx hw
  refine wpAny_Expr (meth_call CL.cls rfl (form_L hds hl.2) hl.1 (look_load t.fn hx hv ⟨y, a, f, rfl, h0, hy, M, ?_⟩)) (inter_false t.fn) rfl
  refine wpAny_mono (evalArgs_L S rm _ ds s t.cx hds) (fun x s₁ zP => ?_) fun _ _ z => z
  obtain ⟨ek, h₁, tk₁, e₁, st₁, rr⟩ := zP
  subst e₁
  refine ⟨h0.trans st₁, ?_⟩
  rw [ek]
  refine wpAny_mono (hf _ x.pos st₁ rr) (fun r s' zP => ?_) fun _ _ z => z
  obtain ⟨h', tk', es, t', rd⟩ := zP
  subst es
  rcases rd.scalar hsc with rfl | ⟨y', t9, rfl⟩
  · exact exPost_next t'
  · exact exPost_next t'

theorem hkCnv_ok {f : Expr} {args : List Expr} {kws : List Keyword} {cp : Pos} {pos : Pos} (q : hkCnv T r env.scope ρ (.Call f args kws cp) = some (fl, ρ')) : wpAny (model prog w) A (exec (.Expr (.Call f args kws cp) pos) env) (ExPost C H0 P B env (own1 env.scope) s fl ρ') NoE s := by
  replace q := Option.bind_eq_some_iff.mp q
  obtain ⟨d, hd, q⟩ := q
  split at q
  rotate_left
  · cases q
  rename_i hsc
  cases q
  refine wpAny_Expr (wpAny_mono (hkE_ok (fn := fun _ _ => none) CL r S _ _ d _ A s _ hd t.cx rm) (fun v s' zP => ?_) fun _ _ z => z) (inter_false t.fn) rfl
  obtain ⟨h', tk', es, st', rd⟩ := zP
  subst es
  rcases rd.scalar hsc with rfl | ⟨y', t9, rfl⟩
  · exact exPost_next (t.stays st')
  · exact exPost_next (t.stays st')

theorem hkBoth_ok {x y m : Str} {xp yp ap cp pos : Pos} {args : List Expr} (q : hkBoth T r env.scope ρ y x (.Name x xp, m, ap, args, [], cp) = some (fl, ρ')) : wpAny (model prog w) A (exec (.Assign [.Name y yp] (.Call (.Attribute (.Name x xp) m ap) args [] cp) pos) env) (ExPost C H0 P B env (own1 env.scope) s fl ρ') NoE s := by
  unfold hkBoth at q
  replace q := iteS q
  obtain ⟨hl, q⟩ := q
  simp only [Bool.and_eq_true, decide_eq_true_eq, Bool.not_eq_true'] at hl
  replace q := Option.bind_eq_some_iff.mp q
  obtain ⟨ps, hx, q⟩ := q
  have hx := hdrOf_eq hx
  replace q := Option.bind_eq_some_iff.mp q
  obtain ⟨ds, hds, q⟩ := q
  replace q := Option.bind_eq_some_iff.mp q
  obtain ⟨⟨ps', d'⟩, hw, q⟩ := q
  cases q
  obtain ⟨f, y, a, M, hv, hy, h0, hf⟩ := wr_use CL rm t hx hw
  refine wpAny_Assign_Name (meth_call CL.cls rfl (form_L hds hl.1.1.2) hl.1.1.1 (look_load t.fn hx hv ⟨y, a, f, rfl, h0, hy, M, ?_⟩)) rfl
  refine wpAny_mono (evalArgs_L S rm _ ds s t.cx hds) (fun x s₁ zP => ?_) fun _ _ z => z
  obtain ⟨ek, h₁, tk₁, e₁, st₁, rr⟩ := zP
  subst e₁
  refine ⟨h0.trans st₁, ?_⟩
  rw [ek]
  refine wpAny_mono (hf _ x.pos st₁ rr) (fun r s' zP => ?_) fun _ _ z => z
  obtain ⟨h', tk', es, t', rd⟩ := zP
  subst es
  refine wpAny_mono (store_val (s := { s with heap := h', toks := tk' }) t' hl.1.2 rd) (fun _ s' zP => ?_) fun _ _ z => z
  obtain ⟨h2, tk2, e2, _, _, t2, _⟩ := zP
  subst e2
  exact ⟨B, _, h2, tk2, rfl, fun _ _ z => z, t2, trivial⟩

theorem hkApp_ok {x m : Str} {xp hp ap cp pos : Pos} {args : List Expr} {kws : List Keyword} (q : hkApp r env.scope ρ x (.Attribute (.Name x xp) "_headers" hp, m, ap, args, kws, cp) = some (fl, ρ')) : wpAny (model prog w) A (exec (.Expr (.Call (.Attribute (.Attribute (.Name x xp) "_headers" hp) m ap) args kws cp) pos) env) (ExPost C H0 P B env (own1 env.scope) s fl ρ') NoE s := by
  unfold hkApp at q
  replace q := Option.bind_eq_some_iff.mp q
  obtain ⟨aE, ha, q⟩ := q
  have ha' : args = [aE] := arg1_eq ha
  subst ha'
  replace q := iteS q
  obtain ⟨hl, q⟩ := q
  simp only [Bool.and_eq_true, beq_iff_eq, Bool.not_eq_true', List.isEmpty_iff] at hl
  obtain ⟨⟨⟨hk, hline⟩, hm⟩, hs⟩ := hl
  subst hk hm
  replace q := Option.bind_eq_some_iff.mp q
  obtain ⟨ps, hx, q⟩ := q
  have hx := hdrOf_eq hx
  replace q := Option.bind_eq_some_iff.mp q
  obtain ⟨d, hd, q⟩ := q
  replace q := iteS q
  obtain ⟨hlen, q⟩ := q
  cases q
  obtain ⟨y, a, vs, n, hv, hy, hX, ha, rr, _⟩ := t.asSlf hx
  have h0 : Stays H0 s.heap := fun b o e => t.base b o (t.h0 b o e)
  have hbt : backTo cp (starEach [aE] env) = [(false, eval aE env)] := by rw [star_cons hs]; rfl
  refine wpAny_Expr (wpAny_Call_method_lateS rfl (by rw [hbt]; rfl) (beq_iff_eq.mpr hline) (Attribute_name (look_load t.fn hx hv (field_read CL h0 hy ?_)))) (inter_false t.fn) rfl
  rw [hbt]
  refine ⟨"list", "list.append", PySem.F.plainAttrs_list, PySem.F.slot_list_append, PySem.F.type_list_append, ⟨_, ha, rfl⟩, fun a' e' => by cases e'; exact ⟨_, ha, rfl⟩, PySem.P.append_list ?_⟩
  refine thenV (s := { s with toks := s.toks + 1 }) ((S _ _ _ _ _ _ { s with toks := s.toks + 1 } _ rfl t.cx rm).1 hd) fun v' h' tk st rp => ?_
  obtain ⟨n', hn'⟩ := upd_lst (st _ _ ha) (fun xs => xs.push v')
  refine ⟨vs.toArray, n, ?_, st _ _ ha, ?_⟩
  · rw [List.size_toArray, rr.length]; exact Nat.le_trans (Nat.le_of_lt hlen) top_le
  · have r' : RepAll (UU P env X) h' (vs.toArray.push v').toList (ps ++ [d]) := by simpa using (rr.stays st).append (.cons rp .nil)
    have hsb := Heap.SameBut.update h' a (Obj.mapSeq fun xs => xs.push v')
    have lv := (t.stays st).mutX hX hsb hn'
    refine exPost_next (s := s) (tk := tk) ((t.stays st).wrHdr hx (hv.stays st) hX (fun b o q e => (hsb.2 b q).trans e) hn' (lv.1.all r')).1

theorem hkAll_ok {x : Str} {e : Expr} {xp hp sp p pos : Pos} (q : hkAll r env.scope ρ x e = some (fl, ρ')) : wpAny (model prog w) A (exec (.Assign [.Subscript (.Attribute (.Name x xp) "_headers" hp) (.Slice none none none sp) p] e pos) env) (ExPost C H0 P B env (own1 env.scope) s fl ρ') NoE s := by
  unfold hkAll at q
  replace q := Option.bind_eq_some_iff.mp q
  obtain ⟨ps, hx, q⟩ := q
  have hx := hdrOf_eq hx
  replace q := Option.bind_eq_some_iff.mp q
  obtain ⟨d, hd, q⟩ := q
  replace q := Option.bind_eq_some_iff.mp q
  obtain ⟨es, he, q⟩ := q
  have he := listD_eq he
  subst he
  replace q := iteS q
  obtain ⟨hq, q⟩ := q
  rw [Bool.and_eq_true, decide_eq_true_eq] at hq
  cases q
  obtain ⟨y, a, vs, n, hv, hy, hX, ha, rr, c'⟩ := t.asSlf hx
  have h0 : Stays H0 s.heap := fun b o e => t.base b o (t.h0 b o e)
  refine wpAny_Assign_Subscript (thenV ((S _ _ _ _ _ _ _ _ rfl c' rm).1 hd) fun ve h₁ tk₁ st₁ re => ?_) swapsWith_sub
  refine Attribute_name (look_load (s := { s with heap := h₁, toks := tk₁ }) t.fn hx (hv.stays st₁) (field_read (s := { s with heap := h₁, toks := tk₁ }) CL (h0.trans st₁) (hy.stays st₁) ?_))
  refine wpAny_Slice ?_
  rw [evalPart_none]
  refine wpAny_pure (wpAny_pure (wpAny_pure ?_))
  obtain ⟨b, ws, rfl, hb, rw', _⟩ := re.listInv
  have st₂ : Stays h₁ (h₁.push { cls := .type "slice", data := .fields #[.none, .none, .none] }) := stays_push _ _
  refine setAll_lst (s := { s with heap := h₁.push { cls := .type "slice", data := .fields #[.none, .none, .none] }, toks := tk₁ + 1 }) (st₂ _ _ (st₁ _ _ ha)) (Heap.IsSliceOf.new ..) (isList_stays st₂ hb) ?_ fun h' n' hn' hs => ?_
  · rw [rr.length, rw'.length]; exact hq.2
  · have r1 : RepAll (UU P env X) (h₁.push { cls := .type "slice", data := .fields #[.none, .none, .none] }) ws es := (rw'.noL' hq.1).stays st₂
    have t1 := t.stays (st₁.trans st₂)
    have lv := t1.mutX hX hs hn'
    exact exPost_next (s := s) (tk := tk₁ + 1) (t1.wrHdr hx (hv.stays (st₁.trans st₂)) hX (fun b o q e => (hs.2 b q).trans e) hn' (lv.1.all r1)).1

theorem hkSE_ok {e : Expr} {pos : Pos} (q : hkSE T r env.scope ρ e = some (fl, ρ')) : wpAny (model prog w) A (exec (.Expr e pos) env) (ExPost C H0 P B env (own1 env.scope) s fl ρ') NoE s := by
  replace q := Option.bind_eq_some_iff.mp q
  obtain ⟨⟨o, m, ap, args, kws, cp⟩, hc, q⟩ := q
  have he := callOf_eq hc
  clear hc
  subst he
  split at q
  · rename_i x hx
    obtain ⟨xp, hxp⟩ := nameOfE_eq hx
    have ho : o = .Name x xp := hxp
    subst ho
    split at q
    · rename_i hk
      have hk' : kws = [] := List.isEmpty_iff.mp hk
      subst hk'
      exact hkMeth_ok CL S rm t q
    · exact hkCnv_ok CL S rm t q
  · replace q := Option.bind_eq_some_iff.mp q
    obtain ⟨x, hx, q⟩ := q
    obtain ⟨p, p', hp⟩ := fieldOf_eq hx
    have ho : o = _ := hp
    subst ho
    exact hkApp_ok CL S rm t q

theorem hkSA_ok {tg e : Expr} {pos : Pos} (q : hkSA T r env.scope ρ tg e = some (fl, ρ')) : wpAny (model prog w) A (exec (.Assign [tg] e pos) env) (ExPost C H0 P B env (own1 env.scope) s fl ρ') NoE s := by
  unfold hkSA at q
  split at q
  · rename_i oi hoi
    obtain ⟨o, i⟩ := oi
    obtain ⟨p, hp⟩ := subOf_eq hoi
    subst hp
    split at q
    · rename_i x hx
      obtain ⟨xp, hxp⟩ := nameOfE_eq hx
      have ho : o = .Name x xp := hxp
      subst ho
      exact hkSet_ok CL S rm t q
    · replace q := Option.bind_eq_some_iff.mp q
      obtain ⟨x, hx, q⟩ := q
      obtain ⟨p1, p', hp⟩ := fieldOf_eq hx
      have ho : o = _ := hp
      subst ho
      replace q := iteS q
      obtain ⟨ha, q⟩ := q
      obtain ⟨sp, hs⟩ := allOf_eq ha
      have hi : i = _ := hs
      subst hi
      exact hkAll_ok CL S rm t q
  · replace q := Option.bind_eq_some_iff.mp q
    obtain ⟨y, hy, q⟩ := q
    obtain ⟨yp, hyp⟩ := nameOfE_eq hy
    subst hyp
    replace q := Option.bind_eq_some_iff.mp q
    obtain ⟨⟨o, m, ap, args, kws, cp⟩, hc, q⟩ := q
    have he := callOf_eq hc
    subst he
    replace q := Option.bind_eq_some_iff.mp q
    obtain ⟨x, hx, q⟩ := q
    obtain ⟨xp, hxp⟩ := nameOfE_eq hx
    have ho : o = .Name x xp := hxp
    subst ho
    replace q := iteS q
    obtain ⟨hk, q⟩ := q
    have hk' : kws = [] := List.isEmpty_iff.mp hk
    subst hk'
    exact hkBoth_ok CL S rm t q
end

theorem hkS_ok (CL : ClOk prog w mg mb K H0 C.addr k T) : StmtOk prog w C H0 k (hkS T) := by
  intro r S _ ρ ρ' st fl env A s P B X q t rm
  unfold hkS at q
  split at q
  · replace q := Option.bind_eq_some_iff.mp q
    obtain ⟨tg, ht, q⟩ := q
    have ht := arg1_eq ht
    subst ht
    replace q := Option.bind_eq_some_iff.mp q
    obtain ⟨⟨o, i⟩, hoi, q⟩ := q
    obtain ⟨p, hp⟩ := subOf_eq hoi
    subst hp
    replace q := Option.bind_eq_some_iff.mp q
    obtain ⟨x, hx, q⟩ := q
    obtain ⟨xp, hxp⟩ := nameOfE_eq hx
    have ho : o = .Name x xp := hxp
    subst ho
    exact hkDel_ok CL S rm t q
  · replace q := Option.bind_eq_some_iff.mp q
    obtain ⟨tg, ht, q⟩ := q
    have ht := arg1_eq ht
    subst ht
    exact hkSA_ok CL S rm t q
  · exact hkSE_ok CL S rm t q
  · cases q
end
end Mine

namespace Mine
open PySem PySem.Calls PySem.Spec PyProof.Rows PySem.W PySem.SeqAt

/-! a method's contract from the evaluation of its body -/
noncomputable def hdrL : Option Ent → Option (List PyData)
  | some (.hdr ps) => some ps
  | _ => none
noncomputable def noneVal (xs : List Str) : List (Str × Value) := xs.map fun x => (x, Value.none)
noncomputable def noneEnt (xs : List Str) : Rho := xs.map fun x => (x, Ent.val .none)
/-- what a method's call binds: self, its arguments, and the names whose default is None -/
noncomputable def methBinds (y : Value) (xs ex : List Str) (vals : List Value) : List (Str × Value) := ("self", y) :: (xs.zip vals ++ noneVal ex)
noncomputable def methRho (e : Ent) (xs ex : List Str) (args : List PyData) : Rho := ("self", e) :: (rho0 xs args ++ noneEnt ex)

section
variable {prog : Program} {w : World} {A : Around} {s : Shared} {env : Env} {C : Cls} {H0 : Heap} {k : Nat} {mg mb : Str → Option Value} {K : Frag} {Ca : Addr}
variable {Φ : Tab} {srt : PyData → Option PyData} {mu : List Str} {N : Nat} {sh : SHook}

structure MethFn (H0 : Heap) (f : Addr) (xs ex : List Str) (body : List Stmt) (sc : Scope) : Prop where
  has : ∃ fd, FunAt H0 f fd ∧ plainFd fd ∧ fd.scope = sc ∧ fd.body = .stmts body ∧
    ∀ s : Shared, Stays H0 s.heap → ∀ self vals, vals.length = xs.length → BindsTo s fd ⟨self :: vals, []⟩ (methBinds self xs ex vals)
  dist : distinct (("self" : Str) :: (xs ++ ex)) = true
  own : (("self" : Str) :: (xs ++ ex)).all (own1 sc) = true
  vself : isVar (sc.names.lookup ("self" : Str)) = true

theorem bind_names (y : Value) {xs ex : List Str} {vals : List Value} (h : vals.length = xs.length) : (methBinds y xs ex vals).map (·.1) = ("self" : Str) :: (xs ++ ex) := by
  unfold methBinds noneVal
  rw [List.map_cons, List.map_append, List.map_map, List.map_fst_zip (Nat.le_of_eq h.symm)]
  simp [Function.comp_def]
theorem bind_all {p : Str → Bool} (y : Value) {xs ex : List Str} {vals : List Value} (h : vals.length = xs.length) (e : (("self" : Str) :: (xs ++ ex)).all p = true) : (methBinds y xs ex vals).all (fun z => p z.1) = true := by
  rw [← bind_names y h, List.all_map] at e
  exact e

theorem lookup_none_ent {ex : List Str} {x : Str} {ent : Ent} (e : (noneEnt ex).lookup x = some ent) : ent = .val .none ∧ (x, Value.none) ∈ noneVal ex := by
  have m := mem_of_lookup e
  unfold noneEnt at m
  obtain ⟨y, hy, q⟩ := List.mem_map.mp m
  cases q
  exact ⟨rfl, List.mem_map.mpr ⟨x, hy, rfl⟩⟩
theorem lookup_rho0 {U : Addr → Prop} {h : Heap} {x : Str} {ent : Ent} : ∀ {xs : List Str} {args : List PyData} {vs : List Value}, RepAll U h vs args → (rho0 xs args).lookup x = some ent → ∃ v d, ent = .val d ∧ Rep U h v d ∧ (x, v) ∈ xs.zip vs
  | [], _, _, _, e => by cases e
  | _ :: _, [], _, _, e => by cases e
  | _ :: _, _ :: _, [], r, _ => by have := r.length; simp at this
  | y :: xs, d :: args, v :: vs, r, e => by
    have e' : ((y, Ent.val d) :: rho0 xs args : Rho).lookup x = some ent := e
    rw [List.lookup_cons] at e'
    cases hxy : x == y with
    | true =>
      rw [hxy] at e'
      cases e'
      exact ⟨v, d, rfl, r.head, by rw [beq_iff_eq.mp hxy]; exact List.mem_cons_self⟩
    | false =>
      rw [hxy] at e'
      obtain ⟨v', d', h1, h2, h3⟩ := lookup_rho0 r.tail e'
      exact ⟨v', d', h1, h2, List.mem_cons_of_mem _ h3⟩

theorem methRho_has {U : Addr → Prop} {h : Heap} {x : Str} {e0 ent : Ent} {y : Value} {xs ex : List Str} {args : List PyData} {vs : List Value} (r : RepAll U h vs args) (e : (methRho e0 xs ex args).lookup x = some ent) :
    (x = "self" ∧ ent = e0) ∨ ∃ v d, ent = .val d ∧ Rep U h v d ∧ (x, v) ∈ methBinds y xs ex vs := by
  unfold methRho at e
  rw [List.lookup_cons] at e
  cases hxy : x == ("self" : Str) with
  | true =>
    rw [hxy] at e
    cases e
    exact .inl ⟨beq_iff_eq.mp hxy, rfl⟩
  | false =>
    rw [hxy] at e
    rcases lookup_append' e with e | ⟨_, e⟩
    · obtain ⟨v, d, h1, h2, h3⟩ := lookup_rho0 r e
      exact .inr ⟨v, d, h1, h2, List.mem_cons_of_mem _ (List.mem_append_left _ h3)⟩
    · obtain ⟨h1, h2⟩ := lookup_none_ent e
      exact .inr ⟨.none, .none, h1, .none', List.mem_cons_of_mem _ (List.mem_append_right _ h2)⟩

/-- the body's outcome -/
noncomputable def outOf (sc : Scope) : Option (Fl × Rho) → Option (PyData × Option (List PyData))
  | some (.ret d, ρ') => some (d, hdrL (look sc ρ' "self"))
  | some (.next, ρ') => some (.none, hdrL (look sc ρ' "self"))
  | _ => none
noncomputable def runM (r : Md → Scope → Rho → Expr → Option PyData) (sh : SHook) (mu : List Str) (n : Nat) (xs ex : List Str) (body : List Stmt) (sc : Scope) (e0 : Ent) (args : List PyData) : Option (PyData × Option (List PyData)) :=
  if args.length = xs.length then outOf sc (exs r mu sc sh n body (methRho e0 xs ex args)) else none

theorem meth_wr (PS : ∀ ok, SpecOk prog w mg H0 ⟨Ca, ok⟩ Φ k) (T : SortOk prog w srt) (G : Ground0 mg mb H0) (SH : ∀ ok, StmtOk prog w ⟨Ca, ok⟩ H0 k sh) {f : Addr} {xs ex : List Str} {body : List Stmt} {sc : Scope} (MF : MethFn H0 f xs ex body sc)
    {n : Nat} {ps ps' args : List PyData} {d : PyData} (q : runM (ev Φ srt N) sh mu n xs ex body sc (.hdr ps) args = some (d, some ps'))
    {A : Around} {s : Shared} {P : Addr → Prop} {y a : Addr} {vs vargs : List Value} {n0 : Nat} (rm : Room A (k + 1)) (hst : Stays H0 s.heap) (Hy : HdrAt Ca s.heap y a) (ha0 : H0.get? a = none) (ha : s.heap.get? a = some (lst vs n0))
    (rr : RepAll P s.heap vs ps) (hP : ¬ P a) (fr : ∀ b, s.heap.get? b = none → P b) (ra : RepAll P s.heap vargs args) :
    wpAny (model prog w) A (call (.ref f) (.ref y :: vargs)) (WrPost P s a ps' d) NoE s := by
  obtain ⟨fd, FA, hfd, rfl, hbody, hbind⟩ := MF.has
  unfold runM at q
  split at q
  rotate_left
  · cases q
  rename_i hlen
  have hvl : vargs.length = xs.length := ra.length.trans hlen
  obtain ⟨dx, hs, tk, hy1, hy2⟩ := Hy
  have hya : y ≠ a := fun z => by rw [z, ha] at hy1; cases hy1
  have hda : dx ≠ a := fun z => by rw [z, ha] at hy2; exact absurd (show Value.type "list" = Value.type "dict" from congrArg Obj.cls (Option.some.inj hy2)) (by decide)
  refine wpAny_call (entry_st (C := ⟨Ca, fun y' a' => y' = y ∧ a' = a⟩) (B0 := fun b => if b = a then none else s.heap.get? b) (P := fun b => P b ∨ b = a) (X0 := [("self", a)]) (ρ0 := methRho (.hdr ps) xs ex args) FA hst hbody hfd (by have := rm.depth; omega) G.nolimit
    (hbind s hst _ _ hvl) (by rw [bind_names _ hvl]; exact MF.dist) (bind_all _ hvl MF.own) ?_ ?_ (fun b e => .inl (fr b e)) ?_ ?_ ?_ ?_ ?_)
  · intro b o e
    have : b ≠ a := fun z => by rw [z, ha0] at e; cases e
    rw [if_neg this]; exact hst b o e
  · intro b o e
    split at e
    · cases e
    · exact e
  · intro p hp
    rcases List.mem_singleton.mp hp with rfl
    exact ⟨if_pos rfl, .inr rfl, vs, n0, ha⟩
  · intro p hp q hq _
    rcases List.mem_singleton.mp hp with rfl
    rcases List.mem_singleton.mp hq with rfl
    rfl
  · intro p hp q hq _
    rcases List.mem_singleton.mp hp with rfl
    rcases List.mem_singleton.mp hq with rfl
    rfl
  · intro x ent e
    have up : ∀ b, P b → (P b ∨ b = a) ∧ ∀ p ∈ [(("self" : Str), a)], p.2 ≠ b := fun b hb => ⟨.inl hb, fun p hp => by
      rcases List.mem_singleton.mp hp with rfl
      intro z
      have z' : a = b := z
      exact hP (z'.symm ▸ hb)⟩
    rcases methRho_has (y := .ref y) ra e with ⟨rfl, rfl⟩ | ⟨v, d', rfl, r1, r2⟩
    · exact ⟨.ref y, List.mem_cons_self, y, dx, hs, tk, a, vs, n0, ⟨rfl, rfl, rfl⟩, (by (try dsimp only); rw [if_neg hya]; exact hy1), (by (try dsimp only); rw [if_neg hda]; exact hy2), List.mem_singleton.mpr rfl, ha, rr.mono up⟩
    · exact ⟨v, r2, r1.mono up⟩
  · intro env h1 tk1 henv t st1 _
    have hS : env.scope = fd.scope := by rw [henv]; rfl
    have rm' : Room (A.deeper env) k := ⟨rm.handled, by have := rm.depth; show A.depth + 1 + k < _; omega, by have := rm.units; show A.units + 3 + 200 + 10 * k < _; omega⟩
    cases hx : exs (ev Φ srt N) mu fd.scope sh n body (methRho (.hdr ps) xs ex args) with
    | none => rw [hx] at q; cases q
    | some z =>
      obtain ⟨fl, ρ'⟩ := z
      rw [hx] at q
      have main := exs_ok (PS _) T G rm' (SH _) n body (methRho (.hdr ps) xs ex args) fl ρ' (fun b => if b = a then none else s.heap.get? b) [("self", a)] { s with heap := h1, toks := tk1 } (by rw [hS]; exact hx) t
      refine wpAny_mono main (fun g s' zP => ?_) fun _ _ z => z.elim
      obtain ⟨B2, X2, h2, tk2, e2, sub, t2, hfl⟩ := zP
      subst e2
      have fin : ∀ (r : Value), hdrL (look fd.scope ρ' "self") = some ps' → Rep (UU (fun b => P b ∨ b = a) env X2) h2 r d → WrPost P s a ps' d r { s with heap := h2, toks := tk2 } := fun r hl hr => by
        have hl' : look env.scope ρ' "self" = some (.hdr ps') := by
          rw [hS]
          unfold hdrL at hl
          split at hl
          · rename_i e; cases hl; exact e
          · cases hl
        have keep : ∀ b o, b ≠ a → s.heap.get? b = some o → h2.get? b = some o := fun b o hb e => t2.base b o (sub b o (by (try dsimp only); rw [if_neg hb]; exact e))
        obtain ⟨v, _, y', dx', hs', tk', a', vs', n', ⟨_, rfl, rfl⟩, _, _, hX, ho, r2⟩ := t2.vars _ _ hl'
        have down : ∀ b, UU (fun b => P b ∨ b = a') env X2 b → P b := fun b u => u.1.elim id fun z => absurd z.symm (u.2.2 _ hX)
        exact ⟨h2, tk2, vs', n', rfl, keep, ho, r2.mono down, hr.mono down⟩
      cases fl with
      | next =>
        cases g <;> try exact hfl.elim
        cases hd : hdrL (look fd.scope ρ' "self") with
        | none => rw [outOf, hd] at q; cases q
        | some ps2 =>
          rw [outOf, hd] at q
          cases q
          exact fin .none hd .none'
      | ret d' =>
        cases g <;> try exact hfl.elim
        cases hd : hdrL (look fd.scope ρ' "self") with
        | none => rw [outOf, hd] at q; cases q
        | some ps2 =>
          rw [outOf, hd] at q
          cases q
          exact fin _ hd hfl
      | brk => cases q
      | cont => cases q

theorem meth_rd (PS : ∀ ok, SpecOk prog w mg H0 ⟨Ca, ok⟩ Φ k) (T : SortOk prog w srt) (G : Ground0 mg mb H0) (SH : ∀ ok, StmtOk prog w ⟨Ca, ok⟩ H0 k sh) {f : Addr} {xs ex : List Str} {body : List Stmt} {sc : Scope} (MF : MethFn H0 f xs ex body sc)
    {n : Nat} {ps args : List PyData} {d : PyData} (q : (runM (ev Φ srt N) sh mu n xs ex body sc (.slf ps) args).map (·.1) = some d) (hd : noL d = true)
    {A : Around} {s : Shared} {U : Addr → Prop} {y a : Addr} {vs vargs : List Value} (rm : Room A (k + 1)) (hst : Stays H0 s.heap) (Hy : HdrAt Ca s.heap y a) (ha : s.heap.IsList a vs.toArray)
    (rr : RepAll U s.heap vs ps) (fr : ∀ b, s.heap.get? b = none → U b) (ra : RepAll U s.heap vargs args) :
    wpAny (model prog w) A (call (.ref f) (.ref y :: vargs)) (EvPost U s d) NoE s := by
  obtain ⟨fd, FA, hfd, rfl, hbody, hbind⟩ := MF.has
  unfold runM at q
  split at q
  rotate_left
  · cases q
  rename_i hlen
  have hvl : vargs.length = xs.length := ra.length.trans hlen
  obtain ⟨dx, hs, tk, hy1, hy2⟩ := Hy
  refine wpAny_call (entry_st (C := ⟨Ca, fun _ _ => True⟩) (B0 := fun b => s.heap.get? b) (P := fun b => U b ∨ b = a) (X0 := []) (ρ0 := methRho (.slf ps) xs ex args) FA hst hbody hfd (by have := rm.depth; omega) G.nolimit
    (hbind s hst _ _ hvl) (by rw [bind_names _ hvl]; exact MF.dist) (bind_all _ hvl MF.own) hst (fun _ _ z => z) (fun b e => .inl (fr b e)) (fun _ h => nomatch h) (fun _ h => nomatch h) (fun _ h => nomatch h) ?_ ?_)
  · intro x ent e
    have up : ∀ b, U b → (U b ∨ b = a) ∧ ∀ p ∈ ([] : List (Str × Addr)), p.2 ≠ b := fun b hb => ⟨.inl hb, fun p hp => nomatch hp⟩
    rcases methRho_has (y := .ref y) ra e with ⟨rfl, rfl⟩ | ⟨v, d', rfl, r1, r2⟩
    · exact ⟨.ref y, List.mem_cons_self, y, dx, hs, tk, a, ⟨rfl, trivial⟩, hy1, hy2, .list ha (rr.mono up) ⟨.inr rfl, fun p hp => nomatch hp⟩⟩
    · exact ⟨v, r2, r1.mono up⟩
  · intro env h1 tk1 henv t st1 _
    have hS : env.scope = fd.scope := by rw [henv]; rfl
    have rm' : Room (A.deeper env) k := ⟨rm.handled, by have := rm.depth; show A.depth + 1 + k < _; omega, by have := rm.units; show A.units + 3 + 200 + 10 * k < _; omega⟩
    cases hx : exs (ev Φ srt N) mu fd.scope sh n body (methRho (.slf ps) xs ex args) with
    | none => rw [hx] at q; cases q
    | some z =>
      obtain ⟨fl, ρ'⟩ := z
      rw [hx] at q
      have main := exs_ok (PS _) T G rm' (SH _) n body (methRho (.slf ps) xs ex args) fl ρ' (fun b => s.heap.get? b) [] { s with heap := h1, toks := tk1 } (by rw [hS]; exact hx) t
      refine wpAny_mono main (fun g s' zP => ?_) fun _ _ z => z.elim
      obtain ⟨B2, X2, h2, tk2, e2, sub, t2, hfl⟩ := zP
      subst e2
      have keep : Stays s.heap h2 := fun b o e => t2.base b o (sub b o e)
      cases fl with
      | next =>
        cases g <;> try exact hfl.elim
        cases q
        exact ⟨h2, tk2, rfl, keep, .none'⟩
      | ret d' =>
        cases g <;> try exact hfl.elim
        cases q
        exact ⟨h2, tk2, rfl, keep, Rep.noL' hfl hd⟩
      | brk => cases q
      | cont => cases q

/-- a method that gives back a copy of the pairs' list: def items(self): return self._headers[:] -/
theorem meth_items {Φ : Tab} {T : HT} {fn : Str → List PyData → Option PyData} (CL : ClOk prog w mg mb K H0 Ca k T) {f : Addr} {sc : Scope} {p1 p2 p3 p4 p5 : Pos} (MF : MethFn H0 f [] [] [.Return (some (.Subscript (.Attribute (.Name "self" p1) "_headers" p2) (.Slice none none none p3) p4)) p5] sc)
    {A : Around} {s : Shared} {U : Addr → Prop} {y a : Addr} {ps : List PyData} {vs : List Value} (rm : Room A (k + 1)) (hst : Stays H0 s.heap) (Hy : HdrAt Ca s.heap y a) (ha : s.heap.IsList a vs.toArray)
    (rr : RepAll U s.heap vs ps) (fr : ∀ b, s.heap.get? b = none → U b) (hlen : ps.length ≤ top) :
    wpAny (model prog w) A (call (.ref f) [.ref y]) (EvPost U s (.list ps)) NoE s := by
  obtain ⟨fd, FA, hfd, rfl, hbody, hbind⟩ := MF.has
  have Hy2 := Hy
  obtain ⟨dx, hs, tk, hy1, hy2⟩ := Hy2
  refine wpAny_call (entry_st (C := ⟨Ca, fun _ _ => True⟩) (B0 := fun b => s.heap.get? b) (P := fun _ => True) (X0 := []) (ρ0 := []) FA hst hbody hfd (by have := rm.depth; omega) CL.g.nolimit
    (hbind s hst (.ref y) [] rfl) (by rw [bind_names (xs := []) (ex := []) (vals := []) _ rfl]; exact MF.dist) (bind_all (xs := []) (ex := []) (vals := []) _ rfl MF.own) hst (fun _ _ z => z) (fun _ _ => trivial) (fun _ h => nomatch h) (fun _ h => nomatch h) (fun _ h => nomatch h) (fun _ _ h => nomatch h) ?_)
  intro env h1 tk1 henv t st1 vars
  have hv := vars _ List.mem_cons_self
  have hF : env.scope.kind = .function := t.fn
  refine wpAny_execs_cons (wpAny_Return_some (Subscript_ (Attribute_name (load_has hF (by decide +kernel) (by decide +kernel) hv (field_read (C := ⟨Ca, fun _ _ => True⟩) (s := { s with heap := h1, toks := tk1 }) CL (hst.trans st1) (Hy.stays st1) ?_)))))
  refine wpAny_Slice ?_
  rw [evalPart_none]
  refine wpAny_pure (wpAny_pure (wpAny_pure ?_))
  obtain ⟨es, q', z⟩ := cut_ok (prog := prog) (w := w) (A := A.deeper env) (s := { s with heap := h1, toks := tk1 }) (U := U) (value := .Attribute (.Name "self" p1) "_headers" p2) (slice := .Slice none none none p3) (d := .list ps) (e := .list (cutL ps none none)) (x := .ref a)
    ⟨a, vs, rfl, isList_stays st1 ha, rr.stays st1⟩ .none .none .none (by show (if ps.length ≤ top then some _ else none) = _; rw [if_pos hlen]) (tk1 + 1)
  cases q'
  refine wpAny_mono z (fun v s' y => ?_) fun _ _ y => y
  have y2 := EvPostF.plain (s := { s with heap := h1, toks := tk1 }) (fun b e => fr b (none_of_stays st1 e)) y
  have ec : cutL ps none none = ps := by unfold cutL; simp
  rw [ec] at y2
  exact evPost_from st1 y2
end
end Mine

namespace Mine
open PySem PySem.Calls PySem.Spec PyProof.Rows PySem.W PySem.SeqAt

/-! an object is made: __init__ -/
structure MakeAt (K : Frag) (Ca : Addr) (f : Addr) : Prop where
  makes : makesIn K Ca = true
  init : findIn K (.ref Ca) "__init__" = some (some (.ref f))
  ity : typeIn K (.ref f) = some (.type "function")
  plain : plainOver K Ca = true
  taker : takerIn K Ca "_headers" = some none
  has : (clsIn K Ca).any (·.hasDict) = true
  setattr : findIn K (.ref Ca) "__setattr__" = some (some (.builtin "object.__setattr__"))

section
variable {prog : Program} {w : World} {A : Around} {s : Shared} {env : Env} {C : Cls} {H0 : Heap} {k : Nat} {mg mb : Str → Option Value} {K : Frag} {Ca : Addr} {P : Addr → Prop} {B : Addr → Option Obj} {own : Str → Bool} {ρ : Rho} {h h' : Heap}
variable {Φ : Tab} {srt : PyData → Option PyData} {mu : List Str} {N : Nat} {sh : SHook} {T : HT}

theorem ns_eq {a : Addr} {m m' : Str → Option Value} (x : h.Ns a m) (y : h.Ns a m') : m = m' := by
  obtain ⟨o, es, ep, ho, hd, _, hf⟩ := x
  obtain ⟨o2, es2, ep2, ho2, hd2, _, hf2⟩ := y
  rw [ho] at ho2; cases ho2; rw [hd] at hd2; cases hd2
  funext z
  rw [← hf, hf2]

theorem St.mk0 (fn : env.scope.kind = .function) (gl : env.globals = mainGlobals) (bl : env.builtins = builtinsNs) (hc : env.cells = []) (hk : ∀ x, env.kindOf x ≠ some .cell ∧ env.kindOf x ≠ some .free)
    (h0 : ∀ a o, H0.get? a = some o → B a = some o) (base : ∀ a o, B a = some o → h.get? a = some o) (ns : ∃ m, h.Ns env.locals m) (bL : B env.locals = none)
    (vars : ∀ x ent, look env.scope ρ x = some ent → ∃ v, VarHas h env x v ∧ EntS C B (UU (fun _ => True) env []) [] h x v ent) :
    St C H0 (fun _ => True) B env (own1 env.scope) [] ρ h where
  fn := fn
  gl := gl
  bl := bl
  h0 := h0
  base := base
  fresh := fun _ _ => trivial
  ns := ns
  bL := bL
  mine := fun x hx => by
    unfold own1 at hx
    split at hx
    · rename_i e; exact .inl e
    · rename_i e; exact absurd e (hk x).1
    · cases hx
  apart := fun x y c hx => by rw [hc] at hx; cases hx
  cells := fun x hx => hx.elim (fun e => absurd e (hk x).1) fun e => absurd e (hk x).2
  isCell := fun x c hx => by rw [hc] at hx; cases hx
  xs := fun _ hp => nomatch hp
  xp := fun _ hp => nomatch hp
  xnd := fun _ hp => nomatch hp
  xfn := fun _ hp => nomatch hp
  vars := vars

inductive InitBody (loop : Stmt) (body : List Stmt) : Prop
  | mk (p1 p2 p3 p4 p5 p6 p7 p8 q1 q2 q3 q4 q5 q6 a1 a2 a3 a4 d1 d2 : Pos) (kk : _) (rs : List Stmt) (kd : _) (hb : body = [
      .Assign [.Name "headers" p1] (.IfExp (.Compare (.Name "headers" p2) [.IsNot] [.Constant .none kk p3] p4) (.Name "headers" p5) (.List [] p6) p7) p8,
      .If (.Compare (.Call (.Name "type" q1) [.Name "headers" q2] [] q3) [.IsNot] [.Name "list" q4] q5) rs [] q6,
      .Assign [.Attribute (.Name "self" a1) "_headers" a2] (.Name "headers" a3) a4,
      .If (.Constant (.bool true) kd d1) [loop] [] d2])
structure InitFn (H0 : Heap) (f : Addr) (sc : Scope) (loop : Stmt) : Prop where
  has : ∃ fd, FunAt H0 f fd ∧ plainFd fd ∧ fd.scope = sc ∧ (∃ body, fd.body = .stmts body ∧ InitBody loop body) ∧
    ∀ s : Shared, Stays H0 s.heap → ∀ self v, BindsTo s fd ⟨[self, v], []⟩ [("self", self), ("headers", v)]
  nocell : sc.names.all (fun p => !(p.2 == .cell) && !(p.2 == .free)) = true
  o1 : own1 sc "self" = true
  o2 : own1 sc "headers" = true
  g1 : sc.names.lookup ("type" : Str) = some .globalImplicit
  g2 : sc.names.lookup ("list" : Str) = some .globalImplicit

theorem init_ok (PS : SpecOk prog w mg H0 ⟨Ca, fun _ _ => True⟩ Φ k) (TS : SortOk prog w srt) (G : Ground1 mg mb H0) (SH : StmtOk prog w ⟨Ca, fun _ _ => True⟩ H0 k sh) (CK : ClsAt K H0 Ca) {f : Addr} (MA : MakeAt K Ca f) {sc : Scope} {loop : Stmt} (IF : InitFn H0 f sc loop)
    {n : Nat} {ps : List PyData} {ρ2 : Rho} (q : exs (ev Φ srt N) [] sc sh n [loop] [("headers", .val (.list ps)), ("self", .slf ps)] = some (.next, ρ2))
    {y dx l : Addr} {U : Addr → Prop} {vs : List Value} (rm : Room A (k + 1)) (hst : Stays H0 s.heap) (hy : s.heap.get? y = some (instObj Ca dx)) (hdx : s.heap.get? dx = some emptyDict) (hdx0 : H0.get? dx = none) (hl : s.heap.IsList l vs.toArray) (rr : RepAll U s.heap vs ps) (hno : noLs ps = true) :
    codeAny (model prog w) A (.call (.ref f) ⟨[.ref y, .ref l], []⟩) (fun r s' => r = .ok (.ret .none) ∧ ∃ h' tk hs t, s' = { s with heap := h', toks := tk } ∧ (∀ b o, b ≠ dx → s.heap.get? b = some o → h'.get? b = some o) ∧ h'.get? dx = some (dictOf [⟨hs, .str "_headers" t, .ref l⟩] 1)) s := by
  obtain ⟨fd, FA, hfd, rfl, ⟨_, hbody, p1, p2, p3, p4, p5, p6, p7, p8, q1, q2, q3, q4, q5, q6, a1, a2, a3, a4, d1, d2, kk, rs, kd, rfl⟩, hbind⟩ := IF.has
  have hyd : y ≠ dx := fun z => by rw [z, hdx] at hy; exact absurd (show Value.type "dict" = Value.ref Ca from congrArg Obj.cls (Option.some.inj hy)) (by intro z; cases z)
  have hld : l ≠ dx := fun z => by
    obtain ⟨o, ho, hc, _⟩ := hl
    rw [z, hdx] at ho
    cases ho
    exact absurd (show Value.type "dict" = Value.type "list" from hc) (by decide)
  have hdis : distinct ([(("self" : Str), Value.ref y), ("headers", .ref l)].map (·.1)) = true := by
    show distinct [("self" : Str), "headers"] = true
    decide +kernel
  have hown : ([(("self" : Str), Value.ref y), ("headers", .ref l)].all fun p => own1 fd.scope p.1) = true := by
    show (own1 fd.scope "self" && (own1 fd.scope "headers" && true)) = true
    rw [IF.o1, IF.o2]; rfl
  refine entry_st (C := ⟨Ca, fun _ _ => True⟩) (B0 := fun b => if b = dx then none else s.heap.get? b) (P := fun _ => True) (X0 := []) (ρ0 := []) FA hst hbody hfd (by have := rm.depth; omega) G.nolimit
    (hbind s hst (.ref y) (.ref l)) hdis hown ?_ ?_ (fun _ _ => trivial) (fun _ h => nomatch h) (fun _ h => nomatch h) (fun _ h => nomatch h) (fun _ _ h => nomatch h) ?_
  · intro b o e
    have : b ≠ dx := fun z => by rw [z, hdx0] at e; cases e
    rw [if_neg this]; exact hst b o e
  · intro b o e
    split at e
    · cases e
    · exact e
  intro env h1 tk1 henv t st1 vars
  have hS : env.scope = fd.scope := by rw [henv]; rfl
  have eL : env.locals = s.heap.objs.size := by rw [henv]; rfl
  have hF : env.scope.kind = .function := t.fn
  have hself := vars _ List.mem_cons_self
  have hhead := vars _ (List.mem_cons_of_mem _ List.mem_cons_self)
  have gi : ∀ f : Str, fd.scope.names.lookup f = some .globalImplicit → env.scope.names.lookup f = some .globalImplicit := fun f e => by rw [hS]; exact e
  have hkinds : ∀ x, env.kindOf x ≠ some .cell ∧ env.kindOf x ≠ some .free := fun x => by
    have hk : env.kindOf x = fd.scope.names.lookup x := by rw [henv]; rfl
    have key : ∀ kd, fd.scope.names.lookup x = some kd → kd ≠ .cell ∧ kd ≠ .free := fun kd e => by
      have := List.all_eq_true.mp IF.nocell _ (mem_of_lookup e)
      rw [Bool.and_eq_true, Bool.not_eq_true', Bool.not_eq_true'] at this
      exact ⟨fun z => by rw [z] at this; simp at this, fun z => by rw [z] at this; simp at this⟩
    exact ⟨fun e => (key _ (hk ▸ e)).1 rfl, fun e => (key _ (hk ▸ e)).2 rfl⟩
  have hcells : env.cells = [] := by
    cases z : env.cells with
    | nil => rfl
    | cons p r =>
      exfalso
      have ec : env.cells = cellsFrom (s.heap.objs.size + 1) fd.scope.names [] := by rw [henv]; rfl
      have hm : p ∈ cellsFrom (s.heap.objs.size + 1) fd.scope.names [] := by rw [← ec, z]; exact List.mem_cons_self
      obtain ⟨hc, _⟩ := cellsFrom_mem fd.scope.names _ p.1 p.2 hm
      have := List.all_eq_true.mp IF.nocell _ hc
      simp at this
  -- headers = headers if headers is not None else []
  refine wpAny_execs_cons (wpAny_Assign_Name (wpAny_IfExp (wpAny_isTrue_Compare1 (load_has hF (by decide +kernel) (by decide +kernel) hhead ?_) (by rfl))) (by rfl))
  refine wpAny_mono (const_ok (U := U) (s := { s with heap := h1, toks := tk1 }) (d := .none) rfl) (fun v s₂ zP => ?_) fun _ _ z => z.elim
  obtain ⟨h₂, tk₂, e₂, st₂, rb⟩ := zP
  subst e₂
  have := rb.noneInv
  subst this
  refine wpAny_isNot_plain (by rfl) (wpAny_truthy_bool ?_)
  have e1 : (!(Value.ref l == Value.none)) = true := by rfl
  rw [e1]
  dsimp only [if_true]
  refine load_has hF (by decide +kernel) (by decide +kernel) (hhead.stays st₂) ?_
  have t2 := t.stays st₂
  refine wpAny_mono (store_raw (s := { s with heap := h₂, toks := tk₂ }) (x := "headers") (v := .ref l) (Q := fun _ s' => ∃ h' tk b, s' = { s with heap := h', toks := tk } ∧ Heap.SameBut b h₂ h' ∧ (if b = dx then none else s.heap.get? b) = none ∧ (∃ m, h'.Ns env.locals m) ∧ VarHas h' env "headers" (.ref l) ∧ VarHas h' env "self" (.ref y) ∧ b ≠ dx) t2 (by rw [hS]; exact IF.o2) ?_) ?_ fun _ _ z => z.elim
  · intro h' tk b hs hb _ _ hbk hns _ hvx hoth
    refine ⟨h', tk, b, rfl, hs, hb, hns, hvx, hoth "self" _ (by decide +kernel) (hself.stays st₂), ?_⟩
    have hdx2 : h₂.get? dx = some emptyDict := st₂ _ _ (st1 _ _ hdx)
    rcases hbk with z | ⟨u, o, ho, hd⟩
    · intro e
      rw [z, eL] at e
      exact Nat.lt_irrefl _ (e ▸ Heap.lt_size hdx)
    · intro e
      rw [e, hdx2] at ho
      cases ho
      cases hd
  rintro _ s' ⟨h3, tk3, b3, rfl, hs3, hb3, ⟨m3, hns3⟩, hh3, hv3, hne3⟩
  have keep3 : ∀ b o, b ≠ dx → s.heap.get? b = some o → h3.get? b = some o := fun b o hb e => (hs3.2 b fun z => by
    rw [if_neg hne3, ← z, e] at hb3; cases hb3).trans (st₂ _ _ (st1 _ _ e))
  have hdx3 : h3.get? dx = some emptyDict := (hs3.2 dx (Ne.symm hne3)).trans (st₂ _ _ (st1 _ _ hdx))
  have h03 : Stays H0 h3 := fun b o e => keep3 b o (fun z => by rw [z, hdx0] at e; cases e) (hst b o e)
  have all3 : Stays s.heap h3 := fun b o e => by
    by_cases z : b = dx
    · rw [z] at e ⊢; rw [hdx] at e; cases e; exact hdx3
    · exact keep3 b o z e
  have g3 : ∀ Q : Value → Shared → Prop, ∀ (f : Str) (p : Pos) (v : Value), fd.scope.names.lookup f = some .globalImplicit → (f == ("__debug__" : Str)) = false → (mg f = none ∧ mb f = some v) → Q v { s with heap := h3, toks := tk3 } → wpAny (model prog w) (A.deeper env) (eval (.Name f p) env) Q NoE { s with heap := h3, toks := tk3 } := fun Q f p v hk hd hv q =>
    Name_function_global hF (gi f hk) (loadGlobal_builtin (by rw [t.gl]; exact ns_stays h03 G.g) hv.1 (by rw [t.bl]; exact ns_stays h03 G.b) hv.2 q) hd
  -- if type(headers) is not list
  refine wpAny_execs_cons (wpAny_If (wpAny_isTrue_Compare1 (Call_ (g3 _ "type" q1 _ IF.g1 (by decide +kernel) G.type_ ?_)) (by rfl)))
  refine callWith_type1 (wpAny_items_cons (load_has (s := { s with heap := h3, toks := tk3 }) hF (by decide +kernel) (by decide +kernel) hh3 (wpAny_items_nil ?_)))
  refine call_type_of (s := { s with heap := h3, toks := tk3 }) (Tx := "list") (isList_stays all3 hl).typeIs (by decide +kernel) ?_
  refine g3 _ "list" q4 _ IF.g2 (by decide +kernel) G.list ?_
  refine wpAny_isNot_plain (by rfl) (wpAny_truthy_bool ?_)
  rw [beq_self_eq_true]
  rw [if_neg (by simp)]
  refine wpAny_execs_nil ?_
  -- self._headers = headers
  refine wpAny_execs_cons (plainObj_wpAny_Assign_Attribute (load_has (s := { s with heap := h3, toks := tk3 }) hF (by decide +kernel) (by decide +kernel) hh3 (load_has (s := { s with heap := h3, toks := tk3 }) hF (by decide +kernel) (by decide +kernel) hv3 ?_)) (by rfl))
  have F3 : Fr (hideAll s.heap [dx]) env.locals h3 m3 := ⟨hns3, fun b o e => keep3 b o (fun z => by rw [hideAll_none [dx] (by rw [z]; exact List.mem_singleton.mpr rfl)] at e; cases e) (of_hideAll _ e), by rw [hideAll_size, eL]; exact Nat.le_refl _⟩
  have N3 : News (hideAll s.heap [dx]) env.locals h3 ([] ++ (dx, emptyDict) :: []) := fun p hp => by
    rcases List.mem_singleton.mp hp with rfl
    refine ⟨hdx3, fun z => ?_, hideAll_none [dx] (List.mem_singleton.mpr rfl)⟩
    have z' : dx = env.locals := z
    rw [eL] at z'
    exact Nat.lt_irrefl _ (z' ▸ Heap.lt_size hdx)
  have I3 : InstAt h3 y (instObj Ca dx) Ca (some emptyDict) := ⟨all3 _ _ hy, rfl, rfl, hdx3⟩
  refine set_plain (s := { s with heap := h3, toks := tk3 }) (CK.X.keeps h03) I3 MA.setattr ?_
  refine osa_dict (s := { s with heap := h3, toks := tk3 + 1 }) (od' := dictOf [⟨PyData.keyHash w.params "_headers", .str "_headers" (tk3 + 1), .ref l⟩] 1) F3 N3 (CK.X.keeps h03) I3 rfl MA.plain MA.taker MA.has rfl (fun _ hp => nomatch hp) (fun _ hp => nomatch hp) rfl rfl (by simp) ?_
  intro h4 F4 N4
  have hdx4 := (N4 _ List.mem_cons_self).1
  have keep4 : ∀ b o, b ≠ dx → s.heap.get? b = some o → h4.get? b = some o := fun b o hb e => F4.keep b o (hideAll_get [dx] e (fun z => hb (List.mem_singleton.mp z)))
  have h04 : Stays H0 h4 := fun b o e => keep4 b o (fun z => by rw [z, hdx0] at e; cases e) (hst b o e)
  have var4 : ∀ x v, VarHas h3 env x v → VarHas h4 env x v := fun x v hv => by
    rcases hv with ⟨hk, m, n, e⟩ | ⟨hk, _⟩
    · rw [ns_eq n hns3] at e
      exact .inl ⟨hk, m3, F4.ns, e⟩
    · exact (hk.elim (hkinds x).1 (hkinds x).2).elim
  -- the loop
  refine wpAny_execs_cons (wpAny_If (wpAny_isTrue_value (wpAny_mono (const_ok (U := U) (s := { s with heap := h4, toks := tk3 + 1 + 1 }) (d := .bool true) rfl) (fun v s₅ zP => ?_) fun _ _ z => z.elim)))
  obtain ⟨h₅, tk₅, e₅, st₅, rb⟩ := zP
  subst e₅
  have := rb.boolInv
  subst this
  refine wpAny_truthy_bool ?_
  rw [if_pos rfl]
  have t4 : St ⟨Ca, fun _ _ => True⟩ H0 (fun _ => True) (fun b => if b = dx then some (dictOf [⟨PyData.keyHash w.params "_headers", .str "_headers" (tk3 + 1), .ref l⟩] 1) else s.heap.get? b) env (own1 env.scope) [] [("headers", .val (.list ps)), ("self", .slf ps)] h4 := by
    refine St.mk0 hF t.gl t.bl hcells hkinds ?_ ?_ ⟨_, F4.ns⟩ ?_ ?_
    · intro b o e
      have : b ≠ dx := fun z => by rw [z, hdx0] at e; cases e
      rw [if_neg this]; exact hst b o e
    · intro b o e
      split at e
      · rename_i z; cases e; rw [z]; exact hdx4
      · rename_i z; exact keep4 b o z e
    · have : env.locals ≠ dx := fun z => by rw [eL] at z; exact Nat.lt_irrefl _ (z ▸ Heap.lt_size hdx)
      rw [if_neg this, eL]
      exact new_none _
    · have low : ∀ b o, s.heap.get? b = some o → UU (fun _ => True) env [] b := fun b o e => ⟨trivial, fun z => by rw [z, eL] at e; exact Nat.lt_irrefl _ (Heap.lt_size e), fun _ hp => nomatch hp⟩
      have rep4 : RepAll (UU (fun _ => True) env []) h4 vs ps := by
        obtain ⟨as, ra, _⟩ := rr
        have eas := readsAll_noL ra hno
        subst eas
        have hsb : Heap.SameBut dx (h4.update dx fun _ => emptyDict) h4 := ⟨by rw [Heap.size_update], fun b q => (Heap.get?_update_ne _ _ _ _ q).symm⟩
        have st4 : Stays s.heap (h4.update dx fun _ => emptyDict) := fun b o e => by
          by_cases z : b = dx
          · rw [z] at e ⊢; rw [hdx] at e; cases e; exact Heap.get?_update_self (fun _ => emptyDict) hdx4 rfl
          · rw [Heap.get?_update_ne _ _ _ _ z]; exact keep4 b o z e
        have nt' : NoTup (h4.update dx fun _ => emptyDict) dx := fun o vs n e c _ => by
          rw [st4 _ _ hdx] at e; cases e; exact absurd (show Value.type "dict" = Value.type "tuple" from c) (by decide)
        exact ⟨[], readsAll_but hsb nt' (readsAll_stays st4 ra) (fun m => nomatch m), fun _ m => nomatch m⟩
      have repL : Rep (UU (fun _ => True) env []) h4 (.ref l) (.list ps) := by
        obtain ⟨o, ho, hc, n, hd⟩ := hl
        exact .list ⟨o, keep4 l o hld ho, hc, n, hd⟩ rep4 (low l o ho)
      intro x ent e
      unfold look at e
      split at e
      rotate_left
      · cases e
      rw [List.lookup_cons] at e
      cases hxh : x == ("headers" : Str) with
      | true =>
        rw [hxh] at e
        cases e
        rw [beq_iff_eq.mp hxh]
        exact ⟨_, var4 _ _ hh3, repL⟩
      | false =>
        rw [hxh] at e
        dsimp only at e
        rw [List.lookup_cons] at e
        cases hxs : x == ("self" : Str) with
        | true =>
          rw [hxs] at e
          cases e
          rw [beq_iff_eq.mp hxs]
          exact ⟨_, var4 _ _ hv3, y, dx, _, _, l, ⟨rfl, trivial⟩, (if_neg hyd).trans hy, if_pos rfl, repL⟩
        | false => rw [hxs] at e; cases e
  have rm' : Room (A.deeper env) k := ⟨rm.handled, by have := rm.depth; show A.depth + 1 + k < _; omega, by have := rm.units; show A.units + 3 + 200 + 10 * k < _; omega⟩
  have main := exs_ok PS TS G.toGround0 rm' SH n [loop] [("headers", .val (.list ps)), ("self", .slf ps)] .next ρ2 _ [] { s with heap := h₅, toks := tk₅ } (by rw [hS]; exact q) (t4.stays st₅)
  refine wpAny_mono main (fun g s' zP => ?_) fun _ _ z => z.elim
  obtain ⟨B5, X5, h5, tk5, e5, sub, t5, hfl⟩ := zP
  subst e5
  cases g <;> try exact hfl.elim
  refine wpAny_execs_nil ⟨rfl, h5, tk5, _, _, rfl, fun b o hb e => t5.base b o (sub b o ((if_neg hb).trans e)), t5.base dx _ (sub dx _ (if_pos rfl))⟩
end
end Mine

namespace Mine
open PySem PySem.Calls PySem.Spec PyProof.Rows PySem.W PySem.SeqAt

/-! x = Headers(list(e)) -/
/-- f(a), f a name -/
noncomputable def gcallOf : Expr → Option (Str × Expr)
  | .Call f args kws _ => (nameOfE f).bind fun c => (arg1 args).bind fun a => if kws.isEmpty then some (c, a) else none
  | _ => none
theorem gcallOf_eq {e a : Expr} {c : Str} (q : gcallOf e = some (c, a)) : ∃ p p', e = .Call (.Name c p) [a] [] p' := by
  unfold gcallOf at q
  split at q
  · obtain ⟨c, hc, q⟩ := Option.bind_eq_some_iff.mp q
    obtain ⟨a, ha, q⟩ := Option.bind_eq_some_iff.mp q
    replace q := iteS q
    obtain ⟨hk, q⟩ := q
    cases q
    obtain ⟨p, hp⟩ := nameOfE_eq hc
    rw [hp, arg1_eq ha, List.isEmpty_iff.mp hk]
    exact ⟨_, _, rfl⟩
  · cases q
noncomputable def hkNew (cn : Str) (ini : List PyData → Bool) : SHook := fun r sc ρ st => match st with
  | .Assign ts e _ => (arg1 ts).bind fun t => (nameOfE t).bind fun x => (gcallOf e).bind fun ca => if (ca.1 == cn) && (sc.names.lookup ca.1 == some .globalImplicit) && okName ca.1 && own1 sc x && isFresh ca.2 && !isStar ca.2 then
      (r .value sc ρ ca.2).bind fun d => (listD d).bind fun ps => if ini ps then some (.next, ρ.set x (.hdr ps)) else none else none
  | _ => none

section
variable {prog : Program} {w : World} {A : Around} {s : Shared} {env : Env} {C : Cls} {H0 : Heap} {P : Addr → Prop} {B B' : Addr → Option Obj} {own : Str → Bool} {X : List (Str × Addr)} {ρ : Rho} {h h' : Heap} {k : Nat} {mg mb : Str → Option Value} {K : Frag} {Ca : Addr}

/-- what making an object leaves -/
noncomputable def NewOk (prog : Program) (w : World) (H0 : Heap) (Ca : Addr) (k : Nat) (ini : List PyData → Bool) : Prop := ∀ (A : Around) (s : Shared) (U : Addr → Prop) (l : Addr) (vs : List Value) (ps : List PyData), ini ps = true → Room A k → Stays H0 s.heap → s.heap.IsList l vs.toArray → RepAll U s.heap vs ps →
  wpAny (model prog w) A (call (.ref Ca) [.ref l]) (fun r s' => ∃ h' tk y dx hs t, s' = { s with heap := h', toks := tk } ∧ r = .ref y ∧ Stays s.heap h' ∧ s.heap.get? y = none ∧ s.heap.get? dx = none ∧ y ≠ dx ∧ h'.get? y = some (instObj Ca dx) ∧ h'.get? dx = some (dictOf [⟨hs, .str "_headers" t, .ref l⟩] 1)) NoE s

theorem under_room {c : Code} {kk : Nat} (rm : Room A (kk + 1)) (hw : c.weight ≤ 1) (hu : c.cUnits ≤ 10) : Room (A.under c) kk :=
  ⟨rm.handled, by have := rm.depth; show A.depth + c.weight + kk < _; omega, by have := rm.units; show A.units + c.cUnits + 200 + 10 * kk < _; omega⟩

theorem new_ok {Φ : Tab} {srt : PyData → Option PyData} {N : Nat} {sh : SHook} (PS : SpecOk prog w mg H0 ⟨Ca, fun _ _ => True⟩ Φ k) (TS : SortOk prog w srt) (G : Ground1 mg mb H0) (SH : StmtOk prog w ⟨Ca, fun _ _ => True⟩ H0 k sh) (CK : ClsAt K H0 Ca) {f : Addr} (MA : MakeAt K Ca f) {sc : Scope} {loop : Stmt} (IF : InitFn H0 f sc loop)
    {n : Nat} {ini : List PyData → Bool} (q : ∀ ps, ini ps = true → noLs ps = true ∧ ∃ ρ2, exs (ev Φ srt N) [] sc sh n [loop] [("headers", .val (.list ps)), ("self", .slf ps)] = some (.next, ρ2)) : NewOk prog w H0 Ca (k + 2) ini := by
  intro A s U l vs ps hi rm hst hl rr
  obtain ⟨hno, ρ2, q⟩ := q ps hi
  obtain ⟨hh, g, d, tk, os⟩ := s
  have X := CK.X.keeps hst
  refine wpAny_call (make_core (makes_of X MA.makes) (looks_findIn X MA.init) (fun self => bind_fn X self MA.ity) (.inl rfl) ?_)
  have k1 : Stays hh ((hh.push emptyDict).push (instObj Ca hh.objs.size)) := (stays_push _ _).trans (stays_push _ _)
  have hy : ((hh.push emptyDict).push (instObj Ca hh.objs.size)).get? (hh.objs.size + 1) = some (instObj Ca hh.objs.size) := by heap_get
  have hdx : ((hh.push emptyDict).push (instObj Ca hh.objs.size)).get? hh.objs.size = some emptyDict := by heap_get
  have nz : ∀ c, hh.objs.size ≤ c → hh.get? c = none := fun c hc => by
    cases z : hh.get? c with
    | none => rfl
    | some o' => exact absurd (Nat.lt_of_lt_of_le (Heap.lt_size z) hc) (Nat.lt_irrefl _)
  have h0 : H0.get? hh.objs.size = none := by
    cases z : H0.get? hh.objs.size with
    | none => rfl
    | some o => have := hst _ _ z; rw [nz _ (Nat.le_refl _)] at this; cases this
  refine codeAny_mono (init_ok (s := ⟨(hh.push emptyDict).push (instObj Ca hh.objs.size), g, d, tk, os⟩) PS TS G SH CK MA IF q (under_room rm (Nat.le_of_ble_eq_true (by kernel_rfl)) (Nat.le_of_ble_eq_true (by kernel_rfl))) (hst.trans k1) hy hdx h0 (isList_stays k1 hl) (rr.stays k1) hno) ?_
  rintro r s' ⟨rfl, h', tk', hs, t, rfl, keep, hd'⟩
  refine ⟨rfl, h', tk', hh.objs.size + 1, hh.objs.size, hs, t, rfl, rfl, fun b o e => keep b o (fun z => ?_) (k1 b o e), nz _ (Nat.le_succ _), nz _ (Nat.le_refl _), Nat.succ_ne_self _, keep _ _ (Nat.succ_ne_self _) hy, hd'⟩
  rw [z, nz _ (Nat.le_refl _)] at e
  cases e

/-- new objects that may not change are added to those that stand -/
theorem St.growB (t : St C H0 P B env own X ρ h) (st : Stays h h') (sub : ∀ a o, B a = some o → B' a = some o) (base : ∀ a o, B' a = some o → h'.get? a = some o) (new : ∀ a o, B' a = some o → B a = some o ∨ h.get? a = none) : St C H0 P B' env own X ρ h' := by
  have t' := t.stays st
  have old : ∀ a, (∃ o, h.get? a = some o) → B a = none → B' a = none := fun a ⟨o, ho⟩ hb => by
    cases z : B' a with
    | none => rfl
    | some o' =>
      rcases new a o' z with e | e
      · rw [hb] at e; cases e
      · rw [ho] at e; cases e
  refine { t' with h0 := fun a o e => sub a o (t.h0 a o e), base := base, bL := old _ (let ⟨m, o, _, _, ho, _⟩ := t.ns; ⟨o, ho⟩) t.bL, mine := fun x hx => ?_, apart := fun x y c e1 e2 hb => t.apart x y c e1 e2 ?_, xs := fun p hp => ?_, vars := fun x ent e => ?_ }
  · rcases t.mine x hx with q | ⟨a, c, v, e1, e2, e3⟩
    · exact .inl q
    · exact .inr ⟨a, c, v, e1, e2.keeps st, old c (let ⟨o, ho, _⟩ := e2; ⟨o, ho⟩) e3⟩
  · cases z : B c with
    | none => rfl
    | some o => rw [sub c o z] at hb; cases hb
  · obtain ⟨b, l, vs, n, ho⟩ := t.xs p hp
    exact ⟨old _ ⟨_, ho⟩ b, l, vs, n, st _ _ ho⟩
  · obtain ⟨v, hv, he⟩ := t'.vars x ent e
    refine ⟨v, hv, ?_⟩
    cases ent with
    | val d => exact he
    | own ds => exact he
    | slf ds => obtain ⟨y9, dx, hs9, tk9, a9, e1, e2, e3, r⟩ := he; exact ⟨y9, dx, hs9, tk9, a9, e1, sub _ _ e2, sub _ _ e3, r⟩
    | hdr ds => obtain ⟨y9, dx, hs9, tk9, a9, vs, n, e1, e2, e3, e4, e5, r⟩ := he; exact ⟨y9, dx, hs9, tk9, a9, vs, n, e1, sub _ _ e2, sub _ _ e3, e4, e5, r⟩

/-- an object made anew, stored: the name owns its list -/
theorem store_hdr (t : St C H0 (fun b => P b ∧ b ≠ a) B env own X ρ s.heap) {x : Str} {y dx : Addr} {hs0 : Int} {t0 : Tok} {vs : List Value} {n : Nat} {ds : List PyData} (hx : own x = true) (ha : s.heap.get? a = some (lst vs n)) (hb : B a = none) (hL : a ≠ env.locals) (hX : ∀ p ∈ X, p.2 ≠ a) (hP : P a)
    (hr : RepAll (UU (fun b => P b ∧ b ≠ a) env X) s.heap vs ds) (ok : C.ok y a) (by_ : B y = some (instObj C.addr dx)) (bd : B dx = some (dictOf [⟨hs0, .str "_headers" t0, .ref a⟩] 1)) :
    wpAny (model prog w) A (storeName env x (.ref y)) (fun _ s' => ∃ h' tk, s' = { s with heap := h', toks := tk } ∧ St C H0 P B env own ((x, a) :: dropX X x) (ρ.set x (.hdr ds)) h') NoE s := by
  refine store_raw t hx fun h' tk b hs hb' ⟨ob, hob⟩ hcl hbk hns hmine hvx hvy => ?_
  have hD : Dead (UU (fun b => P b ∧ b ≠ a) env X) s.heap b := by
    rcases hbk with rfl | ⟨u, hi⟩
    · obtain ⟨m, n⟩ := t.ns; exact ⟨noTup_dict n, .inl fun q => q.2.1 rfl⟩
    · exact ⟨noTup_cell hi, .inr ⟨u, hi⟩⟩
  have keep : ∀ c o, s.heap.get? c = some o → (∃ xs n, o.data = .seq xs n) ∨ B c = some o → h'.get? c = some o := fun c o e kk => (hs.2 c fun q => by
    rcases kk with ⟨xs, n, kk⟩ | kk
    · rcases hbk with rfl | ⟨u, o', ho', hd'⟩
      · obtain ⟨m, o', es, ep, ho', hd', _⟩ := t.ns
        rw [q, ho'] at e; cases e; rw [hd'] at kk; cases kk
      · rw [q, ho'] at e; cases e; rw [hd'] at kk; cases kk
    · rw [q, hb'] at kk; cases kk).trans e
  have up : ∀ c, UU (fun b => P b ∧ b ≠ a) env X c → UU P env ((x, a) :: dropX X x) c := fun c u => ⟨u.1.1, u.2.1, fun p hp => by
    rcases List.mem_cons.mp hp with rfl | hp
    · exact Ne.symm u.1.2
    · exact u.2.2 p (mem_dropX.mp hp).1⟩
  refine ⟨h', tk, rfl, { fn := t.fn, gl := t.gl, bl := t.bl, h0 := t.h0, base := fun a o e => keep a o (t.base a o e) (.inr e), fresh := fun c e => (t.fresh c ?_).1, ns := hns, bL := t.bL, mine := hmine, apart := t.apart, cells := t.cells, isCell := fun x c e => let ⟨v, i⟩ := t.isCell x c e; hcl c v i, xs := ?_, xp := ?_, xnd := ?_, xfn := ?_, vars := ?_ }⟩
  · by_cases hcb : c = b
    · subst hcb; rw [e] at hob; cases hob
    · rw [← hs.2 c hcb]; exact e
  · intro p hp
    rcases List.mem_cons.mp hp with rfl | hp
    · exact ⟨hb, hL, vs, n, keep _ _ ha (.inl ⟨_, _, rfl⟩)⟩
    · obtain ⟨a', b', vs', n', e⟩ := t.xs p (mem_dropX.mp hp).1
      exact ⟨a', b', vs', n', keep _ _ e (.inl ⟨_, _, rfl⟩)⟩
  · intro p hp
    rcases List.mem_cons.mp hp with rfl | hp
    · exact hP
    · exact (t.xp p (mem_dropX.mp hp).1).1
  · intro p hp q hq e
    rcases List.mem_cons.mp hp with rfl | hp <;> rcases List.mem_cons.mp hq with rfl | hq
    · rfl
    · exact absurd e.symm (hX q (mem_dropX.mp hq).1)
    · exact absurd e (hX p (mem_dropX.mp hp).1)
    · exact t.xnd p (mem_dropX.mp hp).1 q (mem_dropX.mp hq).1 e
  · intro p hp q hq e
    rcases List.mem_cons.mp hp with rfl | hp <;> rcases List.mem_cons.mp hq with rfl | hq
    · rfl
    · exact absurd e.symm (mem_dropX.mp hq).2
    · exact absurd e (mem_dropX.mp hp).2
    · exact t.xfn p (mem_dropX.mp hp).1 q (mem_dropX.mp hq).1 e
  · intro z ent e
    rcases look_set e with ⟨rfl, rfl⟩ | ⟨hy, e⟩
    · exact ⟨_, hvx, y, dx, hs0, t0, a, vs, n, ⟨rfl, ok⟩, by_, bd, List.mem_cons_self, keep _ _ ha (.inl ⟨_, _, rfl⟩), (hr.dead hD hs).mono up⟩
    · obtain ⟨u, hu, he⟩ := t.vars z ent e
      refine ⟨u, hvy z u hy hu, ?_⟩
      cases ent with
      | val d' => exact (Rep.dead hD hs he).mono up
      | own ds => obtain ⟨a', vs, n, e1, e2, e3, r⟩ := he; exact ⟨a', vs, n, e1, List.mem_cons_of_mem _ (mem_dropX.mpr ⟨e2, hy⟩), keep _ _ e3 (.inl ⟨_, _, rfl⟩), (r.dead hD hs).mono up⟩
      | slf ds => obtain ⟨y9, dx, hs9, tk9, a9, e1, e2, e3, r⟩ := he; exact ⟨y9, dx, hs9, tk9, a9, e1, e2, e3, (Rep.dead hD hs r).mono up⟩
      | hdr ds =>
        obtain ⟨y', dx', hs', tk', a', vs, n, e1, e2, e3, e4, e5, r⟩ := he
        exact ⟨y', dx', hs', tk', a', vs, n, e1, e2, e3, List.mem_cons_of_mem _ (mem_dropX.mpr ⟨e4, hy⟩), keep _ _ e5 (.inl ⟨_, _, rfl⟩), (r.dead hD hs).mono up⟩

theorem hkNew_ok (G : Ground0 mg mb H0) (CK : ClsAt K H0 Ca) (hk : keepIn K (.ref Ca) = true) {cn : Str} (hcn : mg cn = some (.ref Ca)) {ini : List PyData → Bool} (NW : NewOk prog w H0 Ca k ini) : StmtOk prog w ⟨Ca, fun _ _ => True⟩ H0 k (hkNew cn ini) := by
  intro r S SF ρ ρ' st fl env A s P B X q t rm
  unfold hkNew at q
  split at q
  · replace q := Option.bind_eq_some_iff.mp q
    obtain ⟨tg, ht, q⟩ := q
    have ht := arg1_eq ht
    subst ht
    replace q := Option.bind_eq_some_iff.mp q
    obtain ⟨x, hx, q⟩ := q
    obtain ⟨xp, hxp⟩ := nameOfE_eq hx
    subst hxp
    replace q := Option.bind_eq_some_iff.mp q
    obtain ⟨⟨c, a⟩, hc, q⟩ := q
    obtain ⟨p1, p2, he⟩ := gcallOf_eq hc
    subst he
    replace q := iteS q
    obtain ⟨hl, q⟩ := q
    simp only [Bool.and_eq_true, beq_iff_eq, Bool.not_eq_true', okName] at hl
    obtain ⟨⟨⟨⟨⟨rfl, hg⟩, hdb, _⟩, hx⟩, hf⟩, hstar⟩ := hl
    replace q := Option.bind_eq_some_iff.mp q
    obtain ⟨d, hd, q⟩ := q
    replace q := Option.bind_eq_some_iff.mp q
    obtain ⟨ps, hps, q⟩ := q
    have hps := listD_eq hps
    subst hps
    replace q := iteS q
    obtain ⟨hi, q⟩ := q
    cases q
    refine wpAny_Assign_Name (Call_ (glob_ok G t.cx hg hdb hcn ?_)) rfl
    refine callWith_K CK.X hk ?_ (star_cons hstar) rfl
    refine wpAny_items_cons ?_ (star_cons hstar)
    refine wpAny_mono (SF ρ _ ps env A s _ t.cx rm hf hd) (fun v s₁ zP => ?_) fun _ _ z => z.elim
    obtain ⟨h₁, tk₁, a, vs, n, e₁, st₁, ev, na, ha, rr⟩ := zP
    subst e₁ ev
    have h0 : Stays H0 h₁ := fun b o e => st₁ _ _ (t.base b o (t.h0 b o e))
    refine wpAny_items_nil ⟨CK.X.keeps h0, ?_⟩
    refine wpAny_mono (NW A { s with heap := h₁, toks := tk₁ } _ a vs ps hi rm h0 ⟨_, ha, rfl, n, rfl⟩ rr) (fun r s₂ zP => ?_) fun _ _ z => z.elim
    obtain ⟨h₂, tk₂, y, dx, hs, tt, e₂, er, st₂, ny, nd, yd, hy, hdx⟩ := zP
    subst e₂ er
    have noB : ∀ b, h₁.get? b = none → B b = none := fun b e => by
      cases z : B b with
      | none => rfl
      | some o => have := st₁ _ _ (t.base b o z); rw [e] at this; cases this
    have noB0 : B a = none := by
      cases z : B a with
      | none => rfl
      | some o => have := t.base a o z; rw [na] at this; cases this
    have noL : a ≠ env.locals := fun z => by obtain ⟨m', o, es, ep, ho, _⟩ := t.ns; rw [← z, na] at ho; cases ho
    have noX : ∀ p ∈ X, p.2 ≠ a := fun p hp z => by obtain ⟨_, _, vs', n', ho⟩ := t.xs p hp; rw [z, na] at ho; cases ho
    have t1 := t.avoid na st₁ ⟨_, ha⟩
    have ay : a ≠ y := fun z => by rw [z, ny] at ha; cases ha
    have ad : a ≠ dx := fun z => by rw [z, nd] at ha; cases ha
    have t2 : St ⟨Ca, fun _ _ => True⟩ H0 (fun b => P b ∧ b ≠ a) (fun b => if b = y then some (instObj Ca dx) else if b = dx then some (dictOf [⟨hs, .str "_headers" tt, .ref a⟩] 1) else B b) env (own1 env.scope) X ρ h₂ := by
      refine t1.growB st₂ ?_ ?_ ?_
      · intro b o e
        have b1 : b ≠ y := fun z => by rw [z, noB y ny] at e; cases e
        have b2 : b ≠ dx := fun z => by rw [z, noB dx nd] at e; cases e
        rw [if_neg b1, if_neg b2]; exact e
      · intro b o e
        split at e
        · rename_i z; cases e; rw [z]; exact hy
        · split at e
          · rename_i z; cases e; rw [z]; exact hdx
          · exact st₂ _ _ (st₁ _ _ (t.base b o e))
      · intro b o e
        split at e
        · rename_i z; exact .inr (z ▸ ny)
        · split at e
          · rename_i z; exact .inr (z ▸ nd)
          · exact .inl e
    have hne : ∀ b, b ≠ a → True := fun _ _ => trivial
    refine wpAny_mono (store_hdr (s := { s with heap := h₂, toks := tk₂ }) (a := a) t2 hx (st₂ _ _ ha) (by rw [if_neg ay, if_neg ad]; exact noB0) noL noX (t.fresh a na) ((rr.stays st₂).mono fun b u => ⟨⟨u.1.1, u.2⟩, u.1.2⟩) trivial (if_pos rfl) (by rw [if_neg (Ne.symm yd), if_pos rfl])) (fun _ s' zP => ?_) fun _ _ z => z.elim
    obtain ⟨h3, tk3, e3, t3⟩ := zP
    subst e3
    refine ⟨_, _, h3, tk3, rfl, fun b o e => ?_, t3, trivial⟩
    have b1 : b ≠ y := fun z => by rw [z, noB y ny] at e; cases e
    have b2 : b ≠ dx := fun z => by rw [z, noB dx nd] at e; cases e
    rw [if_neg b1, if_neg b2]; exact e
  · cases q

theorem StmtOk.or {h1 h2 : SHook} (x : StmtOk prog w C H0 k h1) (y : StmtOk prog w C H0 k h2) : StmtOk prog w C H0 k (fun r sc ρ st => (h1 r sc ρ st).or (h2 r sc ρ st)) := by
  intro r S SF ρ ρ' st fl env A s P B X q t rm
  have q' : (h1 r env.scope ρ st).or (h2 r env.scope ρ st) = some (fl, ρ') := q
  cases z : h1 r env.scope ρ st with
  | none => rw [z] at q'; exact y r S SF ρ ρ' st fl env A s P B X q' t rm
  | some d' => rw [z] at q'; exact x r S SF ρ ρ' st fl env A s P B X (by cases q'; exact z) t rm
end
end Mine

namespace Mine
open PySem PySem.Calls PySem.Spec PyProof.Rows PySem.W PySem.SeqAt

/-! the text's functions, found in the program -/
structure Fn where
  body : List Stmt
  scope : Scope
  params : Arguments
noncomputable def fnIn (n : Str) : List Stmt → Option Fn
  | [] => none
  | .FunctionDef m ps body _ _ _ sc .. :: r => if m == n then some ⟨body, sc, ps⟩ else fnIn n r
  | _ :: r => fnIn n r
noncomputable def clIn (n : Str) : List Stmt → List Stmt
  | [] => []
  | .ClassDef m _ _ body .. :: r => if m == n then body else clIn n r
  | _ :: r => clIn n r
noncomputable def noFn : Fn := ⟨[], ⟨.function, [], false, false, []⟩, ⟨[], [], none, [], [], none, []⟩⟩
noncomputable def topFn (p : Program) (n : Str) : Fn := (fnIn n p.main.body).getD noFn
noncomputable def methFn (p : Program) (n : Str) : Fn := (fnIn n (clIn "Headers" p.main.body)).getD noFn

/-- a function object of the written heap -/
noncomputable def fdIn (K : Frag) (a : Addr) : Option FuncData := (K.lookup a).bind fun o => match o.data with | .func fd => some fd | _ => none
noncomputable def fdOf (K : Frag) (a : Addr) : FuncData := (fdIn K a).getD default
theorem funAt_K {K : Frag} {H0 : Heap} {f : Addr} (X : K.In H0) (e : (fdIn K f).isSome = true) (c : codeIn K (fdOf K f).code (fdOf K f).qualname = true) : FunAt H0 f (fdOf K f) := by
  obtain ⟨fd, h⟩ := Option.isSome_iff_exists.mp e
  have hf : fdOf K f = fd := by unfold fdOf; rw [h]; rfl
  unfold fdIn at h
  obtain ⟨o, ho, hd⟩ := Option.bind_eq_some_iff.mp h
  rw [hf] at c ⊢
  refine ⟨⟨o, X _ _ ho, ?_⟩, codeRec_of X c⟩
  split at hd
  · rename_i fd' q; cases hd; exact q
  · cases hd

/-! steps of the evaluators over lists that are not written out -/
section
variable (r : Md → Scope → Rho → Expr → Option PyData)
/-- one item of a comprehension with one clause: nothing known; left out; an item -/
noncomputable def evG1 (scope sc : Scope) (elt : Expr) (g : Comprehension) (ρ : Rho) (d : PyData) : Option (Option PyData) :=
  (bindD g.target d).bind fun b => if b.all fun p => own1 scope p.1 && (ρ.lookup p.1).isNone then
    (evTests r sc (ρ.sets b) g.ifs).bind fun t => if t then (r .value sc (ρ.sets b) elt).map some else some none
  else none
end
section
variable {r : Md → Scope → Rho → Expr → Option PyData}
theorem evG_flat {scope sc : Scope} {elt : Expr} {g : Comprehension} {ρ : Rho} {φ : PyData → Option PyData} : ∀ {ds : List PyData}, (∀ d ∈ ds, evG1 r scope sc elt g ρ d = some (φ d)) → evG r scope sc elt [g] ρ (some ds) = some (ds.filterMap φ)
  | [], _ => rfl
  | d :: ds, h => by
    have ih := evG_flat (scope := scope) (sc := sc) (elt := elt) (g := g) (ρ := ρ) (φ := φ) (ds := ds) fun d' hd' => h d' (List.mem_cons_of_mem _ hd')
    have hd := h d List.mem_cons_self
    unfold evG at ih ⊢
    rw [Option.bind_some] at ih ⊢
    rw [List.foldr_cons, ih]
    unfold evG1 at hd
    obtain ⟨b, hb, hd⟩ := Option.bind_eq_some_iff.mp hd
    rw [hb, Option.bind_some]
    split at hd
    rotate_left
    · cases hd
    rename_i ha
    rw [if_pos ha]
    obtain ⟨t, ht, hd⟩ := Option.bind_eq_some_iff.mp hd
    rw [ht, Option.bind_some]
    rw [List.filterMap_cons]
    cases t with
    | false =>
      simp only [Bool.false_eq_true, if_false] at hd ⊢
      rw [← Option.some.inj hd]
    | true =>
      simp only [if_true] at hd ⊢
      obtain ⟨e, he, hd⟩ := Option.map_eq_some_iff.mp hd
      unfold evG
      rw [he, Option.map_some, Option.bind_some, ← hd]
      rfl
/-- facts of a whole list hold of each of its members -/
theorem of_map_eq {α β : Type} {f g : α → β} {l : List α} (e : l.map f = l.map g) : ∀ a ∈ l, f a = g a := List.map_inj_left.mp e

theorem exL_next {mu : List Str} {sc : Scope} {sh : SHook} {rs : List Stmt → Rho → Option (Fl × Rho)} {st : Stmt} {rest : List Stmt} {ρ ρ1 : Rho} (h : (sh r sc ρ st).or (ex1 r mu sc rs ρ st) = some (.next, ρ1)) :
    exL r mu sc sh rs (st :: rest) ρ = exL r mu sc sh rs rest ρ1 := by
  conv => lhs; unfold exL
  rw [h]; rfl
theorem exL_ret {mu : List Str} {sc : Scope} {sh : SHook} {rs : List Stmt → Rho → Option (Fl × Rho)} {st : Stmt} {rest : List Stmt} {ρ ρ1 : Rho} {d : PyData} (h : (sh r sc ρ st).or (ex1 r mu sc rs ρ st) = some (.ret d, ρ1)) :
    exL r mu sc sh rs (st :: rest) ρ = some (.ret d, ρ1) := by
  conv => lhs; unfold exL
  rw [h]; rfl
theorem forL_next {sc : Scope} {body : Rho → Option (Fl × Rho)} {tg : Expr} {d : PyData} {ds : List PyData} {ρ ρ1 : Rho} {b : List (Str × PyData)} (hb : bindD tg d = some b) (ho : b.all (fun p => own1 sc p.1) = true) (h : body (ρ.sets b) = some (.next, ρ1)) :
    forL sc body tg (d :: ds) ρ = forL sc body tg ds ρ1 := by
  conv => lhs; unfold forL
  rw [hb, Option.bind_some, if_pos ho, h]; rfl
theorem forL_ret {sc : Scope} {body : Rho → Option (Fl × Rho)} {tg : Expr} {d e : PyData} {ds : List PyData} {ρ ρ1 : Rho} {b : List (Str × PyData)} (hb : bindD tg d = some b) (ho : b.all (fun p => own1 sc p.1) = true) (h : body (ρ.sets b) = some (.ret e, ρ1)) :
    forL sc body tg (d :: ds) ρ = some (.ret e, ρ1) := by
  conv => lhs; unfold forL
  rw [hb, Option.bind_some, if_pos ho, h]; rfl
end

theorem forL_inv {r : Md → Scope → Rho → Expr → Option PyData} {sc : Scope} {body : Rho → Option (Fl × Rho)} {tg : Expr} (I : Rho → Prop) : ∀ (ds : List PyData) (ρ : Rho), (∀ d ∈ ds, ∀ ρ, I ρ → ∃ b ρ1, bindD tg d = some b ∧ b.all (fun p => own1 sc p.1) = true ∧ body (ρ.sets b) = some (.next, ρ1) ∧ I ρ1) → I ρ →
    ∃ ρ2, forL sc body tg ds ρ = some (.next, ρ2) ∧ I ρ2
  | [], ρ, _, i => ⟨ρ, rfl, i⟩
  | d :: ds, ρ, h, i => by
    obtain ⟨b, ρ1, h1, h2, h3, i1⟩ := h d List.mem_cons_self ρ i
    rw [forL_next h1 h2 h3]
    exact forL_inv (r := r) I ds ρ1 (fun d' hd' => h d' (List.mem_cons_of_mem _ hd')) i1

noncomputable def forOf : Stmt → Expr × List Stmt
  | .For tg _ b _ _ => (tg, b)
  | _ => (.Constant .none 0 ⟨0, 0, 0, 0⟩, [])
noncomputable def thenOf : Stmt → List Stmt
  | .If _ b _ _ => b
  | _ => []
noncomputable def rhsOf : Stmt → Expr
  | .Assign _ e _ => e
  | .Return (some e) _ => e
  | .Expr e _ => e
  | .AugAssign _ _ e _ => e
  | .If e _ _ _ => e
  | _ => .Constant .none 0 ⟨0, 0, 0, 0⟩
noncomputable def lcOf : Expr → Expr × List Comprehension × Scope
  | .ListComp e g s _ => (e, g, s)
  | e => (e, [], ⟨.function, [], false, false, []⟩)
noncomputable def stAt (l : List Stmt) (n : Nat) : Stmt := l.getD n (.Pass ⟨0, 0, 0, 0⟩)
noncomputable def gAt (g : List Comprehension) : Comprehension := g.headD ⟨.Constant .none 0 ⟨0, 0, 0, 0⟩, .Constant .none 0 ⟨0, 0, 0, 0⟩, [], 0⟩

/-! tables without entries -/
noncomputable def noRd : Str → List PyData → List PyData → Option PyData := fun _ _ _ => none
noncomputable def noWr : Str → List PyData → List PyData → Option (List PyData × PyData) := fun _ _ _ => none
noncomputable def noSrt : PyData → Option PyData := fun _ => none
noncomputable def noFnT : Str → List PyData → Option PyData := fun _ _ => none
noncomputable def T0 : HT := ⟨noRd, noWr, true⟩

section
variable {prog : Program} {w : World} {mg mb : Str → Option Value} {K : Frag} {H0 : Heap} {Ca : Addr} {k k' : Nat} {C : Cls}
theorem Room.mono {A : Around} (x : Room A k') (h : k ≤ k') : Room A k := ⟨x.handled, by have := x.depth; omega, by have := x.units; omega⟩
theorem noSrt_ok : SortOk prog w noSrt := fun _ _ e => nomatch e
theorem noFnT_ok : FnsOk prog w mg H0 ⟨noFnT, h⟩ k := fun _ _ _ e => nomatch e
theorem RdOk.mono {rd} (x : RdOk prog w K H0 Ca k rd) (h : k ≤ k') : RdOk prog w K H0 Ca k' rd := fun m ps args d e => let ⟨f, M, g⟩ := x m ps args d e; ⟨f, M, fun A s U y a vs vargs rm => g A s U y a vs vargs (rm.mono h)⟩
theorem WrOk.mono {wr} (x : WrOk prog w K H0 Ca k wr) (h : k ≤ k') : WrOk prog w K H0 Ca k' wr := fun m ps args ps' d e => let ⟨f, M, g⟩ := x m ps args ps' d e; ⟨f, M, fun A s U y a vs vargs n rm => g A s U y a vs vargs n (rm.mono h)⟩
theorem ClOk.mono {T : HT} (x : ClOk prog w mg mb K H0 Ca k T) (h : k ≤ k') : ClOk prog w mg mb K H0 Ca k' T :=
  ⟨x.cls, x.g, x.rd.mono h, x.wr.mono h, fun e => let ⟨a, b⟩ := x.cv e; ⟨Nat.le_trans a h, b⟩, x.field, x.nofield⟩
theorem NewOk.mono {ini} (x : NewOk prog w H0 Ca k ini) (h : k ≤ k') : NewOk prog w H0 Ca k' ini := fun A s U l vs ps e rm => x A s U l vs ps e (rm.mono h)
end
end Mine

namespace Mine
open PySem PySem.Calls PySem.Spec PyProof.Rows PySem.W PySem.SeqAt

/-! equality of data made of texts alone -/
mutual
noncomputable def strO : PyData → Bool
  | .str _ => true
  | .tuple ds => strOs ds
  | .list ds => strOs ds
  | _ => false
noncomputable def strOs : List PyData → Bool
  | [] => true
  | d :: ds => strO d && strOs ds
end
mutual
theorem eqv_eq : ∀ (a b : PyData), strO a = true → PyData.eqv a b = true → a = b
  | .str x, b, _, h => by
    cases b <;> simp only [PyData.eqv, Bool.false_eq_true] at h
    rw [beq_iff_eq.mp h]
  | .tuple xs, b, o, h => by
    cases b <;> simp only [PyData.eqv, Bool.false_eq_true] at h
    rw [eqvAll_eq xs _ (by unfold strO at o; exact o) h]
  | .list xs, b, o, h => by
    cases b <;> simp only [PyData.eqv, Bool.false_eq_true] at h
    rw [eqvAll_eq xs _ (by unfold strO at o; exact o) h]
  | .none, _, o, _ => by unfold strO at o; cases o
  | .bool _, _, o, _ => by unfold strO at o; cases o
  | .int _, _, o, _ => by unfold strO at o; cases o
  | .dict _, _, o, _ => by unfold strO at o; cases o
theorem eqvAll_eq : ∀ (a b : List PyData), strOs a = true → PyData.eqvAll a b = true → a = b
  | [], b, _, h => by
    cases b with
    | nil => rfl
    | cons => simp only [PyData.eqvAll, Bool.false_eq_true] at h
  | x :: xs, b, o, h => by
    cases b with
    | nil => simp only [PyData.eqvAll, Bool.false_eq_true] at h
    | cons y ys =>
      simp only [PyData.eqvAll, Bool.and_eq_true] at h
      unfold strOs at o
      rw [Bool.and_eq_true] at o
      rw [eqv_eq x y o.1 h.1, eqvAll_eq xs ys o.2 h.2]
end
theorem eqv_iff {a b : PyData} (o : strO a = true) (c : a.canLay0 = true) : PyData.eqv a b = true ↔ a = b :=
  ⟨eqv_eq a b o, fun h => h ▸ PySem.SeqAt.eqv_refl a c⟩
theorem strOs_all : ∀ {ds : List PyData}, (∀ d ∈ ds, strO d = true) → strOs ds = true
  | [], _ => rfl
  | d :: ds, h => by
    unfold strOs
    rw [h d List.mem_cons_self, strOs_all fun d' hd => h d' (List.mem_cons_of_mem _ hd)]; rfl
theorem canLayAll_all : ∀ {ds : List PyData}, (∀ d ∈ ds, d.canLay0 = true) → PyData.canLayAll0 ds = true
  | [], _ => rfl
  | d :: ds, h => by
    unfold PyData.canLayAll0
    rw [h d List.mem_cons_self, canLayAll_all fun d' hd => h d' (List.mem_cons_of_mem _ hd)]; rfl
theorem depthAll_le {n : Nat} : ∀ {ds : List PyData}, (∀ d ∈ ds, d.depth ≤ n) → PyData.depthAll ds ≤ n
  | [], _ => by unfold PyData.depthAll; omega
  | d :: ds, h => by
    unfold PyData.depthAll
    have h1 := h d List.mem_cons_self
    have h2 := depthAll_le (ds := ds) fun d' hd => h d' (List.mem_cons_of_mem _ hd)
    omega
theorem smallD_list {n : Nat} {ds : List PyData} (h1 : ∀ d ∈ ds, d.canLay0 = true) (h2 : ∀ d ∈ ds, d.depth ≤ n) (hn : n ≤ 60) : smallD (.list ds) = true := by
  unfold smallD
  rw [Bool.and_eq_true, decide_eq_true_eq]
  refine ⟨by unfold PyData.canLay0; exact canLayAll_all h1, ?_⟩
  unfold PyData.depth
  have := depthAll_le h2
  omega
theorem cmpNe {a b : PyData} (ha : smallD a = true) (hb : smallD b = true) : cmpD .NotEq a b = some (.bool (!PyData.eqv a b)) := if_pos (by rw [ha, hb]; rfl)
theorem cmpEq {a b : PyData} (ha : smallD a = true) (hb : smallD b = true) : cmpD .Eq a b = some (.bool (PyData.eqv a b)) := if_pos (by rw [ha, hb]; rfl)

/-! joins -/
theorem join_eq (sep : Str) (ys : List Str) : Txt.join sep ys = Str.join sep ys := PySem.StrLaws.glued_eq_join sep ys
theorem app_empty (x : Str) : x ++ ("" : Str) = x := by
  have : ("" : Str) = ⟨#[]⟩ := rfl
  rw [this]
  show (⟨x.cps ++ #[]⟩ : Str) = x
  rw [Array.append_empty]
theorem empty_app (x : Str) : ("" : Str) ++ x = x := by
  have : ("" : Str) = ⟨#[]⟩ := rfl
  rw [this]
  show (⟨#[] ++ x.cps⟩ : Str) = x
  rw [Array.empty_append]
theorem join0_cons (x : Str) (ys : List Str) : Str.join "" (x :: ys) = x ++ Str.join "" ys := by
  cases ys with
  | nil => show x = x ++ Str.empty; exact (app_empty x).symm
  | cons y r => rw [join_cons_cons, app_empty]
theorem join0_len : ∀ ys : List Str, (Str.join "" ys).length = (ys.map (·.length)).sum
  | [] => rfl
  | x :: ys => by rw [join0_cons, PySem.Str.length_append, join0_len ys]; rfl
/-- lines with their ends, and an empty one -/
theorem join_ends (sep : Str) : ∀ ys : List Str, Str.join sep (ys ++ [("" : Str), ("" : Str)]) = Str.join "" (ys.map (· ++ sep)) ++ sep
  | [] => by
    show ("" : Str) ++ sep ++ Str.join sep [("" : Str)] = Str.empty ++ sep
    rw [empty_app]
    show sep ++ ("" : Str) = ("" : Str) ++ sep
    rw [app_empty, empty_app]
  | x :: ys => by
    have ih := join_ends sep ys
    rw [List.map_cons, join0_cons]
    have : (x :: ys) ++ [("" : Str), ("" : Str)] = x :: (ys ++ [("" : Str), ("" : Str)]) := rfl
    rw [this]
    cases h : ys ++ [("" : Str), ("" : Str)] with
    | nil => simp at h
    | cons y r =>
      rw [join_cons_cons, ← h, ih]
      exact (PySem.Str.append_assoc _ _ _).symm
theorem strOk_app {a b : Str} (ha : PyData.strOk a = true) (hb : PyData.strOk b = true) : PyData.strOk (a ++ b) = true := by
  unfold PyData.strOk at ha hb ⊢
  rw [PySem.Str.cps_append, Array.all_append, ha, hb]; rfl
theorem strOk_join : ∀ {ys : List Str}, (∀ y ∈ ys, PyData.strOk y = true) → PyData.strOk (Str.join "" ys) = true
  | [], _ => by decide +kernel
  | y :: ys, h => by
    rw [join0_cons]
    exact strOk_app (h y List.mem_cons_self) (strOk_join fun z hz => h z (List.mem_cons_of_mem _ hz))
end Mine

namespace Mine
open PySem PySem.Calls PySem.Spec PyProof.Rows PySem.W PySem.SeqAt

theorem len2 {l : List Value} (h : l.length = 2) : ∃ a b, l = [a, b] := by
  rcases l with _ | ⟨a, l⟩
  · cases h
  · obtain ⟨b, rfl⟩ := List.length_eq_one_iff.mp (Nat.succ.inj h)
    exact ⟨a, b, rfl⟩
theorem len3 {l : List Value} (h : l.length = 3) : ∃ a b c, l = [a, b, c] := by
  rcases l with _ | ⟨a, l⟩
  · cases h
  · obtain ⟨b, c, rfl⟩ := len2 (Nat.succ.inj h)
    exact ⟨a, b, c, rfl⟩
/-! what the written heap says of functions, methods, names -/
section
variable {K : Frag} {H0 : Heap} {mg mb : Str → Option Value} {Ca : Addr}
theorem fdOf_at (X : K.In H0) {f : Addr} (e : (fdIn K f).isSome = true) : ∃ o, H0.get? f = some o ∧ o.data = .func (fdOf K f) := by
  obtain ⟨fd, h⟩ := Option.isSome_iff_exists.mp e
  have hf : fdOf K f = fd := by unfold fdOf; rw [h]; rfl
  unfold fdIn at h
  obtain ⟨o, ho, hd⟩ := Option.bind_eq_some_iff.mp h
  rw [hf]
  refine ⟨o, X _ _ ho, ?_⟩
  split at hd
  · rename_i fd' q; cases hd; exact q
  · cases hd
theorem defAt_K (X : K.In H0) (gns : H0.Ns mainGlobals mg) {f : Str} {a : Addr} {F : Fn} (e1 : nsIn K mainGlobals f = some (some (.ref a))) (e2 : (fdIn K a).isSome = true)
    (e3 : fdOf K a = docDef f F.params F.body F.scope (fdOf K a).pyModule (fdOf K a).code (fdOf K a).doc) (e4 : codeIn K (fdOf K a).code f = true) : DefAt mg H0 f F.params F.body F.scope := by
  obtain ⟨o, ho, hd⟩ := fdOf_at X e2
  exact ⟨a, o, _, _, _, mg_of X gns e1, ho, by rw [hd]; exact congrArg Data.func e3, codeRec_of X e4⟩
theorem methAt_K (X : K.In H0) {m : Str} {f : Addr} (e1 : findIn K (.ref Ca) m = some (some (.ref f))) (e2 : typeIn K (.ref f) = some (.type "function")) (e3 : (m == ("_headers" : Str)) = false)
    (e4 : (fdIn K f).isSome = true) (e5 : codeIn K (fdOf K f).code (fdOf K f).qualname = true) : MethAt K H0 Ca m f := ⟨e1, e2, e3, ⟨_, funAt_K X e4 e5⟩⟩
structure PlainIn (K : Frag) (f : Addr) (F : Fn) : Prop where
  isf : (fdIn K f).isSome = true
  code : codeIn K (fdOf K f).code (fdOf K f).qualname = true
  gl : (fdOf K f).globals = mainGlobals
  bl : (fdOf K f).builtins = builtinsNs
  cl : (fdOf K f).closure = []
  sc : (fdOf K f).scope = F.scope
  body : (fdOf K f).body = .stmts F.body
  plain : plainSc F.scope = true
theorem PlainIn.fd (x : PlainIn K f F) : plainFd (fdOf K f) := ⟨x.gl, x.bl, x.cl, by rw [x.sc]; exact x.plain⟩
theorem methFn0 (X : K.In H0) {f : Addr} {F : Fn} (p : PlainIn K f F) (hb : ∀ v, bindArgs (fdOf K f) ⟨[v], []⟩ = pure [(("self" : Str), v)]) (h1 : distinct [("self" : Str)] = true) (h2 : [("self" : Str)].all (own1 F.scope) = true) (h3 : isVar (F.scope.names.lookup ("self" : Str)) = true) : MethFn H0 f [] [] F.body F.scope :=
  ⟨⟨_, funAt_K X p.isf p.code, p.fd, p.sc, p.body, fun s _ self vals h => by
    have : vals = [] := List.eq_nil_of_length_eq_zero h
    subst this
    exact BindsTo.of_eq (hb self)⟩, h1, h2, h3⟩
theorem methFn1 (X : K.In H0) {f : Addr} {F : Fn} {a : Str} (p : PlainIn K f F) (hb : ∀ v u, bindArgs (fdOf K f) ⟨[v, u], []⟩ = pure [(("self" : Str), v), (a, u)]) (h1 : distinct [("self" : Str), a] = true) (h2 : [("self" : Str), a].all (own1 F.scope) = true) (h3 : isVar (F.scope.names.lookup ("self" : Str)) = true) : MethFn H0 f [a] [] F.body F.scope :=
  ⟨⟨_, funAt_K X p.isf p.code, p.fd, p.sc, p.body, fun s _ self vals h => by
    obtain ⟨u, rfl⟩ := List.length_eq_one_iff.mp h
    exact BindsTo.of_eq (hb self u)⟩, h1, h2, h3⟩
theorem methFn2 (X : K.In H0) {f : Addr} {F : Fn} {a b : Str} (p : PlainIn K f F) (hb : ∀ v u t, bindArgs (fdOf K f) ⟨[v, u, t], []⟩ = pure [(("self" : Str), v), (a, u), (b, t)]) (h1 : distinct [("self" : Str), a, b] = true) (h2 : [("self" : Str), a, b].all (own1 F.scope) = true) (h3 : isVar (F.scope.names.lookup ("self" : Str)) = true) : MethFn H0 f [a, b] [] F.body F.scope :=
  ⟨⟨_, funAt_K X p.isf p.code, p.fd, p.sc, p.body, fun s _ self vals h => by
    obtain ⟨u, t, rfl⟩ := len2 h
    exact BindsTo.of_eq (hb self u t)⟩, h1, h2, h3⟩
noncomputable def seqIn (K : Frag) (a : Addr) : Option (Array Nat) := (K.lookup a).bind fun (oc : Obj) => match oc.data with
  | .seq cs _ => some ((cs.map Builtin.Re.reRawOf).map (·.toNat))
  | _ => none
noncomputable def fieldsIn (K : Frag) (a b c : Option Value) : Option (Array Nat) := match a, b, c with
  | some (.int 0 0), some (.ref ct), some (.int 0 0) => seqIn K ct
  | _, _, _ => none
noncomputable def patIn (K : Frag) (p : Addr) : Option (Array Nat) := (K.lookup p).bind fun (o : Obj) => match o with
  | ⟨.type "re.Pattern", none, .fields fs, _⟩ => fieldsIn K fs[2]? fs[5]? fs[6]?
  | _ => none
theorem patAt_K (X : K.In H0) {p : Addr} {code : Array Nat} (e : patIn K p = some code) : PatAt H0 p code := by
  unfold patIn at e
  obtain ⟨o, ho, e⟩ := Option.bind_eq_some_iff.mp e
  split at e
  · rename_i fs sl
    unfold fieldsIn at e
    split at e
    · rename_i ct h2 h5 h6
      unfold seqIn at e
      obtain ⟨oc, hoc, e⟩ := Option.bind_eq_some_iff.mp e
      split at e
      · rename_i cs n hd
        cases e
        exact ⟨_, fs, ct, oc, cs, n, X _ _ ho, rfl, rfl, rfl, h2, h5, h6, X _ _ hoc, hd, rfl⟩
      · cases e
    · cases e
  · cases e
end
end Mine

namespace Mine
open PySem PySem.Calls PySem.Spec PyProof.Rows PySem.W PySem.SeqAt

/-! sorted: the kit's tree of questions, run on plain data -/
noncomputable def kasGo {α : Type} (lt : Nat → Nat → Option Bool) : KasT α → Option α
  | .ret a => some a
  | .ask i j k => (lt i j).bind fun b => kasGo lt (k b)
theorem kasGo_wp {α : Type} {lt : Nat → Nat → Option Bool} {cmp : Nat → Nat → (Bool → Shared → Prop) → Shared → Prop} {s : Shared} (hc : ∀ i j b (C : Bool → Shared → Prop), lt i j = some b → C b s → cmp i j C s) :
    ∀ (t : KasT α) (a : α) (Q : α → Shared → Prop), kasGo lt t = some a → Q a s → t.kasWp cmp Q s
  | .ret a, _, _, e, h => by cases e; exact h
  | .ask i j k, a, Q, e, h => by
    obtain ⟨b, hb, e⟩ := Option.bind_eq_some_iff.mp e
    exact hc i j b _ hb (kasGo_wp hc (k b) a Q e h)

section
variable {prog : Program} {w : World} {A : Around} {s : Shared}

theorem sort_tree {a : Addr} {vs out : List Value} {n : Nat} {P : PySem.Fin → Shared → Prop} {E : Value → Shared → Prop} (ho : s.heap.get? a = some (seqObj "list" vs.toArray n)) (h64 : vs.length < 64) (h1 : vs.length < 2 → out = vs) (hlen : out.length = vs.length)
    (hK : 2 ≤ vs.length → ∀ h', (∀ b o, b ≠ a → s.heap.get? b = some o → h'.get? b = some o) → wpAny (model prog w) A (keyKind' vs.toArray) (fun κ s' => s' = { s with heap := h' } ∧ (kas_sort vs.length).kasWp (kas_ask prog w A κ vs) (fun p s'' => s'' = { s with heap := h' } ∧ (p.toList.map fun i => vs.getD i Value.none) = out) { s with heap := h' }) NoE { s with heap := h' })
    (h : ∀ h' n', (∀ b o, b ≠ a → s.heap.get? b = some o → h'.get? b = some o) → h'.get? a = some (seqObj "list" out.toArray n') → P (.done (.ret .none)) { s with heap := h' }) :
    wpAny (model prog w) A (Builtin.«list.sort» ⟨[.ref a], []⟩) P E s := by
  have ha : a < s.heap.objs.size := Heap.lt_size ho
  obtain ⟨e1, ho1⟩ : ∃ e1, (s.heap.update a (Obj.mapSeq fun _ => (#[] : Array Value))).get? a = some (seqObj "list" #[] e1) := ⟨_, get?_update_seq ho fun _ => #[]⟩
  rw [list_sort_plain]
  refine wpAny_bind (listItems_at ho rfl ?_)
  refine wpAny_bind (listUpdate_at ho rfl ?_ (by rw [List.size_toArray, sizeLine_eq]; omega) (Nat.zero_le _))
  refine wpAny_bind (seqEpoch_at ho1 rfl ?_)
  refine wpAny_bind (wpAny_newTuple ?_ (by show vs.length ≤ _; rw [sizeLine_eq]; omega))
  refine wpAny_bind (wpAny_newList ?_ (Nat.zero_le _))
  refine wpAny_holding ?_
  have ho6 : (((s.heap.update a (Obj.mapSeq fun _ => (#[] : Array Value))).push (seqObj "tuple" vs.toArray 0)).push (seqObj "list" #[] 0)).get? a = some (seqObj "list" #[] e1) := by
    rw [Heap.get?_push_ne _ _ _ (by rw [size_push', Heap.size_update]; exact Nat.ne_of_lt (Nat.lt_succ_of_lt ha)), Heap.get?_push_ne _ _ _ (by rw [Heap.size_update]; exact Nat.ne_of_lt ha)]
    exact ho1
  have keep : ∀ b o, b ≠ a → s.heap.get? b = some o → (((s.heap.update a (Obj.mapSeq fun _ => (#[] : Array Value))).push (seqObj "tuple" vs.toArray 0)).push (seqObj "list" #[] 0)).get? b = some o := fun b o hb e =>
    Heap.get?_push_of_some _ (Heap.get?_push_of_some _ ((Heap.get?_update_ne _ _ _ _ hb).trans e))
  show wpAny (model prog w) A _ P E { s with heap := ((s.heap.update a (Obj.mapSeq fun _ => (#[] : Array Value))).push (seqObj "tuple" vs.toArray 0)).push (seqObj "list" #[] 0) }
  generalize hH : ((s.heap.update a (Obj.mapSeq fun _ => (#[] : Array Value))).push (seqObj "tuple" vs.toArray 0)).push (seqObj "list" #[] 0) = H at ho6 keep ⊢
  clear hH
  dsimp only
  have hsz : vs.toArray.size = vs.length := by simp
  have fin : ∀ arr : Array Value, arr = out.toArray → (∀ b o, b ≠ a → s.heap.get? b = some o → (H.update a (Obj.mapSeq fun _ => arr)).get? b = some o) ∧ ∃ n', (H.update a (Obj.mapSeq fun _ => arr)).get? a = some (seqObj "list" out.toArray n') := by
    rintro arr rfl
    exact ⟨fun b o hb e => (Heap.get?_update_ne _ _ _ _ hb).trans (keep b o hb e), _, get?_update_seq ho6 fun _ => out.toArray⟩
  by_cases h2 : vs.toArray.size < 2
  · rw [if_pos h2, if_pos h2]
    refine wpAny_bind (wpAny_pure ?_)
    rw [StateT.run_pure]
    refine wpAny_bind (wpAny_pure ?_)
    dsimp only
    have hout : (arrOf (SortSt.mk' general' (vs.toArray.zip vs.toArray) #[] 7 none)).map (·.2) = out.toArray := by
      rw [h1 (by omega)]
      show (vs.toArray.zip vs.toArray).map (·.2) = _
      apply Array.toList_inj.mp
      simp only [Array.toList_map, Array.toList_zip]
      exact List.map_snd_zip (Nat.le_refl _)
    obtain ⟨f1, n', f2⟩ := fin _ hout
    refine wpAny_bind (seqEpoch_at ho6 rfl ?_)
    refine wpAny_bind (listUpdate_at ho6 rfl ?_ (Nat.zero_le _) (by rw [hout, List.size_toArray, hlen, sizeLine_eq]; omega))
    simp only [bne_self_eq_false, Bool.false_eq_true, if_false]
    exact wpAny_pure (h _ n' f1 f2)
  · rw [if_neg h2, if_neg h2]
    refine wpAny_bind (wpAny_mono (hK (by omega) H keep) (fun κ s0 hk => ?_) fun _ _ x => x.elim)
    obtain ⟨rfl, hk⟩ := hk
    refine wpAny_bind (wpAny_mono (kat_run (Q := fun st' s' => ∃ p : Array Nat, arrOf st' = p.map (kas_item (vs.toArray.zip vs.toArray)) ∧ failedOf st' = none ∧ s' = { s with heap := H } ∧ (p.toList.map fun i => vs.getD i Value.none) = out)
      rfl (by omega) h64 (fun p' st' s' a1 a2 a3 a4 => ⟨p', a2, a3, a4⟩) hk) ?_ fun _ _ e => e)
    rintro ⟨⟨⟩, st'⟩ s' ⟨p, har, hf, rfl, hp⟩
    dsimp only
    have hout : (arrOf st').map (·.2) = out.toArray := by rw [kat_snds rfl har, hp]
    obtain ⟨f1, n', f2⟩ := fin _ hout
    refine wpAny_bind (seqEpoch_at ho6 rfl ?_)
    refine wpAny_bind (listUpdate_at ho6 rfl ?_ (Nat.zero_le _) (by rw [hout, List.size_toArray, hlen, sizeLine_eq]; omega))
    rw [hf]
    simp only [bne_self_eq_false, Bool.false_eq_true, if_false]
    exact wpAny_pure (h _ n' f1 f2)

theorem sorted_run {l : Addr} {vs out : List Value} {Q : Value → Shared → Prop} {E : Value → Shared → Prop} (hl : s.heap.IsList l vs.toArray) (h64 : vs.length < 64) (h1 : vs.length < 2 → out = vs) (hlen : out.length = vs.length)
    (hK : 2 ≤ vs.length → ∀ h', Stays s.heap h' → wpAny (model prog w) A.in1.in1 (keyKind' vs.toArray) (fun κ s' => s' = { s with heap := h' } ∧ (kas_sort vs.length).kasWp (kas_ask prog w A.in1.in1 κ vs) (fun p s'' => s'' = { s with heap := h' } ∧ (p.toList.map fun i => vs.getD i Value.none) = out) { s with heap := h' }) NoE { s with heap := h' })
    (h : ∀ h' b n, Stays s.heap h' → s.heap.get? b = none → h'.get? b = some (seqObj "list" out.toArray n) → Q (.ref b) { s with heap := h' }) :
    wpAny (model prog w) A (call (.builtin "sorted") [.ref l]) Q E s := by
  refine Calls.call_function_entry kind_sorted plain_sorted entry_sorted (args_sorted1 _) ?_
  unfold Builtin.«sorted»
  refine wpAny_bind (m := checkCount "sorted" 1 1 _) (wpAny_pure ?_)
  refine wpAny_bind (collect_list hl ?_ (by rw [sizeLine_eq]; omega))
  refine wpAny_bind (wpAny_newList ?_ (by rw [sizeLine_eq]; omega))
  have hsz : ((s.heap.push (seqObj "list" #[] 0)).update s.heap.objs.size (Obj.mapSeq (· ++ vs.toArray))).objs.size = s.heap.objs.size + 1 := by
    rw [Heap.size_update, size_push']
  have hoL : (((s.heap.push (seqObj "list" #[] 0)).update s.heap.objs.size (Obj.mapSeq (· ++ vs.toArray))).push (seqObj "list" vs.toArray 0)).get? (s.heap.objs.size + 1) = some (seqObj "list" vs.toArray 0) := by
    rw [← hsz]; exact Heap.get?_push_size _ rfl
  have keep : Stays s.heap (((s.heap.push (seqObj "list" #[] 0)).update s.heap.objs.size (Obj.mapSeq (· ++ vs.toArray))).push (seqObj "list" vs.toArray 0)) := fun b o q => by
    have hlt : b < s.heap.objs.size := Heap.lt_size q
    rw [Heap.get?_push_ne _ _ _ (by rw [hsz]; exact Nat.ne_of_lt (Nat.lt_succ_of_lt hlt)), Heap.get?_update_ne _ _ _ _ (Nat.ne_of_lt hlt), Heap.get?_push_ne _ _ _ (Nat.ne_of_lt hlt)]
    exact q
  show wpAny _ _ _ _ _ { s with heap := ((s.heap.push (seqObj "list" #[] 0)).update s.heap.objs.size (Obj.mapSeq (· ++ vs.toArray))).push (seqObj "list" vs.toArray 0) }
  rw [hsz]
  have old : ∀ h', (∀ b o, b ≠ s.heap.objs.size + 1 → (((s.heap.push (seqObj "list" #[] 0)).update s.heap.objs.size (Obj.mapSeq (· ++ vs.toArray))).push (seqObj "list" vs.toArray 0)).get? b = some o → h'.get? b = some o) → Stays s.heap h' := fun h' k b o e =>
    k b o (Nat.ne_of_lt (Nat.lt_succ_of_lt (Heap.lt_size e))) (keep b o e)
  refine wpAny_bind (wpAny_holding (wpAny_call_entry slot_list_sort ⟨_, hoL, rfl⟩ entry_list_sort ?body (args_list_sort _)))
  case body =>
    refine sort_tree (s := { s with heap := ((s.heap.push (seqObj "list" #[] 0)).update s.heap.objs.size (Obj.mapSeq (· ++ vs.toArray))).push (seqObj "list" vs.toArray 0) }) (out := out) hoL h64 h1 hlen (fun h2 h' k => hK h2 h' (old h' k)) fun h' n' k e => ?_
    exact ⟨_, rfl, wpAny_pure ⟨_, rfl, h h' _ n' (old h' k) (Heap.get?_none_of_le (Nat.le_succ _)) e⟩⟩
end
end Mine

namespace Mine
open PySem PySem.Calls PySem.Spec PyProof.Rows PySem.W PySem.SeqAt

/-! sorted of tuples whose items are ints and texts, as far as they are looked at -/
noncomputable def tyK : PyData → Option Bool
  | .int _ => some true
  | .str _ => some false
  | _ => none
noncomputable def fstK : PyData → Option PyData
  | .tuple ds => ds.head?
  | _ => none
noncomputable def keysT (t : Bool) (ds : List PyData) : Bool := ds.all fun d => ((fstK d).bind tyK) == some t
noncomputable def strOfD : PyData → Option Str
  | .str x => some x
  | _ => none
noncomputable def eqK (a b : PyData) : Option Bool := match a with
  | .int i => (match b with
    | .int j => some (i == j)
    | _ => none)
  | .str x => (strOfD b).map fun y => decide (x = y)
  | _ => none
noncomputable def ltK (a b : PyData) : Option Bool := match a with
  | .int i => (match b with
    | .int j => some (decide (i < j))
    | _ => none)
  | .str x => (strOfD b).map fun y => decide (x.cps.toList < y.cps.toList)
  | _ => none
noncomputable def ltTup (fin : Bool) : List PyData → List PyData → Option Bool
  | [], _ => some fin
  | a :: as, bs => (match bs with
    | [] => some fin
    | b :: bs => (eqK a b).bind fun e => if e then ltTup fin as bs else ltK a b)
noncomputable def tupOf : PyData → Option (List PyData)
  | .tuple ds => some ds
  | _ => none
noncomputable def ltT (a b : PyData) : Option Bool := (tupOf a).bind fun as => (tupOf b).bind fun bs => ltTup (decide (as.length < bs.length)) as bs
noncomputable def ltAt (lt : PyData → PyData → Option Bool) (ds : List PyData) (i j : Nat) : Option Bool := (ds[i]?).bind fun a => (ds[j]?).bind fun b => lt a b
noncomputable def permD (ds : List PyData) (p : List Nat) : Option (List PyData) := p.mapM fun i => ds[i]?
noncomputable def sortBy (lt : PyData → PyData → Option Bool) (ds : List PyData) : Option (List PyData) := (kasGo (ltAt lt ds) (kas_sort ds.length)).bind fun p => if p.size = ds.length then permD ds p.toList else none
noncomputable def srtT (d : PyData) : Option PyData := (listD d).bind fun ds => if ds.length < 2 then some (.list ds) else if ds.length < 64 then (if keysT true ds || keysT false ds then (sortBy ltT ds).map .list else none) else none

theorem tupOf_eq {d : PyData} {ds : List PyData} (q : tupOf d = some ds) : d = .tuple ds := by
  cases d with
  | tuple ds => cases q; rfl
  | _ => exact noSome q
theorem strOfD_eq {d : PyData} {x : Str} (q : strOfD d = some x) : d = .str x := by
  cases d with
  | str ds => cases q; rfl
  | _ => exact noSome q
section
variable {prog : Program} {w : World} {A : Around} {s : Shared} {U : Addr → Prop} {h : Heap} {E : Value → Shared → Prop}
theorem eqK_ok {x y : Value} {a b : PyData} {c : Bool} {Q : Bool → Shared → Prop} (hx : Rep U h x a) (hy : Rep U h y b) (e : eqK a b = some c) (q : Q c s) : wpAny (model prog w) A (eqBool x y) Q E s := by
  unfold eqK at e
  split at e
  · split at e
    · cases e; obtain ⟨_, rfl⟩ := hx.intInv; obtain ⟨_, rfl⟩ := hy.intInv; exact wpAny_eqBool_int q
    · cases e
  · obtain ⟨z, hz, rfl⟩ := Option.map_eq_some_iff.mp e
    have := strOfD_eq hz
    subst this
    obtain ⟨_, rfl⟩ := hx.strInv; obtain ⟨_, rfl⟩ := hy.strInv; exact wpAny_eqBool_str q
  · cases e
theorem ltK_ok {x y : Value} {a b : PyData} {c fl : Bool} {Q : Bool → Shared → Prop} (hx : Rep U h x a) (hy : Rep U h y b) (e : ltK a b = some c) (q : Q c s) : wpAny (model prog w) A (oneLt' fl x y) Q E s := by
  unfold ltK at e
  split at e
  · split at e
    · cases e; obtain ⟨_, rfl⟩ := hx.intInv; obtain ⟨_, rfl⟩ := hy.intInv
      cases fl
      · exact kat_one _ _ (PyProof.Rows.lt_int q)
      · exact oneLt_int q
    · cases e
  · obtain ⟨z, hz, rfl⟩ := Option.map_eq_some_iff.mp e
    have := strOfD_eq hz
    subst this
    obtain ⟨_, rfl⟩ := hx.strInv; obtain ⟨_, rfl⟩ := hy.strInv
    cases fl
    · exact kat_one _ _ (PyProof.Rows.lt_str q)
    · exact oneLt_str q
  · cases e
theorem lex_ok {b fin c : Bool} {Q : Bool → Shared → Prop} : ∀ {as bs : List PyData} {vs ws : List Value} {i : Nat}, RepAll U h vs as → RepAll U h ws bs → ltTup fin as bs = some c → Q c s → KatLex prog w A b fin Q (vs.zip ws) i s
  | [], _, vs, _, _, r1, _, e, q => by
    cases vs with
    | nil => cases e; exact kat_nil q
    | cons => have := r1.length; simp at this
  | a :: as, [], vs, ws, _, r1, r2, e, q => by
    cases ws with
    | nil => cases e; rw [List.zip_nil_right]; exact kat_nil q
    | cons => have := r2.length; simp at this
  | a :: as, d :: bs, vs, ws, i, r1, r2, e, q => by
    cases vs with
    | nil => have := r1.length; simp at this
    | cons v vs =>
      cases ws with
      | nil => have := r2.length; simp at this
      | cons u ws =>
        obtain ⟨e1, h1, e⟩ := Option.bind_eq_some_iff.mp e
        refine kat_cons (eqK_ok r1.head r2.head h1 ?_)
        cases e1 with
        | true => exact kat_yes (lex_ok r1.tail r2.tail e q)
        | false => exact kat_no (ltK_ok r1.head r2.head e q)
theorem ltT_ok {b c : Bool} {x y : Value} {d e : PyData} {Q : Bool → Shared → Prop} (hx : Rep U s.heap x d) (hy : Rep U s.heap y e) (q : ltT d e = some c) (k : Q c s) : wpAny (model prog w) A (keyLt' (tuples' b) x y) Q E s := by
  obtain ⟨as, ha, q⟩ := Option.bind_eq_some_iff.mp q
  obtain ⟨bs, hb, q⟩ := Option.bind_eq_some_iff.mp q
  have := tupOf_eq ha
  subst this
  have := tupOf_eq hb
  subst this
  obtain ⟨a1, vs, rfl, ⟨o1, h1, _, n1, d1⟩, r1⟩ := hx.tupleInv
  obtain ⟨a2, ws, rfl, ⟨o2, h2, _, n2, d2⟩, r2⟩ := hy.tupleInv
  refine kat_lt h1 d1 h2 d2 ?_
  have e : decide (vs.toArray.size < ws.toArray.size) = decide (as.length < bs.length) := by
    rw [List.size_toArray, List.size_toArray, r1.length, r2.length]
  rw [e]
  exact lex_ok r1 r2 q k

theorem tups_of {M : Model} {t : Bool} : ∀ {vs : List Value} {ds : List PyData}, RepAll U h vs ds → keysT t ds = true → ∃ fs, KatTups h vs fs ∧ fs.length = ds.length ∧ ∀ v ∈ fs, Looks M h (typeOf v) (if t then Value.type "int" else Value.type "str")
  | [], [], _, _ => ⟨[], .nil, rfl, fun _ m => nomatch m⟩
  | [], _ :: _, r, _ => by have := r.length; simp at this
  | _ :: _, [], r, _ => by have := r.length; simp at this
  | v :: vs, d :: ds, r, e => by
    unfold keysT at e
    rw [List.all_cons, Bool.and_eq_true] at e
    obtain ⟨fs, k1, k2, k3⟩ := tups_of (M := M) r.tail e.2
    obtain ⟨f, hf, ht⟩ := Option.bind_eq_some_iff.mp (beq_iff_eq.mp e.1)
    cases d <;> try (cases hf; done)
    rename_i es
    obtain ⟨a, ws, rfl, ⟨o, ho, hc, n, hd⟩, rr⟩ := r.head.tupleInv
    cases es with
    | nil => cases hf
    | cons f' es =>
      cases hf
      cases ws with
      | nil => have := rr.length; simp at this
      | cons u ws =>
        refine ⟨u :: fs, .cons ho hc hd (by simp) k1, by simp [k2], List.forall_mem_cons.mpr ⟨?_, k3⟩⟩
        have ru := rr.head
        cases f <;> cases ht
        · obtain ⟨_, rfl⟩ := ru.intInv; exact Looks.of_pure rfl
        · obtain ⟨_, rfl⟩ := ru.strInv; exact Looks.of_pure rfl

theorem mapM_get {vs : List Value} : ∀ {p : List Nat} {ds es : List PyData}, RepAll U h vs ds → permD ds p = some es → ∀ (W : Addr → Prop), (∀ a, U a → W a) → RepAll W h (p.map fun i => vs.getD i Value.none) es
  | [], ds, es, _, e, _, _ => by
    unfold permD at e
    simp at e
    subst e
    exact .nil
  | i :: p, ds, es, r, e, W, hW => by
    unfold permD at e
    rw [List.mapM_cons] at e
    obtain ⟨d, hd, e⟩ := Option.bind_eq_some_iff.mp e
    obtain ⟨es', he, e⟩ := Option.bind_eq_some_iff.mp e
    cases e
    obtain ⟨v, hv, rv⟩ := r.get hd
    rw [List.map_cons]
    refine .cons ?_ (mapM_get r he W hW)
    rw [List.getD_eq_getElem?_getD, hv]
    exact rv.mono hW

theorem repAll_ne {b : Addr} {vs : List Value} {ds : List PyData} (r : RepAll U h vs ds) (nb : h.get? b = none) : RepAll (fun c => U c ∧ c ≠ b) h vs ds := by
  obtain ⟨as, q, u⟩ := r
  refine ⟨as, q, fun a m => ⟨u a m, fun e => ?_⟩⟩
  obtain ⟨o, ho⟩ := repAll_new.readsAll_alloc q a m
  rw [e, nb] at ho; cases ho
/-- whatever the keys' kind is -/
theorem sort_ok {lt : PyData → PyData → Option Bool} {ds es : List PyData} {v : Value} (hv : RepR U s.heap v (.list ds)) (h64 : ds.length < 64) (hes : if ds.length < 2 then es = ds else sortBy lt ds = some es)
    (hK : ∀ vs, RepAll U s.heap vs ds → 2 ≤ ds.length → ∃ κ, (∀ h' (Q : SortKind → Shared → Prop), Stays s.heap h' → Q κ { s with heap := h' } → wpAny (model prog w) A.in1.in1 (keyKind' vs.toArray) Q NoE { s with heap := h' }) ∧
      ∀ h' x y a b c (Q : Bool → Shared → Prop), Stays s.heap h' → Rep U s.heap x a → Rep U s.heap y b → lt a b = some c → Q c { s with heap := h' } → wpAny (model prog w) A.in1.in1 (keyLt' κ x y) Q NoE { s with heap := h' }) :
    wpAny (model prog w) A (call (.builtin "sorted") [v]) (EvPostF U s es) NoE s := by
  obtain ⟨l, vs, rfl, hl, rr⟩ := hv
  have hlen := rr.length
  by_cases h2 : ds.length < 2
  · rw [if_pos h2] at hes
    subst hes
    refine sorted_run hl (by omega) (fun _ => rfl) rfl (fun z => by omega) fun h' b n st nb e => ?_
    exact ⟨h', s.toks, b, vs, n, rfl, st, rfl, nb, e, (repAll_ne rr nb).stays st⟩
  · rw [if_neg h2] at hes
    obtain ⟨p, hp, hes⟩ := Option.bind_eq_some_iff.mp hes
    split at hes
    rotate_left
    · cases hes
    rename_i hps
    obtain ⟨κ, kk, kl⟩ := hK vs rr (by omega)
    refine sorted_run (out := p.toList.map fun i => vs.getD i Value.none) hl (by omega) (fun z => by omega) (by rw [List.length_map, Array.length_toList, hps, hlen]) (fun _ h' st => ?_) fun h' b n st nb e => ?_
    · refine kk h' _ st ⟨rfl, ?_⟩
      rw [hlen]
      refine kasGo_wp (fun i j c C q k => ?_) _ p _ hp ⟨rfl, rfl⟩
      obtain ⟨a, ha, q⟩ := Option.bind_eq_some_iff.mp q
      obtain ⟨b, hb, q⟩ := Option.bind_eq_some_iff.mp q
      obtain ⟨x, hx, rx⟩ := rr.get ha
      obtain ⟨y, hy, ry⟩ := rr.get hb
      unfold kas_ask
      rw [List.getD_eq_getElem?_getD, List.getD_eq_getElem?_getD, hx, hy]
      exact kl h' x y a b c C st rx ry q k
    · exact ⟨h', s.toks, b, _, n, rfl, st, rfl, nb, e, (mapM_get (repAll_ne rr nb) hes _ fun _ u => u).stays st⟩

theorem srtT_ok : SortOk prog w srtT := by
  intro d e q
  replace q := Option.bind_eq_some_iff.mp q
  obtain ⟨ds, hd, q⟩ := q
  have := listD_eq hd
  subst this
  have main : ∀ es, (if ds.length < 2 then es = ds else sortBy ltT ds = some es) → ds.length < 64 → (2 ≤ ds.length → ∃ t, keysT t ds = true) → ∀ (A : Around) (s : Shared) (U : Addr → Prop) (v : Value), Room A 0 → RepR U s.heap v (.list ds) →
      wpAny (model prog w) A (call (.builtin "sorted") [v]) (EvPostF U s es) NoE s := fun es hes h64 ht A s U v _ hv => by
    refine sort_ok hv h64 hes fun vs rr h2 => ?_
    obtain ⟨t, ht⟩ := ht h2
    obtain ⟨fs, k1, k2, k3⟩ := tups_of (M := model prog w) rr ht
    refine ⟨tuples' true, fun h' Q st k => ?_, fun h' x y a b c Q st rx ry e k => ltT_ok (s := { s with heap := h' }) (rx.stays st) (ry.stays st) e k⟩
    have k1' : KatTups h' vs fs := kat_stays st k1
    cases t
    · exact kat_kind (s := { s with heap := h' }) (T := Value.type "str") k1' (by omega) (fun v hv => (k3 v hv).keeps st) rfl k
    · exact kat_kind (s := { s with heap := h' }) (T := Value.type "int") k1' (by omega) (fun v hv => (k3 v hv).keeps st) rfl k
  split at q
  · rename_i h2
    cases q
    exact ⟨ds, rfl, fun A s U v rm hv _ => main ds (by rw [if_pos h2]) (by omega) (fun z => by omega) A s U v rm hv⟩
  · rename_i h2
    replace q := iteS q
    obtain ⟨h64, q⟩ := q
    replace q := iteS q
    obtain ⟨hk, q⟩ := q
    obtain ⟨es, he, rfl⟩ := Option.map_eq_some_iff.mp q
    refine ⟨es, rfl, fun A s U v rm hv _ => main es (by rw [if_neg h2]; exact he) h64 (fun _ => ?_) A s U v rm hv⟩
    rcases Bool.or_eq_true_iff.mp hk with k | k
    · exact ⟨_, k⟩
    · exact ⟨_, k⟩
where
  kat_stays {h h' : Heap} (st : Stays h h') : ∀ {vs fs : List Value}, KatTups h vs fs → KatTups h' vs fs
    | [], [], _ => trivial
    | [], _ :: _, t => t.elim
    | _ :: _, [], t => t.elim
    | _ :: _, _ :: _, ⟨⟨a, o, xs, n, e, ho, r⟩, t⟩ => ⟨⟨a, o, xs, n, e, st _ _ ho, r⟩, kat_stays st t⟩
end
end Mine

namespace Mine
open PySem PySem.Calls PySem.Spec PyProof.Rows PySem.W PySem.SeqAt

/-! the tree of questions puts distinct keys in order -/
section
variable {n : Nat} {key : Nat → Nat} {lt : Nat → Nat → Option Bool} {p : Array Nat}
noncomputable def PermN (n : Nat) (p : Array Nat) : Prop := p.Perm (List.toArray (List.range n))
noncomputable def kp (key : Nat → Nat) (p : Array Nat) (i : Nat) : Nat := key (p.getD i 0)
noncomputable def Asc (key : Nat → Nat) (p : Array Nat) (m : Nat) : Prop := ∀ i j, i < j → j < m → kp key p i < kp key p j
noncomputable def Dsc (key : Nat → Nat) (p : Array Nat) (m : Nat) : Prop := ∀ i j, i < j → j < m → kp key p j < kp key p i
structure Ask (n : Nat) (key : Nat → Nat) (lt : Nat → Nat → Option Bool) : Prop where
  ans : ∀ i j, i < n → j < n → i ≠ j → lt i j = some (decide (key i < key j))
  inj : ∀ i j, i < n → j < n → key i = key j → i = j

theorem PermN.size (h : PermN n p) : p.size = n := by have := h.size_eq; simpa using this
theorem PermN.list (h : PermN n p) : p.toList.Perm (List.range n) := Array.perm_iff_toList_perm.mp h
theorem getD_eq {i : Nat} : p.getD i 0 = (p[i]?).getD 0 := by rw [Array.getD_eq_getD_getElem?]
theorem PermN.below (h : PermN n p) {i : Nat} (hi : i < n) : p.getD i 0 < n := by
  have hz : i < p.size := by rw [h.size]; exact hi
  have : p[i] ∈ p.toList := by simp
  have := List.mem_range.mp (h.list.mem_iff.mp this)
  rw [getD_eq, Array.getElem?_eq_getElem hz]
  exact this
theorem PermN.at_inj (h : PermN n p) {i j : Nat} (hi : i < n) (hj : j < n) (e2 : p.getD i 0 = p.getD j 0) : i = j := by
  have nd : p.toList.Nodup := h.list.nodup_iff.mpr List.nodup_range
  have hi' : i < p.toList.length := by rw [Array.length_toList, h.size]; exact hi
  have hj' : j < p.toList.length := by rw [Array.length_toList, h.size]; exact hj
  rw [getD_eq, getD_eq, Array.getElem?_eq_getElem (by simpa using hi'), Array.getElem?_eq_getElem (by simpa using hj')] at e2
  simp only [Option.getD_some] at e2
  exact (List.getElem_inj (h₀ := hi') (h₁ := hj') nd).mp (by simpa using e2)
theorem PermN.ne (h : PermN n p) (W : Ask n key lt) {i j : Nat} (hi : i < n) (hj : j < n) (hij : i ≠ j) : kp key p i ≠ kp key p j := by
  intro e
  exact hij (h.at_inj hi hj (W.inj _ _ (h.below hi) (h.below hj) e))
theorem ask_go {α : Type} (h : PermN n p) (W : Ask n key lt) {i j : Nat} (hi : i < n) (hj : j < n) {k : Bool → KasT α} (hij : i ≠ j := by omega) : kasGo lt (.ask (p.getD i 0) (p.getD j 0) k) = kasGo lt (k (decide (kp key p i < kp key p j))) := by
  show (lt _ _).bind _ = _
  rw [W.ans _ _ (h.below hi) (h.below hj) fun e => hij (h.at_inj hi hj e)]; rfl
theorem go_bind {α β : Type} : ∀ (t : KasT α) (f : α → KasT β), kasGo lt (t.bind f) = (kasGo lt t).bind fun a => kasGo lt (f a)
  | .ret _, _ => rfl
  | .ask i j k, f => by
    show (lt i j).bind (fun b => kasGo lt ((k b).bind f)) = ((lt i j).bind fun b => kasGo lt (k b)).bind _
    rw [Option.bind_assoc]
    congr 1
    funext b
    exact go_bind (k b) f

theorem Asc.succ {m : Nat} (a : Asc key p m) (h1 : 1 ≤ m) (hl : kp key p (m - 1) < kp key p m) : Asc key p (m + 1) := fun i j hij hj => by
  by_cases e : j = m
  · subst e
    by_cases e2 : i = j - 1
    · subst e2; exact hl
    · exact Nat.lt_trans (a i (j - 1) (by omega) (by omega)) hl
  · exact a i j hij (by omega)
theorem Dsc.succ {m : Nat} (a : Dsc key p m) (h1 : 1 ≤ m) (hl : kp key p m < kp key p (m - 1)) : Dsc key p (m + 1) := fun i j hij hj => by
  by_cases e : j = m
  · subst e
    by_cases e2 : i = j - 1
    · subst e2; exact hl
    · exact Nat.lt_trans hl (a i (j - 1) (by omega) (by omega))
  · exact a i j hij (by omega)

theorem asc_go (h : PermN n p) (W : Ask n key lt) : ∀ (f m : Nat), 1 ≤ m → m + f = n → Asc key p m → ∃ r, kasGo lt (kas_asc p f m) = some r ∧ m ≤ r ∧ r ≤ n ∧ Asc key p r ∧ (r < n → kp key p r < kp key p (r - 1))
  | 0, m, _, hm, a => ⟨m, rfl, Nat.le_refl _, by omega, a, fun z => by omega⟩
  | f + 1, m, h1, hm, a => by
    unfold kas_asc
    rw [ask_go h W (by omega) (by omega)]
    by_cases c : kp key p m < kp key p (m - 1)
    · rw [decide_eq_true c]
      exact ⟨m, rfl, Nat.le_refl _, by omega, a, fun _ => c⟩
    · rw [decide_eq_false c]
      have ne := h.ne W (i := m) (j := m - 1) (by omega) (by omega) (by omega)
      obtain ⟨r, e, h2, h3, h4, h5⟩ := asc_go h W f (m + 1) (by omega) (by omega) (a.succ h1 (by omega))
      exact ⟨r, e, by omega, h3, h4, h5⟩
theorem desc_go (h : PermN n p) (W : Ask n key lt) : ∀ (f m : Nat), 1 ≤ m → m + f = n → Dsc key p m → ∃ r, kasGo lt (kas_desc f p m 0) = some (p, r, 0) ∧ m ≤ r ∧ r ≤ n ∧ Dsc key p r
  | 0, m, _, hm, a => ⟨m, rfl, Nat.le_refl _, by omega, a⟩
  | f + 1, m, h1, hm, a => by
    unfold kas_desc
    rw [ask_go h W (by omega) (by omega)]
    by_cases c : kp key p m < kp key p (m - 1)
    · rw [decide_eq_true c, if_pos rfl, if_neg (by omega)]
      obtain ⟨r, e, h2, h3, h4⟩ := desc_go h W f (m + 1) (by omega) (by omega) (a.succ h1 c)
      exact ⟨r, e, by omega, h3, h4⟩
    · rw [decide_eq_false c, if_neg (by simp)]
      have ne := h.ne W (i := m) (j := m - 1) (by omega) (by omega) (by omega)
      rw [ask_go h W (by omega) (by omega), decide_eq_true (by omega), if_pos rfl]
      exact ⟨m, rfl, Nat.le_refl _, by omega, a⟩
theorem rev_perm (h : PermN n p) (i j : Nat) : PermN n (kas_rev p i j) := (mirror_perm p i j _).trans h
theorem rev_asc (h : PermN n p) {m : Nat} (hm : m ≤ n) (a : Dsc key p m) : Asc key (kas_rev p 0 m) m := fun i j hij hj => by
  have e : ∀ k, k < m → kp key (kas_rev p 0 m) k = kp key p (m - 1 - k) := fun k hk => by
    unfold kp kas_rev
    rw [getD_eq, getD_eq, getElem?_mirror_all (by rw [h.size]; exact hm), if_pos ⟨by omega, hk⟩]
    congr 3
    omega
  rw [e i (by omega), e j hj]
  exact a _ _ (by omega) (by omega)
theorem tail3_go (h : PermN n p) (W : Ask n key lt) {m : Nat} (h1 : 1 ≤ m) (hm : m ≤ n) (a : Dsc key p m) : ∃ r p', kasGo lt (kas_tail3 m n p) = some (r, p') ∧ 1 ≤ r ∧ r ≤ n ∧ PermN n p' ∧ Asc key p' r := by
  unfold kas_tail3
  obtain ⟨r, e, h2, h3, h4, _⟩ := asc_go (rev_perm h 0 m) W (n - m) m h1 (by omega) (rev_asc h hm a)
  rw [go_bind, e]
  exact ⟨r, _, rfl, by omega, h3, rev_perm h 0 m, h4⟩
theorem count_go (h : PermN n p) (W : Ask n key lt) (h1 : 1 ≤ n) : ∃ r p', kasGo lt (kas_count n p) = some (r, p') ∧ 1 ≤ r ∧ r ≤ n ∧ PermN n p' ∧ Asc key p' r := by
  unfold kas_count
  obtain ⟨r, e, h2, h3, h4, h5⟩ := asc_go h W (n - 1) 1 (Nat.le_refl _) (by omega) (fun i j hij hj => by omega)
  rw [go_bind, e, Option.bind_some]
  by_cases hr : (r == n) = true
  · rw [if_pos hr]
    exact ⟨r, p, rfl, h2, h3, h, h4⟩
  · rw [if_neg hr]
    have hrn : r < n := by
      have : r ≠ n := fun z => hr (by rw [z]; exact beq_self_eq_true _)
      omega
    by_cases h6 : r > 1
    · rw [if_pos h6, ask_go h W (by omega) (by omega), decide_eq_true (h4 0 (r - 1) (by omega) (by omega)), if_pos rfl]
      exact ⟨r, p, rfl, h2, h3, h, h4⟩
    · rw [if_neg h6]
      have : r = 1 := by omega
      subst this
      have c := h5 hrn
      have d2 : Dsc key p 2 := fun i j hij hj => by
        have hi : i = 0 := by omega
        have hj : j = 1 := by omega
        subst hi hj
        exact c
      unfold kas_descPart
      obtain ⟨m, e2, h7, h8, h9⟩ := desc_go h W (n - 2) 2 (by omega) (by omega) d2
      rw [go_bind, e2, Option.bind_some]
      dsimp only
      rw [if_neg (by omega)]
      exact tail3_go h W (by omega) h8 h9
theorem place_go (h : PermN n p) (W : Ask n key lt) {k : Nat} (hk : k < n) (a : Asc key p k) : ∀ (f l r : Nat), l ≤ r → r ≤ k → r - l ≤ f → (∀ i, i < l → kp key p i < kp key p k) → (∀ i, r ≤ i → i < k → kp key p k < kp key p i) →
    ∃ m, kasGo lt (kas_place p k f l r) = some m ∧ m ≤ k ∧ (∀ i, i < m → kp key p i < kp key p k) ∧ (∀ i, m ≤ i → i < k → kp key p k < kp key p i)
  | 0, l, r, h1, h2, h3, h4, h5 => ⟨l, rfl, by omega, h4, fun i hi => h5 i (by omega)⟩
  | f + 1, l, r, h1, h2, h3, h4, h5 => by
    unfold kas_place
    by_cases c : l ≥ r
    · rw [if_pos c]
      exact ⟨l, rfl, by omega, h4, fun i hi => h5 i (by omega)⟩
    · rw [if_neg c, ask_go h W hk (by omega)]
      have ne := h.ne W (i := k) (j := (l + r) / 2) hk (by omega) (by omega)
      by_cases d : kp key p k < kp key p ((l + r) / 2)
      · rw [decide_eq_true d, if_pos rfl]
        refine place_go h W hk a f l ((l + r) / 2) (by omega) (by omega) (by omega) h4 fun i hi hik => ?_
        by_cases e : i = (l + r) / 2
        · subst e; exact d
        · exact Nat.lt_trans d (a _ _ (by omega) hik)
      · rw [decide_eq_false d, if_neg (by simp)]
        refine place_go h W hk a f ((l + r) / 2 + 1) r (by omega) h2 (by omega) (fun i hi => ?_) h5
        by_cases e : i = (l + r) / 2
        · subst e; omega
        · exact Nat.lt_trans (a i ((l + r) / 2) (by omega) (by omega)) (by omega)
theorem bin_go (W : Ask n key lt) : ∀ (f k : Nat) (p : Array Nat), PermN n p → k + f = n → Asc key p k → ∃ p', kasGo lt (kas_bin f p k) = some p' ∧ PermN n p' ∧ Asc key p' n
  | 0, k, p, h, hk, a => ⟨p, rfl, h, by rw [← hk]; exact a⟩
  | f + 1, k, p, h, hk, a => by
    unfold kas_bin
    obtain ⟨l, e, h1, h2, h3⟩ := place_go h W (k := k) (by omega) a k 0 k (by omega) (Nat.le_refl _) (by omega) (fun i hi => by omega) (fun i hi hik => by omega)
    rw [go_bind, e, Option.bind_some]
    refine bin_go W f (k + 1) _ ((bubble_perm p k _).trans h) (by omega) fun i j hij hj => ?_
    have g : ∀ x, x ≤ k → kp key (bubble p k (k - l)) x = if x = l then kp key p k else if l < x then kp key p (x - 1) else kp key p x := fun x hx => by
      unfold kp
      rw [getD_eq, getElem?_bubble (by rw [h.size]; omega) _ (by omega)]
      have e1 : k - (k - l) = l := by omega
      rw [e1]
      by_cases c1 : x = l
      · rw [if_pos c1, if_pos c1, getD_eq]
      · rw [if_neg c1, if_neg c1]
        by_cases c2 : l < x
        · rw [if_pos ⟨c2, hx⟩, if_pos c2, getD_eq]
        · rw [if_neg (by omega), if_neg c2, getD_eq]
    rw [g i (by omega), g j (by omega)]
    by_cases c1 : i = l
    · rw [if_pos c1, if_neg (by omega), if_pos (by omega)]
      exact h3 _ (by omega) (by omega)
    · rw [if_neg c1]
      by_cases c2 : l < i
      · rw [if_pos c2, if_neg (by omega), if_pos (by omega)]
        exact a _ _ (by omega) (by omega)
      · rw [if_neg c2]
        by_cases c3 : j = l
        · rw [if_pos c3]; exact h2 i (by omega)
        · rw [if_neg c3]
          by_cases c4 : l < j
          · rw [if_pos c4]
            by_cases c5 : i = j - 1
            · omega
            · exact a _ _ (by omega) (by omega)
          · rw [if_neg c4]; exact a _ _ hij (by omega)
theorem sort_go (W : Ask n key lt) (h1 : 1 ≤ n) : ∃ p, kasGo lt (kas_sort n) = some p ∧ PermN n p ∧ Asc key p n := by
  unfold kas_sort
  obtain ⟨r, p', e, h2, h3, h4, h5⟩ := count_go (p := List.toArray (List.range n)) (Array.Perm.refl _) W h1
  rw [go_bind, e, Option.bind_some]
  dsimp only
  by_cases c : r < n
  · rw [if_pos c]
    have : max r 1 = r := by omega
    rw [this]
    exact bin_go W _ _ _ h4 (by omega) h5
  · rw [if_neg c]
    have : r = n := by omega
    exact ⟨p', rfl, h4, this ▸ h5⟩
end

theorem permD_some {ds : List PyData} : ∀ {l : List Nat}, (∀ i ∈ l, i < ds.length) → permD ds l = some (l.map fun i => ds.getD i .none)
  | [], _ => rfl
  | i :: l, h => by
    unfold permD
    rw [List.mapM_cons, List.getElem?_eq_getElem (h i List.mem_cons_self)]
    have ih : l.mapM (fun i => ds[i]?) = _ := permD_some fun j hj => h j (List.mem_cons_of_mem _ hj)
    rw [ih]
    show some _ = some _
    rw [List.map_cons, List.getD_eq_getElem?_getD, List.getElem?_eq_getElem (h i List.mem_cons_self)]
    rfl
/-- sorted gives the items in the order of their keys -/
theorem sortBy_spec {lt : PyData → PyData → Option Bool} {key : PyData → Nat} {ds : List PyData} (h1 : 1 ≤ ds.length) (hl : ∀ a ∈ ds, ∀ b ∈ ds, key a ≠ key b → lt a b = some (decide (key a < key b))) (nd : (ds.map key).Nodup) :
    ∃ es, sortBy lt ds = some es ∧ es.Perm ds ∧ es.Pairwise fun a b => key a < key b := by
  have W : Ask ds.length (fun i => key (ds.getD i .none)) (ltAt lt ds) := by
    have inj : ∀ i j, i < ds.length → j < ds.length → key (ds.getD i .none) = key (ds.getD j .none) → i = j := fun i j hi hj e => by
      rw [List.getD_eq_getElem?_getD, List.getD_eq_getElem?_getD, List.getElem?_eq_getElem hi, List.getElem?_eq_getElem hj] at e
      have hi' : i < (ds.map key).length := by rw [List.length_map]; exact hi
      have hj' : j < (ds.map key).length := by rw [List.length_map]; exact hj
      exact (List.getElem_inj (h₀ := hi') (h₁ := hj') nd).mp (by simpa using e)
    refine ⟨fun i j hi hj hij => ?_, inj⟩
    have hne : key (ds.getD i .none) ≠ key (ds.getD j .none) := fun e => hij (inj i j hi hj e)
    rw [List.getD_eq_getElem?_getD, List.getD_eq_getElem?_getD, List.getElem?_eq_getElem hi, List.getElem?_eq_getElem hj] at hne
    unfold ltAt
    rw [List.getElem?_eq_getElem hi, List.getElem?_eq_getElem hj]
    show lt _ _ = _
    rw [hl _ (List.getElem_mem hi) _ (List.getElem_mem hj) hne, List.getD_eq_getElem?_getD, List.getD_eq_getElem?_getD, List.getElem?_eq_getElem hi, List.getElem?_eq_getElem hj]
    rfl
  obtain ⟨p, e, hp, ha⟩ := sort_go W h1
  have hlt : ∀ i ∈ p.toList, i < ds.length := fun i hi => List.mem_range.mp (hp.list.mem_iff.mp hi)
  refine ⟨p.toList.map fun i => ds.getD i .none, ?_, ?_, ?_⟩
  · unfold sortBy
    rw [e, Option.bind_some, if_pos hp.size, permD_some hlt]
  · have := hp.list.map fun i => ds.getD i PyData.none
    refine this.trans (List.Perm.of_eq ?_)
    apply List.ext_getElem (by simp)
    intro i h1 h2
    simp [List.getElem?_eq_getElem h2]
  · rw [List.pairwise_iff_getElem]
    intro i j hi hj hij
    have hi' : i < ds.length := by simpa [hp.size] using hi
    have hj' : j < ds.length := by simpa [hp.size] using hj
    have := ha i j hij hj'
    unfold kp at this
    rw [getD_eq, getD_eq, Array.getElem?_eq_getElem (by rw [hp.size]; exact hi'), Array.getElem?_eq_getElem (by rw [hp.size]; exact hj')] at this
    simpa using this
end Mine

namespace Mine
open PySem PySem.Calls PySem.Spec PyProof.Rows PySem.W PySem.SeqAt

/-! the evaluator of statements that drops names ahead of a block -/
section
variable (r : Md → Scope → Rho → Expr → Option PyData) (mu : List Str) (sc : Scope) (sh : SHook)
noncomputable def exsN (nz : List Stmt → Rho → Rho) : Nat → List Stmt → Rho → Option (Fl × Rho)
  | 0, _, _ => none
  | n + 1, l, ρ => exL r mu sc sh (exsN nz n) l (nz l ρ)
end
/-- only these names, in this order -/
noncomputable def keepR (xs : List Str) (ρ : Rho) : Rho := xs.filterMap fun x => (ρ.lookup x).map fun e => (x, e)
theorem keepR_lookup {ρ : Rho} {x : Str} {e : Ent} : ∀ {xs : List Str}, (keepR xs ρ).lookup x = some e → ρ.lookup x = some e
  | [], q => by cases q
  | y :: xs, q => by
    unfold keepR at q
    rw [List.filterMap_cons] at q
    cases hy : ρ.lookup y with
    | none => rw [hy] at q; exact keepR_lookup (xs := xs) q
    | some e' =>
      rw [hy] at q
      simp only [Option.map_some, List.lookup_cons] at q
      cases hxy : x == y with
      | true =>
        rw [hxy] at q
        cases q
        rw [beq_iff_eq.mp hxy]; exact hy
      | false =>
        rw [hxy] at q
        exact keepR_lookup (xs := xs) q
noncomputable def Drops (nz : List Stmt → Rho → Rho) : Prop := ∀ l ρ x e, (nz l ρ).lookup x = some e → ρ.lookup x = some e
section
variable {prog : Program} {w : World} {A : Around} {C : Cls} {H0 : Heap} {P : Addr → Prop} {B : Addr → Option Obj} {env : Env} {own : Str → Bool} {X : List (Str × Addr)} {ρ ρ' : Rho} {h : Heap} {k : Nat} {mg mb : Str → Option Value}
variable {Φ : Tab} {srt : PyData → Option PyData} {mu : List Str} {N : Nat} {sh : SHook} {nz : List Stmt → Rho → Rho}
theorem St.less (t : St C H0 P B env own X ρ h) (d : ∀ x e, ρ'.lookup x = some e → ρ.lookup x = some e) : St C H0 P B env own X ρ' h :=
  { t with vars := fun x e q => t.vars x e (by
      unfold look at q ⊢
      split at q
      · rename_i hc; rw [if_pos hc]; exact d x e q
      · cases q) }
theorem exsN_ok (PS : SpecOk prog w mg H0 C Φ k) (T : SortOk prog w srt) (G : Ground0 mg mb H0) (rm : Room A k) (SH : StmtOk prog w C H0 k sh) (D : Drops nz) : ∀ n l, BlockOk prog w A C H0 P env (own1 env.scope) l (exsN (ev Φ srt N) mu env.scope sh nz n l)
  | 0, _ => fun _ _ _ _ _ _ q _ => nomatch q
  | n + 1, l => fun ρ fl ρ' B X s q t => exL_ok PS T G rm SH (exsN_ok PS T G rm SH D n) l (nz l ρ) fl ρ' B X s q (t.less (D l ρ))
theorem exsN_blk (PS : SpecOk prog w mg H0 C Φ k) (T : SortOk prog w srt) (G : Ground0 mg mb H0) (SH : StmtOk prog w C H0 k sh) (D : Drops nz) {body : List Stmt} {sc : Scope} {n : Nat} (A : Around) (P : Addr → Prop) (env : Env) (e : env.scope = sc) (rm : Room A k) :
    BlockOk prog w A C H0 P env (own1 env.scope) body (exsN (ev Φ srt N) mu sc sh nz n body) := by
  subst e
  exact exsN_ok PS T G rm SH D n body
/-- drops ahead of the blocks that begin in given lines -/
noncomputable def nzAt (tb : List (Nat × List Str)) (l : List Stmt) (ρ : Rho) : Rho := match l with
  | [] => ρ
  | st :: _ => (match tb.lookup (lineOf st) with
    | some xs => keepR xs ρ
    | none => ρ)
where lineOf (st : Stmt) : Nat := st.pos.line
theorem nzAt_drops (tb : List (Nat × List Str)) : Drops (nzAt tb) := fun l ρ x e q => by
  unfold nzAt at q
  split at q
  · exact q
  · split at q
    · exact keepR_lookup q
    · exact q
/-! the same, ahead of each statement -/
section
variable (r : Md → Scope → Rho → Expr → Option PyData) (mu : List Str) (sc : Scope) (sh : SHook) (nz : Stmt → Rho → Rho)
noncomputable def exSt (rs : List Stmt → Rho → Option (Fl × Rho)) (st : Stmt) (ρ : Rho) : Option (Fl × Rho) := (sh r sc (nz st ρ) st).or (ex1 r mu sc rs (nz st ρ) st)
noncomputable def exLS (rs : List Stmt → Rho → Option (Fl × Rho)) : List Stmt → Rho → Option (Fl × Rho)
  | [], ρ => some (.next, ρ)
  | st :: rest, ρ => (exSt r mu sc sh nz rs st ρ).bind fun q => match q.1 with
      | .next => exLS rs rest q.2
      | f => some (f, q.2)
noncomputable def exsS : Nat → List Stmt → Rho → Option (Fl × Rho)
  | 0, _, _ => none
  | n + 1, l, ρ => exLS r mu sc sh nz (exsS n) l ρ
end
noncomputable def DropsS (nz : Stmt → Rho → Rho) : Prop := ∀ l ρ x e, (nz l ρ).lookup x = some e → ρ.lookup x = some e
theorem exLS_ok {nz : Stmt → Rho → Rho} (PS : SpecOk prog w mg H0 C Φ k) (T : SortOk prog w srt) (G : Ground0 mg mb H0) (rm : Room A k) (SH : StmtOk prog w C H0 k sh) (D : DropsS nz) {rs : List Stmt → Rho → Option (Fl × Rho)} (hrs : ∀ l, BlockOk prog w A C H0 P env (own1 env.scope) l (rs l)) :
    ∀ l, BlockOk prog w A C H0 P env (own1 env.scope) l (exLS (ev Φ srt N) mu env.scope sh nz rs l)
  | [] => fun ρ fl ρ' B X s q t => by
    cases q
    exact wpAny_execs_nil ⟨B, X, s.heap, s.toks, rfl, fun _ _ z => z, t, trivial⟩
  | st :: rest => fun ρ fl ρ' B X s q t => by
    unfold exLS at q
    obtain ⟨⟨fl1, ρ1⟩, h1, q⟩ := Option.bind_eq_some_iff.mp q
    have t' := t.less (D st ρ)
    unfold exSt at h1
    have h1' : wpAny (model prog w) A (exec st env) (ExPost C H0 P B env (own1 env.scope) s fl1 ρ1) NoE s := by
      cases z : sh (ev Φ srt N) env.scope (nz st ρ) st with
      | none => rw [z] at h1; exact ex1_ok PS T G rm t' hrs h1
      | some q' => rw [z] at h1; cases h1; exact SH _ (ev_ok PS T G N) (fun _ _ _ _ _ _ _ c rm hf q => evFresh_ok PS T G c rm q hf) _ ρ1 st fl1 env A s P B X z t' rm
    refine wpAny_execs_cons (wpAny_mono h1' (fun g s' x => ?_) fun _ _ z => z)
    have x' := x
    obtain ⟨B1, X1, h₁, tk₁, e₁, sub, t1, hfl⟩ := x
    subst e₁
    cases g <;> cases fl1 <;> first | exact hfl.elim | skip
    · exact wpAny_mono (exLS_ok PS T G rm SH D hrs rest ρ1 fl ρ' B1 X1 { s with heap := h₁, toks := tk₁ } q t1) (fun _ _ z => exPost_from sub z) fun _ _ z => z
    · cases q; exact x'
    · cases q; exact x'
    · cases q; exact x'
theorem exsS_ok {nz : Stmt → Rho → Rho} (PS : SpecOk prog w mg H0 C Φ k) (T : SortOk prog w srt) (G : Ground0 mg mb H0) (rm : Room A k) (SH : StmtOk prog w C H0 k sh) (D : DropsS nz) : ∀ n l, BlockOk prog w A C H0 P env (own1 env.scope) l (exsS (ev Φ srt N) mu env.scope sh nz n l)
  | 0, _ => fun _ _ _ _ _ _ q _ => nomatch q
  | n + 1, l => exLS_ok PS T G rm SH D (exsS_ok PS T G rm SH D n) l
theorem exsS_blk {nz : Stmt → Rho → Rho} (PS : SpecOk prog w mg H0 C Φ k) (T : SortOk prog w srt) (G : Ground0 mg mb H0) (SH : StmtOk prog w C H0 k sh) (D : DropsS nz) {body : List Stmt} {sc : Scope} {n : Nat} (A : Around) (P : Addr → Prop) (env : Env) (e : env.scope = sc) (rm : Room A k) :
    BlockOk prog w A C H0 P env (own1 env.scope) body (exsS (ev Φ srt N) mu sc sh nz n body) := by
  subst e
  exact exsS_ok PS T G rm SH D n body
noncomputable def nzS (tb : List (Nat × List Str)) (st : Stmt) (ρ : Rho) : Rho := match tb.lookup (lineOf st) with
  | some xs => keepR xs ρ
  | none => ρ
where lineOf (st : Stmt) : Nat := st.pos.line
theorem nzS_drops (tb : List (Nat × List Str)) : DropsS (nzS tb) := fun l ρ x e q => by
  unfold nzS at q
  split at q
  · exact keepR_lookup q
  · exact q
end
section
variable {r : Md → Scope → Rho → Expr → Option PyData} {mu : List Str} {sc : Scope} {sh : SHook} {nz : Stmt → Rho → Rho} {rs : List Stmt → Rho → Option (Fl × Rho)} {st : Stmt} {rest : List Stmt} {ρ ρ1 : Rho}
theorem exLS_next (h : exSt r mu sc sh nz rs st ρ = some (.next, ρ1)) : exLS r mu sc sh nz rs (st :: rest) ρ = exLS r mu sc sh nz rs rest ρ1 := by
  conv => lhs; unfold exLS
  rw [h]; rfl
theorem exLS_ret {d : PyData} (h : exSt r mu sc sh nz rs st ρ = some (.ret d, ρ1)) : exLS r mu sc sh nz rs (st :: rest) ρ = some (.ret d, ρ1) := by
  conv => lhs; unfold exLS
  rw [h]; rfl
end
end Mine

namespace Mine
open PySem PySem.Calls PySem.Spec PyProof.Rows PySem.W PySem.SeqAt

noncomputable abbrev pw := PySem.Challenge.pw_pe0170_02
noncomputable def NL : List Str := ["x", "X", "y", "Y", "z", "Z"]
noncomputable def VL : List Str := ["p", "q"]
noncomputable def pr (a b : Str) : PyData := .tuple [.str a, .str b]
noncomputable def PL : List PyData := NL.flatMap fun n => VL.map fun v => pr n v
noncomputable def inPL : PyData → Bool
  | .tuple [.str n, .str v] => NL.contains n && VL.contains v
  | _ => false
noncomputable def okPs (ps : List PyData) : Bool := ps.all inPL && decide (ps.length ≤ 12)
noncomputable def lowK : PyData → Str
  | .tuple (.str n :: _) => Txt.lower n
  | _ => ⟨#[]⟩
theorem inPL_mem {d : PyData} (e : inPL d = true) : ∃ n ∈ NL, ∃ v ∈ VL, d = pr n v := by
  unfold inPL at e
  split at e
  · rename_i n v
    rw [Bool.and_eq_true] at e
    exact ⟨n, List.contains_iff_mem.mp e.1, v, List.contains_iff_mem.mp e.2, rfl⟩
  · cases e
theorem inPL_PL {d : PyData} (e : inPL d = true) : d ∈ PL := by
  obtain ⟨n, hn, v, hv, rfl⟩ := inPL_mem e
  exact List.mem_flatMap.mpr ⟨n, hn, List.mem_map.mpr ⟨v, hv, rfl⟩⟩
theorem okPs_PL {ps : List PyData} (e : okPs ps = true) : ∀ d ∈ ps, d ∈ PL := fun d hd => inPL_PL (List.all_eq_true.mp (Bool.and_eq_true_iff.mp e).1 d hd)
theorem okPs_len {ps : List PyData} (e : okPs ps = true) : ps.length ≤ 12 := of_decide_eq_true (Bool.and_eq_true_iff.mp e).2
theorem PL_noL : ∀ d ∈ PL, noL d = true := by decide +kernel
theorem noLs_all : ∀ {ps : List PyData}, (∀ d ∈ ps, noL d = true) → noLs ps = true
  | [], _ => rfl
  | d :: ds, h => by
    unfold noLs
    rw [h d List.mem_cons_self, noLs_all fun d' hd => h d' (List.mem_cons_of_mem _ hd)]; rfl
theorem okPs_noL {ps : List PyData} (e : okPs ps = true) : noLs ps = true := noLs_all fun d hd => PL_noL d (okPs_PL e d hd)

/-! __delitem__ -/
noncomputable abbrev R0 (n : Nat) := ev ⟨noFnT, hkE T0⟩ noSrt n
noncomputable abbrev fDel := methFn pw "__delitem__"
noncomputable def delφ (n : Str) (d : PyData) : Option PyData := if lowK d == Txt.lower n then none else some d
noncomputable def delP (n : Str) (ps : List PyData) : List PyData := ps.filterMap (delφ n)
noncomputable abbrev delLC := lcOf (rhsOf (stAt fDel.body 1))
noncomputable def delρ (n : Str) (ps : List PyData) : Rho := [("name", .val (.str (Txt.lower n))), ("self", .hdr ps)]
theorem del_items : NL.map (fun n => PL.map fun d => evG1 (R0 39) delLC.2.2 (relabelS delLC.2.2 fDel.scope) delLC.1 (gAt delLC.2.1) [("name", .val (.str (Txt.lower n)))] d) = NL.map fun n => PL.map fun d => some (delφ n d) := by kernel_rfl
theorem del_body : fDel.body = [stAt fDel.body 0, stAt fDel.body 1] := by kernel_rfl
theorem del_s1 (ps : List PyData) : NL.map (fun n => (hkS T0 (R0 40) fDel.scope (methRho (.hdr ps) ["name"] [] [.str n]) (stAt fDel.body 0)).or (ex1 (R0 40) [] fDel.scope (exs (R0 40) [] fDel.scope (hkS T0) 9) (methRho (.hdr ps) ["name"] [] [.str n]) (stAt fDel.body 0))) = NL.map fun n => some (.next, delρ n ps) := by kernel_rfl
theorem del_s2 (ps : List PyData) (n : Str) : (hkS T0 (R0 40) fDel.scope (delρ n ps) (stAt fDel.body 1)) = ((evG (R0 39) delLC.2.2 (relabelS delLC.2.2 fDel.scope) delLC.1 delLC.2.1 [("name", .val (.str (Txt.lower n)))] (some ps)).bind mkList).bind fun d => (listD d).bind fun es => if noLs es && decide (ps.length + es.length ≤ top) then some (.next, (delρ n ps).set "self" (.hdr es)) else none := by kernel_rfl

theorem del_lc : delLC.2.1 = [gAt delLC.2.1] := by kernel_rfl
theorem delφ_PL : NL.all (fun n => PL.all fun d => match delφ n d with | some e => inPL e | none => true) = true := by decide +kernel
theorem delP_ok {n : Str} (hn : n ∈ NL) {ps : List PyData} (h : okPs ps = true) : okPs (delP n ps) = true := by
  unfold okPs
  rw [Bool.and_eq_true, decide_eq_true_eq]
  refine ⟨List.all_eq_true.mpr fun e he => ?_, Nat.le_trans (List.length_filterMap_le _ _) (okPs_len h)⟩
  obtain ⟨d, hd, hde⟩ := List.mem_filterMap.mp he
  have := List.all_eq_true.mp (List.all_eq_true.mp delφ_PL n hn) d (okPs_PL h d hd)
  rw [hde] at this
  exact this
theorem le_top {n : Nat} (h : n ≤ 1000) : n ≤ top := by unfold top; omega
theorem mkList_ok {ds : List PyData} (h : ds.length ≤ 1000) : mkList ds = some (.list ds) := if_pos (le_top h)

theorem del_run {n : Str} (hn : n ∈ NL) {ps : List PyData} (h : okPs ps = true) : runM (R0 40) (hkS T0) [] 10 ["name"] [] fDel.body fDel.scope (.hdr ps) [.str n] = some (.none, some (delP n ps)) := by
  refine (if_pos rfl).trans ?_
  show outOf _ (exL (R0 40) [] fDel.scope (hkS T0) (exs (R0 40) [] fDel.scope (hkS T0) 9) fDel.body _) = _
  have hp := delP_ok hn h
  rw [del_body, exL_next (of_map_eq (del_s1 ps) n hn)]
  have h2 : hkS T0 (R0 40) fDel.scope (delρ n ps) (stAt fDel.body 1) = some (.next, (delρ n ps).set "self" (.hdr (delP n ps))) := by
    rw [del_s2, del_lc, evG_flat (fun d hd => of_map_eq (of_map_eq del_items n hn) d (okPs_PL h d hd)), Option.bind_some]
    show ((mkList (delP n ps)).bind _) = _
    rw [mkList_ok (Nat.le_trans (okPs_len hp) (by omega)), Option.bind_some]
    refine (if_pos ?_ : (if noLs (delP n ps) && decide (ps.length + (delP n ps).length ≤ top) then _ else _) = _)
    rw [Bool.and_eq_true, decide_eq_true_eq]
    exact ⟨okPs_noL hp, le_top (by have := okPs_len h; have := okPs_len hp; omega)⟩
  rw [exL_next (by rw [h2]; rfl)]
  rfl


/-! get -/
noncomputable abbrev fGet := methFn pw "get"
noncomputable def valOf : PyData → PyData
  | .tuple [_, v] => v
  | _ => .none
noncomputable def getP (n : Str) : List PyData → PyData
  | [] => .none
  | d :: ps => if lowK d == Txt.lower n then valOf d else getP n ps
noncomputable abbrev getFor := forOf (stAt fGet.body 1)
/-- before the loop; in a turn -/
noncomputable def getρ (n : Str) (ps : List PyData) : Rho := [("name", .val (.str (Txt.lower n))), ("self", .slf ps), ("default", .val .none)]
noncomputable def getρd (n : Str) (ps : List PyData) : PyData → Rho
  | .tuple [.str k, .str v] => ("v", .val (.str v)) :: ("k", .val (.str k)) :: getρ n ps
  | _ => getρ n ps
noncomputable def initB : PyData → List (Str × PyData)
  | .tuple [n, v] => [("k", n), ("v", v)]
  | _ => []
theorem get_body : fGet.body = [stAt fGet.body 0, stAt fGet.body 1, stAt fGet.body 2] := by kernel_rfl
theorem get_s0 (ps : List PyData) : NL.map (fun n => (hkS T0 (R0 40) fGet.scope (methRho (.slf ps) ["name"] ["default"] [.str n]) (stAt fGet.body 0)).or (ex1 (R0 40) [] fGet.scope (exs (R0 40) [] fGet.scope (hkS T0) 9) (methRho (.slf ps) ["name"] ["default"] [.str n]) (stAt fGet.body 0))) = NL.map fun n => some (.next, getρ n ps) := by kernel_rfl
theorem get_s1 (n : Str) (ps : List PyData) : (hkS T0 (R0 40) fGet.scope (getρ n ps) (stAt fGet.body 1)).or (ex1 (R0 40) [] fGet.scope (exs (R0 40) [] fGet.scope (hkS T0) 9) (getρ n ps) (stAt fGet.body 1)) = forL fGet.scope (exs (R0 40) [] fGet.scope (hkS T0) 9 getFor.2) getFor.1 ps (getρ n ps) := by kernel_rfl
theorem get_turn (ps : List PyData) : NL.map (fun n => PL.map fun d => exs (R0 40) [] fGet.scope (hkS T0) 9 getFor.2 (getρd n ps d)) = NL.map fun n => PL.map fun d => some (if lowK d == Txt.lower n then (.ret (valOf d), freeze (getρd n ps d)) else (.next, getρd n ps d)) := by kernel_rfl
theorem get_bind : PL.map (fun d => bindD getFor.1 d) = PL.map fun d => some (initB d) := by kernel_rfl
theorem get_own : PL.all (fun d => (initB d).all fun p => own1 fGet.scope p.1) = true := by decide +kernel
theorem get_end (n : Str) (ps : List PyData) : (hkS T0 (R0 40) fGet.scope (getρ n ps) (stAt fGet.body 2)).or (ex1 (R0 40) [] fGet.scope (exs (R0 40) [] fGet.scope (hkS T0) 9) (getρ n ps) (stAt fGet.body 2)) = some (.ret .none, freeze (getρ n ps)) := by kernel_rfl
theorem get_endd (n : Str) (ps : List PyData) : PL.map (fun d => (hkS T0 (R0 40) fGet.scope (getρd n ps d) (stAt fGet.body 2)).or (ex1 (R0 40) [] fGet.scope (exs (R0 40) [] fGet.scope (hkS T0) 9) (getρd n ps d) (stAt fGet.body 2))) = PL.map fun d => some (.ret .none, freeze (getρd n ps d)) := by kernel_rfl
theorem getρd_sets {n : Str} {ps : List PyData} {ρ : Rho} {d : PyData} (hd : d ∈ PL) (hρ : ρ = getρ n ps ∨ ∃ d0 ∈ PL, ρ = getρd n ps d0) : ρ.sets (initB d) = getρd n ps d := by
  obtain ⟨m, _, hm⟩ := List.mem_flatMap.mp hd
  obtain ⟨u, _, rfl⟩ := List.mem_map.mp hm
  rcases hρ with rfl | ⟨d0, hd0, rfl⟩
  · rfl
  · obtain ⟨m, _, hm⟩ := List.mem_flatMap.mp hd0
    obtain ⟨u, _, rfl⟩ := List.mem_map.mp hm
    rfl
theorem get_loop {n : Str} (hn : n ∈ NL) (all : List PyData) : ∀ (ps : List PyData), (∀ d ∈ ps, d ∈ PL) → ∀ ρ, (ρ = getρ n all ∨ ∃ d0 ∈ PL, ρ = getρd n all d0) →
    exL (R0 40) [] fGet.scope (hkS T0) (exs (R0 40) [] fGet.scope (hkS T0) 9) [] ρ = some (.next, ρ) ∧ ∃ ρ2, (forL fGet.scope (exs (R0 40) [] fGet.scope (hkS T0) 9 getFor.2) getFor.1 ps ρ = some (.ret (getP n ps), ρ2)) ∨
      (getP n ps = .none ∧ forL fGet.scope (exs (R0 40) [] fGet.scope (hkS T0) 9 getFor.2) getFor.1 ps ρ = some (.next, ρ2) ∧ (ρ2 = getρ n all ∨ ∃ d0 ∈ PL, ρ2 = getρd n all d0))
  | [], _, ρ, hρ => ⟨rfl, ρ, .inr ⟨rfl, rfl, hρ⟩⟩
  | d :: ps, hd, ρ, hρ => by
    refine ⟨rfl, ?_⟩
    have hdP := hd d List.mem_cons_self
    have ht := of_map_eq (of_map_eq (get_turn all) n hn) d hdP
    rw [← getρd_sets hdP hρ] at ht
    unfold getP
    by_cases c : (lowK d == Txt.lower n) = true
    · rw [if_pos c] at ht ⊢
      exact ⟨_, .inl (forL_ret (of_map_eq get_bind _ hdP) (List.all_eq_true.mp get_own _ hdP) ht)⟩
    · rw [if_neg c] at ht ⊢
      rw [forL_next (of_map_eq get_bind _ hdP) (List.all_eq_true.mp get_own _ hdP) ht, getρd_sets hdP hρ]
      exact (get_loop hn all ps (fun d' h' => hd d' (List.mem_cons_of_mem _ h')) _ (.inr ⟨d, hdP, rfl⟩)).2
theorem get_run {n : Str} (hn : n ∈ NL) {ps : List PyData} (h : okPs ps = true) : (runM (R0 40) (hkS T0) [] 10 ["name"] ["default"] fGet.body fGet.scope (.slf ps) [.str n]).map (·.1) = some (getP n ps) := by
  have e : runM (R0 40) (hkS T0) [] 10 ["name"] ["default"] fGet.body fGet.scope (.slf ps) [.str n] = outOf fGet.scope (exs (R0 40) [] fGet.scope (hkS T0) 10 fGet.body (methRho (.slf ps) ["name"] ["default"] [.str n])) := if_pos rfl
  rw [e]
  show (outOf _ (exL (R0 40) [] fGet.scope (hkS T0) (exs (R0 40) [] fGet.scope (hkS T0) 9) fGet.body _)).map _ = _
  rw [get_body, exL_next (of_map_eq (get_s0 ps) n hn)]
  obtain ⟨_, ρ2, h2 | ⟨h0, h2, h3⟩⟩ := get_loop hn ps ps (okPs_PL h) _ (.inl rfl)
  · rw [exL_ret ((get_s1 n ps).trans h2)]
    rfl
  · rw [exL_next ((get_s1 n ps).trans h2), h0]
    rcases h3 with rfl | ⟨d0, hd0, rfl⟩
    · rw [exL_ret (get_end n ps)]; rfl
    · rw [exL_ret (of_map_eq (get_endd n ps) d0 hd0)]; rfl
theorem getP_PL {n : Str} : ∀ {ps : List PyData}, (∀ d ∈ ps, d ∈ PL) → getP n ps = .none ∨ ∃ v ∈ VL, getP n ps = .str v
  | [], _ => .inl rfl
  | d :: ps, h => by
    unfold getP
    by_cases c : (lowK d == Txt.lower n) = true
    · rw [if_pos c]
      obtain ⟨m, _, hm⟩ := List.mem_flatMap.mp (h d List.mem_cons_self)
      obtain ⟨u, hu, rfl⟩ := List.mem_map.mp hm
      exact .inr ⟨u, hu, rfl⟩
    · rw [if_neg c]
      exact getP_PL fun d' h' => h d' (List.mem_cons_of_mem _ h')

/-! items, the tables behind it -/
noncomputable abbrev fItems := methFn pw "items"
theorem items_body : ∃ p1 p2 p3 p4 p5, fItems.body = [.Return (some (.Subscript (.Attribute (.Name "self" p1) "_headers" p2) (.Slice none none none p3) p4)) p5] := ⟨_, _, _, _, _, rfl⟩
noncomputable def rd1 (m : Str) (ps : List PyData) (args : List PyData) : Option PyData := match args with
  | [] => if (m == ("items" : Str)) && okPs ps then some (.list ps) else none
  | a :: as => if as.isEmpty && (m == ("get" : Str)) && okPs ps then (strOfD a).bind fun n => if NL.contains n then some (getP n ps) else none else none
theorem rd1_get {n : Str} (hn : n ∈ NL) {ps : List PyData} (h : okPs ps = true) : rd1 "get" ps [.str n] = some (getP n ps) := by
  show (if (true && (("get" : Str) == "get") && okPs ps) = true then _ else _) = _
  rw [h, if_pos (by rfl)]
  show (if NL.contains n = true then _ else _) = _
  rw [if_pos (List.contains_iff_mem.mpr hn)]
noncomputable def T1 : HT := ⟨rd1, noWr, true⟩
noncomputable abbrev R1 (n : Nat) := ev ⟨noFnT, hkE T1⟩ noSrt n

/-! setdefault -/
noncomputable abbrev fDef := methFn pw "setdefault"
theorem sd_body : fDef.body = [stAt fDef.body 0, stAt fDef.body 1] := by kernel_rfl
noncomputable abbrev sdρ (n v : Str) (ps : List PyData) : Rho := methRho (.hdr ps) ["name", "value"] [] [.str n, .str v]
theorem sd_s0 (ps : List PyData) (n v : Str) : (hkS T1 (R1 40) fDef.scope (sdρ n v ps) (stAt fDef.body 0)).or (ex1 (R1 40) [] fDef.scope (exs (R1 40) [] fDef.scope (hkS T1) 9) (sdρ n v ps) (stAt fDef.body 0)) = ((rd1 "get" ps [.str n]).or none).bind fun d => some (.next, (sdρ n v ps).set "result" (.val d)) := by kernel_rfl
noncomputable abbrev sdρ' (n v : Str) (ps : List PyData) (d : PyData) : Rho := (sdρ n v ps).set "result" (.val d)
theorem sd_if (ps : List PyData) (n v : Str) : (hkS T1 (R1 40) fDef.scope (sdρ' n v ps .none) (stAt fDef.body 1)).or (ex1 (R1 40) [] fDef.scope (exs (R1 40) [] fDef.scope (hkS T1) 9) (sdρ' n v ps .none) (stAt fDef.body 1)) = exs (R1 40) [] fDef.scope (hkS T1) 9 (thenOf (stAt fDef.body 1)) (sdρ' n v ps .none) := by kernel_rfl
theorem sd_else (ps : List PyData) (n v u : Str) : (hkS T1 (R1 40) fDef.scope (sdρ' n v ps (.str u)) (stAt fDef.body 1)).or (ex1 (R1 40) [] fDef.scope (exs (R1 40) [] fDef.scope (hkS T1) 9) (sdρ' n v ps (.str u)) (stAt fDef.body 1)) = some (.ret (.str u), freeze (sdρ' n v ps (.str u))) := by kernel_rfl
theorem sd_then : thenOf (stAt fDef.body 1) = [stAt (thenOf (stAt fDef.body 1)) 0, stAt (thenOf (stAt fDef.body 1)) 1] := by kernel_rfl
theorem sd_app (ps : List PyData) : NL.map (fun n => VL.map fun v => hkS T1 (R1 40) fDef.scope (sdρ' n v ps .none) (stAt (thenOf (stAt fDef.body 1)) 0)) = NL.map fun n => VL.map fun v => if ps.length < top then some (.next, (sdρ' n v ps .none).set "self" (.hdr (ps ++ [pr n v]))) else none := by kernel_rfl
theorem sd_ret (ps q : List PyData) (n v : Str) : (hkS T1 (R1 40) fDef.scope ((sdρ' n v ps .none).set "self" (.hdr q)) (stAt (thenOf (stAt fDef.body 1)) 1)).or (ex1 (R1 40) [] fDef.scope (exs (R1 40) [] fDef.scope (hkS T1) 8) ((sdρ' n v ps .none).set "self" (.hdr q)) (stAt (thenOf (stAt fDef.body 1)) 1)) = some (.ret (.str v), freeze ((sdρ' n v ps .none).set "self" (.hdr q))) := by kernel_rfl
/-- what setdefault leaves and gives -/
noncomputable def sdP (n v : Str) (ps : List PyData) : List PyData × PyData := match getP n ps with
  | .str u => (ps, .str u)
  | _ => (ps ++ [pr n v], .str v)
theorem sd_run {n v : Str} (hn : n ∈ NL) (hv : v ∈ VL) {ps : List PyData} (h : okPs ps = true) : runM (R1 40) (hkS T1) [] 10 ["name", "value"] [] fDef.body fDef.scope (.hdr ps) [.str n, .str v] = some ((sdP n v ps).2, some (sdP n v ps).1) := by
  refine (if_pos rfl).trans ?_
  show outOf _ (exL (R1 40) [] fDef.scope (hkS T1) (exs (R1 40) [] fDef.scope (hkS T1) 9) fDef.body _) = _
  have h1 := sd_s0 ps n v
  rw [rd1_get hn h] at h1
  rw [sd_body, exL_next h1]
  unfold sdP
  rcases getP_PL (n := n) (okPs_PL h) with e | ⟨u, _, e⟩
  · rw [e]
    have h2 : exs (R1 40) [] fDef.scope (hkS T1) 9 (thenOf (stAt fDef.body 1)) (sdρ' n v ps .none) = some (.ret (.str v), freeze ((sdρ' n v ps .none).set "self" (.hdr (ps ++ [pr n v])))) := by
      show exL (R1 40) [] fDef.scope (hkS T1) (exs (R1 40) [] fDef.scope (hkS T1) 8) (thenOf (stAt fDef.body 1)) _ = _
      have h3 := of_map_eq (of_map_eq (sd_app ps) n hn) v hv
      rw [if_pos (by have := okPs_len h; unfold top; omega)] at h3
      rw [sd_then, exL_next (by rw [h3]; rfl), exL_ret (sd_ret ps _ n v)]
    rw [exL_ret ((sd_if ps n v).trans h2)]
    rfl
  · rw [e, exL_ret (sd_else ps n v u)]
    rfl

/-! __init__'s loop -/
noncomputable abbrev fInit := methFn pw "__init__"
noncomputable abbrev initLoop := stAt (thenOf (stAt fInit.body 3)) 0
noncomputable def initρ (ps : List PyData) : Rho := [("headers", .val (.list ps)), ("self", .slf ps)]
noncomputable def initρd (ps : List PyData) : PyData → Rho
  | .tuple [.str n, .str v] => ("v", .val (.str v)) :: ("k", .val (.str n)) :: initρ ps
  | _ => initρ ps
theorem init_body (ps : List PyData) : PL.map (fun d => exs (R0 40) [] fInit.scope (hkS T0) 9 (forOf initLoop).2 (initρd ps d)) = PL.map fun d => some (.next, initρd ps d) := by kernel_rfl
theorem init_bind : PL.map (fun d => bindD (forOf initLoop).1 d) = PL.map fun d => some (initB d) := by kernel_rfl
theorem init_own : PL.all (fun d => (initB d).all fun p => own1 fInit.scope p.1) = true := by decide +kernel
theorem init_for (ps : List PyData) : ex1 (R0 40) [] fInit.scope (exs (R0 40) [] fInit.scope (hkS T0) 9) (initρ ps) initLoop = forL fInit.scope (exs (R0 40) [] fInit.scope (hkS T0) 9 (forOf initLoop).2) (forOf initLoop).1 ps (initρ ps) := by kernel_rfl
theorem init_run {ps : List PyData} (h : okPs ps = true) : noLs ps = true ∧ ∃ ρ2, exs (R0 40) [] fInit.scope (hkS T0) 10 [initLoop] [("headers", .val (.list ps)), ("self", .slf ps)] = some (.next, ρ2) := by
  refine ⟨okPs_noL h, ?_⟩
  obtain ⟨ρ2, h2, _⟩ := forL_inv (r := R0 40) (sc := fInit.scope) (body := exs (R0 40) [] fInit.scope (hkS T0) 9 (forOf initLoop).2) (tg := (forOf initLoop).1) (fun ρ => ρ = initρ ps ∨ ∃ d ∈ PL, ρ = initρd ps d) ps (initρ ps) (fun d hd ρ hρ => by
    have hd' := okPs_PL h d hd
    obtain ⟨n, hn, v, hv, rfl⟩ := inPL_mem (List.all_eq_true.mp (Bool.and_eq_true_iff.mp h).1 d hd)
    refine ⟨_, initρd ps (pr n v), of_map_eq init_bind _ hd', List.all_eq_true.mp init_own _ hd', ?_, .inr ⟨_, hd', rfl⟩⟩
    have hs : ρ.sets (initB (pr n v)) = initρd ps (pr n v) := by
      rcases hρ with rfl | ⟨d0, hd0, rfl⟩
      · rfl
      · obtain ⟨m, _, hm⟩ := List.mem_flatMap.mp hd0
        obtain ⟨u, _, rfl⟩ := List.mem_map.mp hm
        rfl
    rw [hs]
    exact of_map_eq (init_body ps) _ hd') (.inl rfl)
  refine ⟨ρ2, ?_⟩
  show exL (R0 40) [] fInit.scope (hkS T0) (exs (R0 40) [] fInit.scope (hkS T0) 9) [initLoop] (initρ ps) = _
  have hs : hkS T0 (R0 40) fInit.scope (initρ ps) initLoop = none := by kernel_rfl
  rw [exL_next (by rw [hs, init_for]; exact h2)]
  rfl

end Mine

namespace Mine
open PySem PySem.Calls PySem.Spec PyProof.Rows PySem.W PySem.SeqAt

/-- what the top gives -/
structure TopH (mg mb : Str → Option Value) (K : Frag) (H0 : Heap) (Ca : Addr) : Prop where
  g1 : Ground1 mg mb H0
  cls : ClsAt K H0 Ca
  field : ∃ cd, clsIn K Ca = some cd ∧ cd.hasDict = true
  nofield : findIn K (.ref Ca) "_headers" = some none
  conv : ∃ f, MethAt K H0 Ca "_convert_string_type" f ∧ ConvAt H0 f
  del : ∃ f, MethAt K H0 Ca "__delitem__" f ∧ MethFn H0 f ["name"] [] fDel.body fDel.scope
  get : ∃ f, MethAt K H0 Ca "get" f ∧ MethFn H0 f ["name"] ["default"] fGet.body fGet.scope
  items : ∃ f, MethAt K H0 Ca "items" f ∧ MethFn H0 f [] [] fItems.body fItems.scope
  sd : ∃ f, MethAt K H0 Ca "setdefault" f ∧ MethFn H0 f ["name", "value"] [] fDef.body fDef.scope
  init : ∃ f, MakeAt K Ca f ∧ InitFn H0 f fInit.scope initLoop
  keep : keepIn K (.ref Ca) = true
  head : mg ("Headers" : Str) = some (.ref Ca)

section
variable {prog : Program} {w : World} {mg mb : Str → Option Value} {K : Frag} {H0 : Heap} {Ca : Addr}

theorem noRd_ok {k : Nat} : RdOk prog w K H0 Ca k noRd := fun _ _ _ _ e => nomatch e
theorem noWr_ok {k : Nat} : WrOk prog w K H0 Ca k noWr := fun _ _ _ _ _ e => nomatch e
theorem cl0 (t : TopH mg mb K H0 Ca) : ClOk prog w mg mb K H0 Ca 1 T0 := ⟨t.cls, t.g1, noRd_ok, noWr_ok, fun _ => ⟨Nat.le_refl _, t.conv⟩, t.field, t.nofield⟩
theorem ps0 (t : TopH mg mb K H0 Ca) (ok : Addr → Addr → Prop) : SpecOk prog w mg H0 ⟨Ca, ok⟩ ⟨noFnT, hkE T0⟩ 1 := ⟨(fun _ _ _ e => nomatch e), hkE_ok (cl0 t)⟩
theorem sh0 (t : TopH mg mb K H0 Ca) (ok : Addr → Addr → Prop) : StmtOk prog w ⟨Ca, ok⟩ H0 1 (hkS T0) := hkS_ok (cl0 t)

theorem rd1_ok (t : TopH mg mb K H0 Ca) : RdOk prog w K H0 Ca 2 rd1 := by
  intro m ps args d e
  unfold rd1 at e
  split at e
  · split at e
    · rename_i hc
      rw [Bool.and_eq_true, beq_iff_eq] at hc
      obtain ⟨rfl, hps⟩ := hc
      cases e
      obtain ⟨f, M, MF⟩ := t.items
      obtain ⟨p1, p2, p3, p4, p5, hb⟩ := items_body
      rw [hb] at MF
      refine ⟨f, M, fun A s U y a vs vargs rm hst Hy ha rr fr ra => ?_⟩
      have : vargs = [] := List.eq_nil_of_length_eq_zero (by rw [ra.length]; rfl)
      subst this
      exact meth_items (Φ := ⟨noFnT, hkE T0⟩) (fn := noFnT) (cl0 t) MF rm hst Hy ha rr fr (le_top (by have := okPs_len hps; omega))
    · cases e
  · split at e
    · rename_i hc
      simp only [Bool.and_eq_true, beq_iff_eq, List.isEmpty_iff] at hc
      obtain ⟨⟨rfl, rfl⟩, hps⟩ := hc
      replace e := Option.bind_eq_some_iff.mp e
      obtain ⟨n, hn, e⟩ := e
      have := strOfD_eq hn
      subst this
      split at e
      · rename_i hN
        cases e
        have hnl : noL (getP n ps) = true := by
          rcases getP_PL (n := n) (okPs_PL hps) with q | ⟨v, _, q⟩ <;> rw [q] <;> rfl
        obtain ⟨f, M, MF⟩ := t.get
        exact ⟨f, M, fun A s U y a vs vargs rm hst Hy ha rr fr ra => meth_rd (ps0 t) noSrt_ok t.g1.toGround0 (sh0 t) MF (get_run (List.contains_iff_mem.mp hN) hps) hnl rm hst Hy ha rr fr ra⟩
      · cases e
    · cases e
theorem cl1 (t : TopH mg mb K H0 Ca) : ClOk prog w mg mb K H0 Ca 2 T1 := ⟨t.cls, t.g1, rd1_ok t, noWr_ok, fun _ => ⟨by omega, t.conv⟩, t.field, t.nofield⟩
theorem ps1 (t : TopH mg mb K H0 Ca) (ok : Addr → Addr → Prop) : SpecOk prog w mg H0 ⟨Ca, ok⟩ ⟨noFnT, hkE T1⟩ 2 := ⟨(fun _ _ _ e => nomatch e), hkE_ok (cl1 t)⟩

/-- del table[n], table.setdefault(n, v) -/
noncomputable def wr2 (m : Str) (ps : List PyData) (args : List PyData) : Option (List PyData × PyData) := match args with
  | [] => none
  | a :: as => (strOfD a).bind fun n => if NL.contains n && okPs ps then (match as with
    | [] => if m == ("__delitem__" : Str) then some (delP n ps, .none) else none
    | b :: bs => if bs.isEmpty && (m == ("setdefault" : Str)) then (strOfD b).bind fun v => if VL.contains v then some (sdP n v ps) else none else none) else none
theorem wr2_ok (t : TopH mg mb K H0 Ca) : WrOk prog w K H0 Ca 3 wr2 := by
  intro m ps args ps' d e
  unfold wr2 at e
  split at e
  · cases e
  · replace e := Option.bind_eq_some_iff.mp e
    obtain ⟨n, hn, e⟩ := e
    have := strOfD_eq hn
    subst this
    split at e
    · rename_i hc
      rw [Bool.and_eq_true] at hc
      have hN := List.contains_iff_mem.mp hc.1
      split at e
      · split at e
        · rename_i hm
          have := beq_iff_eq.mp hm
          subst this
          cases e
          obtain ⟨f, M, MF⟩ := t.del
          exact ⟨f, M, fun A s P y a vs vargs n0 rm hst Hy ha0 ha rr hP fr ra => (meth_wr (ps0 t) noSrt_ok t.g1.toGround0 (sh0 t) MF (del_run hN hc.2) (rm.mono (by omega)) hst Hy ha0 ha rr hP fr ra)⟩
        · cases e
      · split at e
        · rename_i hm
          simp only [Bool.and_eq_true, beq_iff_eq, List.isEmpty_iff] at hm
          obtain ⟨rfl, rfl⟩ := hm
          replace e := Option.bind_eq_some_iff.mp e
          obtain ⟨v, hv, e⟩ := e
          have := strOfD_eq hv
          subst this
          split at e
          · rename_i hV
            obtain ⟨f, M, MF⟩ := t.sd
            have hr := sd_run hN (List.contains_iff_mem.mp hV) hc.2
            have e' : sdP n v ps = (ps', d) := Option.some.inj e
            rw [e'] at hr
            exact ⟨f, M, fun A s P y a vs vargs n0 rm hst Hy ha0 ha rr hP fr ra => meth_wr (ps1 t) noSrt_ok t.g1.toGround0 (fun ok => hkS_ok (cl1 t)) MF hr rm hst Hy ha0 ha rr hP fr ra⟩
          · cases e
        · cases e
    · cases e
noncomputable def T2 : HT := ⟨rd1, wr2, true⟩
theorem cl2 (t : TopH mg mb K H0 Ca) : ClOk prog w mg mb K H0 Ca 3 T2 := ⟨t.cls, t.g1, (rd1_ok t).mono (by omega), wr2_ok t, fun _ => ⟨by omega, t.conv⟩, t.field, t.nofield⟩
theorem new2 (t : TopH mg mb K H0 Ca) : NewOk prog w H0 Ca 3 okPs := by
  obtain ⟨f, MA, IF⟩ := t.init
  exact new_ok (ps0 t _) noSrt_ok t.g1 (sh0 t _) t.cls MA IF fun ps h => init_run h

/-! the hooks of the law's own functions -/
noncomputable def HE : EHook := hkE T2
noncomputable def HS : SHook := fun r sc ρ st => (hkS T2 r sc ρ st).or (hkNew "Headers" okPs r sc ρ st)
noncomputable abbrev C1 (Ca : Addr) : Cls := ⟨Ca, fun _ _ => True⟩
theorem heOk (t : TopH mg mb K H0 Ca) {fn : Str → List PyData → Option PyData} : HookOk prog w H0 (C1 Ca) ⟨fn, HE⟩ 3 := hkE_ok (cl2 t)
theorem hsOk (t : TopH mg mb K H0 Ca) : StmtOk prog w (C1 Ca) H0 3 HS := StmtOk.or (hkS_ok (cl2 t)) (hkNew_ok t.g1.toGround0 t.cls t.keep t.head (new2 t))
end
end Mine

namespace Mine
open PySem PySem.Calls PySem.Spec PyProof.Rows PySem.W PySem.SeqAt

/-! _law_step -/
noncomputable abbrev R3 (n : Nat) := ev ⟨noFnT, HE⟩ noSrt n
noncomputable abbrev fSt := topFn pw "_law_step"
noncomputable def LL : List Str := ["x", "y", "z"]
noncomputable def nmT (l : Str) (h : Nat) : Str := if h == 0 then l else Txt.upper l
noncomputable def nmF (l : Str) (h : Nat) : Str := if h == 0 then Txt.upper l else l
noncomputable def vOf (h : Nat) : Str := if h == 0 then "p" else "q"
noncomputable abbrev stρ (ps : List PyData) (b : Bool) (l : Str) (h : Nat) : Rho := rho0 ["pairs", "takes", "letter", "hand"] [.list ps, .bool b, .str l, .int h]
noncomputable abbrev stρ1 (ps : List PyData) (b : Bool) (l : Str) (h : Nat) (q : List PyData) : Rho := (stρ ps b l h).set "table" (.hdr q)
noncomputable abbrev stThen := thenOf (stAt fSt.body 1)
theorem st_body : fSt.body = [stAt fSt.body 0, stAt fSt.body 1, stAt fSt.body 2, stAt fSt.body 3] := by kernel_rfl
theorem st_then : stThen = [stAt stThen 0, stAt stThen 1] := by kernel_rfl
theorem st_s0 (ps : List PyData) (b : Bool) (l : Str) (h : Nat) : HS (R3 40) fSt.scope (stρ ps b l h) (stAt fSt.body 0) = (mkList ps).bind fun d => (listD d).bind fun ps' => if okPs ps' then some (.next, stρ1 ps b l h ps') else none := by kernel_rfl
theorem st_if (ps q : List PyData) (l : Str) (h : Nat) : (HS (R3 40) fSt.scope (stρ1 ps true l h q) (stAt fSt.body 1)).or (ex1 (R3 40) [] fSt.scope (exs (R3 40) [] fSt.scope HS 9) (stρ1 ps true l h q) (stAt fSt.body 1)) = exs (R3 40) [] fSt.scope HS 9 stThen (stρ1 ps true l h q) := by kernel_rfl
theorem st_no (ps q : List PyData) (l : Str) (h : Nat) : (HS (R3 40) fSt.scope (stρ1 ps false l h q) (stAt fSt.body 1)).or (ex1 (R3 40) [] fSt.scope (exs (R3 40) [] fSt.scope HS 9) (stρ1 ps false l h q) (stAt fSt.body 1)) = some (.next, stρ1 ps false l h q) := by kernel_rfl
theorem st_told (ps q : List PyData) : LL.map (fun l => (List.range 2).map fun h => hkS T2 (R3 40) fSt.scope (stρ1 ps true l h q) (stAt stThen 0)) =
    LL.map fun l => (List.range 2).map fun h => (wr2 "setdefault" q [.str (nmT l h), .str (vOf h)]).bind fun z => some (.next, (stρ1 ps true l h z.1).set "told" (.val z.2)) := by kernel_rfl
theorem st_ret (ps q : List PyData) (d : PyData) (l : Str) (h : Nat) : (HS (R3 40) fSt.scope ((stρ1 ps true l h q).set "told" (.val d)) (stAt stThen 1)).or (ex1 (R3 40) [] fSt.scope (exs (R3 40) [] fSt.scope HS 8) ((stρ1 ps true l h q).set "told" (.val d)) (stAt stThen 1)) =
    (((((rd1 "items" q []).or none).bind fun b => some [b]).bind fun ds => some (d :: ds)).bind fun ds => if ds.length ≤ top then some (.tuple ds) else none).bind fun e => some (.ret e, freeze ((stρ1 ps true l h q).set "told" (.val d))) := by kernel_rfl
theorem st_del (ps q : List PyData) : LL.map (fun l => (List.range 2).map fun h => hkS T2 (R3 40) fSt.scope (stρ1 ps false l h q) (stAt fSt.body 2)) =
    LL.map fun l => (List.range 2).map fun h => (wr2 "__delitem__" q [.str (nmF l h)]).bind fun z => some (.next, stρ1 ps false l h z.1) := by kernel_rfl
theorem st_ret2 (ps q : List PyData) (l : Str) : (List.range 2).map (fun h => (HS (R3 40) fSt.scope (stρ1 ps false l h q) (stAt fSt.body 3)).or (ex1 (R3 40) [] fSt.scope (exs (R3 40) [] fSt.scope HS 9) (stρ1 ps false l h q) (stAt fSt.body 3))) =
    (List.range 2).map fun h => (((((rd1 "items" q []).or none).bind fun b => some [b]).bind fun ds => some (.str (vOf h) :: ds)).bind fun ds => if ds.length ≤ top then some (.tuple ds) else none).bind fun e => some (.ret e, freeze (stρ1 ps false l h q)) := by kernel_rfl

noncomputable def okN (n : Nat) (ps : List PyData) : Bool := ps.all inPL && decide (ps.length ≤ n)
theorem okN_ok {n : Nat} {ps : List PyData} (h : okN n ps = true) (hn : n ≤ 12) : okPs ps = true := by
  unfold okN at h
  unfold okPs
  rw [Bool.and_eq_true, decide_eq_true_eq] at h ⊢
  exact ⟨h.1, Nat.le_trans h.2 hn⟩
theorem okN_len {n : Nat} {ps : List PyData} (h : okN n ps = true) : ps.length ≤ n := of_decide_eq_true (Bool.and_eq_true_iff.mp h).2
theorem okN_mono {n m : Nat} {ps : List PyData} (h : okN n ps = true) (hn : n ≤ m) : okN m ps = true := by
  unfold okN at h ⊢
  rw [Bool.and_eq_true, decide_eq_true_eq] at h ⊢
  exact ⟨h.1, Nat.le_trans h.2 hn⟩
theorem okN_del {n : Nat} {ps : List PyData} (h : okN n ps = true) (hn : n ≤ 12) {x : Str} (hx : x ∈ NL) : okN n (delP x ps) = true := by
  have h2 := delP_ok hx (okN_ok h hn)
  unfold okN
  rw [Bool.and_eq_true, decide_eq_true_eq]
  exact ⟨(Bool.and_eq_true_iff.mp h2).1, Nat.le_trans (List.length_filterMap_le _ _) (okN_len h)⟩
theorem okN_app {n : Nat} {ps : List PyData} (h : okN n ps = true) {x v : Str} (hx : x ∈ NL) (hv : v ∈ VL) : okN (n + 1) (ps ++ [pr x v]) = true := by
  unfold okN at h ⊢
  rw [Bool.and_eq_true, decide_eq_true_eq] at h ⊢
  refine ⟨?_, by rw [List.length_append, List.length_singleton]; omega⟩
  rw [List.all_append, h.1]
  show (true && (inPL (pr x v) && true)) = true
  rw [Bool.true_and, Bool.and_true]
  show (NL.contains x && VL.contains v) = true
  rw [List.contains_iff_mem.mpr hx, List.contains_iff_mem.mpr hv]; rfl

theorem rd1_items {ps : List PyData} (h : okPs ps = true) : rd1 "items" ps [] = some (.list ps) := by
  unfold rd1
  dsimp only
  rw [if_pos (by rw [h]; rfl)]
theorem wr2_del {n : Str} (hn : n ∈ NL) {ps : List PyData} (h : okPs ps = true) : wr2 "__delitem__" ps [.str n] = some (delP n ps, .none) := by
  show (if NL.contains n && okPs ps then _ else _) = _
  rw [if_pos (by rw [h, List.contains_iff_mem.mpr hn]; rfl)]
  exact if_pos (by rfl)
theorem wr2_sd {n v : Str} (hn : n ∈ NL) (hv : v ∈ VL) {ps : List PyData} (h : okPs ps = true) : wr2 "setdefault" ps [.str n, .str v] = some (sdP n v ps) := by
  show (if NL.contains n && okPs ps then _ else _) = _
  rw [if_pos (by rw [h, List.contains_iff_mem.mpr hn]; rfl)]
  refine (if_pos (by rfl)).trans ?_
  show (if VL.contains v then _ else _) = _
  rw [if_pos (List.contains_iff_mem.mpr hv)]
theorem okN_sd {k : Nat} {n v : Str} (hn : n ∈ NL) (hv : v ∈ VL) {ps : List PyData} (h : okN k ps = true) : okN (k + 1) (sdP n v ps).1 = true := by
  unfold sdP
  split
  · exact okN_mono h (by omega)
  · exact okN_app h hn hv
theorem nm_NL : ∀ l ∈ LL, ∀ h ∈ List.range 2, nmT l h ∈ NL ∧ nmF l h ∈ NL := by decide +kernel
theorem vOf_VL : ∀ h ∈ List.range 2, vOf h ∈ VL := by decide +kernel
/-- what a step gives -/
noncomputable def stepP (b : Bool) (l : Str) (h : Nat) (ps : List PyData) : PyData × List PyData :=
  if b then ((sdP (nmT l h) (vOf h) ps).2, (sdP (nmT l h) (vOf h) ps).1) else (.str (vOf h), delP (nmF l h) ps)
theorem step_ok {k : Nat} {b : Bool} {l : Str} (hl : l ∈ LL) {h : Nat} (hh : h ∈ List.range 2) {ps : List PyData} (hp : okN k ps = true) (hk : k ≤ 12) : okN (k + 1) (stepP b l h ps).2 = true := by
  unfold stepP
  cases b
  · exact okN_mono (okN_del hp hk (nm_NL l hl h hh).2) (by omega)
  · exact okN_sd (nm_NL l hl h hh).1 (vOf_VL h hh) hp
theorem st_run {b : Bool} {l : Str} (hl : l ∈ LL) {h : Nat} (hh : h ∈ List.range 2) {ps : List PyData} (hp : okN 11 ps = true) :
    runF (R3 40) HS [] 10 ["pairs", "takes", "letter", "hand"] fSt.body fSt.scope [.list ps, .bool b, .str l, .int h] = some (.tuple [(stepP b l h ps).1, .list (stepP b l h ps).2]) := by
  have hq := okN_ok (step_ok (b := b) hl hh hp (by omega)) (by omega)
  have hp' := okN_ok hp (by omega)
  have e0 := st_s0 ps b l h
  rw [mkList_ok (by have := okN_len hp; omega), Option.bind_some] at e0
  replace e0 : _ = (if okPs ps then some (Fl.next, stρ1 ps b l h ps) else none) := e0
  rw [if_pos hp'] at e0
  refine (if_pos rfl).trans ?_
  show (match exL (R3 40) [] fSt.scope HS (exs (R3 40) [] fSt.scope HS 9) fSt.body (stρ ps b l h) with | some (.ret d, _) => some d | some (.next, _) => some .none | _ => none) = _
  rw [st_body, exL_next (by rw [e0]; rfl)]
  cases b with
  | true =>
    have h1 := of_map_eq (of_map_eq (st_told ps ps) l hl) h hh
    rw [wr2_sd (nm_NL l hl h hh).1 (vOf_VL h hh) hp', Option.bind_some] at h1
    have h2 := st_ret ps (stepP true l h ps).2 (stepP true l h ps).1 l h
    rw [rd1_items hq] at h2
    have h3 : exs (R3 40) [] fSt.scope HS 9 stThen (stρ1 ps true l h ps) = some (.ret (.tuple [(stepP true l h ps).1, .list (stepP true l h ps).2]), freeze ((stρ1 ps true l h (stepP true l h ps).2).set "told" (.val (stepP true l h ps).1))) := by
      show exL (R3 40) [] fSt.scope HS (exs (R3 40) [] fSt.scope HS 8) stThen _ = _
      rw [st_then, exL_next (by unfold HS; rw [h1]; rfl)]
      exact exL_ret h2
    rw [exL_ret ((st_if ps ps l h).trans h3)]
  | false =>
    rw [exL_next (st_no ps ps l h)]
    have h1 := of_map_eq (of_map_eq (st_del ps ps) l hl) h hh
    rw [wr2_del (nm_NL l hl h hh).2 hp', Option.bind_some] at h1
    have h2 := of_map_eq (st_ret2 ps (stepP false l h ps).2 l) h hh
    rw [rd1_items hq] at h2
    rw [exL_next (by unfold HS; rw [h1]; rfl)]
    have h3 := exL_ret (rest := []) h2
    rw [show exL (R3 40) [] fSt.scope HS (exs (R3 40) [] fSt.scope HS 9) [stAt fSt.body 3] (stρ1 ps false l h (delP (nmF l h) ps)) = _ from h3]
    rfl
end Mine

namespace Mine
open PySem PySem.Calls PySem.Spec PyProof.Rows PySem.W PySem.SeqAt

/-! the hands' rows of deeds -/
noncomputable abbrev Deed := Bool × Str
noncomputable def deedD (d : Deed) : PyData := .tuple [.bool d.1, .str d.2]
noncomputable def deedsD (ds : List Deed) : PyData := .list (ds.map deedD)
noncomputable def deedN (q : List Deed × List Str) (l : Str) : List Deed × List Str := if q.2.contains l then (q.1 ++ [(false, l)], q.2.erase l) else (q.1 ++ [(true, l)], q.2 ++ [l])
noncomputable def endN (q : List Deed × List Str) : List Deed := q.1 ++ q.2.reverse.map fun l => (false, l)
noncomputable def deedsN (ls : List Str) : List Deed := endN (ls.foldl deedN ([], []))
/-- the letters of three numbers -/
noncomputable def L3 : List (List Str) := LL.flatMap fun a => LL.flatMap fun b => LL.map fun c => [a, b, c]
noncomputable def holdsGo : List (List Str) → List Str → List Deed → List (List Str)
  | acc, _, [] => acc
  | acc, h, d :: ds => let h' := if d.1 then h ++ [d.2] else h.filter fun o => !(o == d.2)
    holdsGo (acc ++ [h']) h' ds
noncomputable def holdsN (ds : List Deed) : List (List Str) := holdsGo [[]] [] ds
noncomputable def holdsD (hs : List (List Str)) : PyData := .list (hs.map fun h => .list (h.map .str))
noncomputable abbrev fHo := topFn pw "_law_holds"
theorem ho_run : L3.map (fun t => runF (R3 40) HS ["holds"] 10 ["deeds"] fHo.body fHo.scope [deedsD (deedsN t)]) = L3.map fun t => some (holdsD (holdsN (deedsN t))) := by kernel_rfl

/-! _law_deeds -/
noncomputable abbrev fDe := topFn pw "_law_deeds"
noncomputable abbrev MUd : List Str := ["deeds", "held"]
noncomputable abbrev deFor := forOf (stAt fDe.body 2)
noncomputable abbrev deIf := stAt deFor.2 1
noncomputable def elseOf : Stmt → List Stmt
  | .If _ _ b _ => b
  | _ => []
noncomputable def nzD : List Stmt → Rho → Rho := nzAt [(nzAt.lineOf (stAt deFor.2 0), ["x", "deeds", "held"])]
noncomputable abbrev XD (n : Nat) := exsN (R3 40) MUd fDe.scope HS nzD n
noncomputable def deρ (x : Int) (D H : List PyData) : Rho := [("x", .val (.int x)), ("deeds", .own D), ("held", .own H)]
noncomputable def deρl (x : Int) (l : Str) (D H : List PyData) : Rho := [("letter", .val (.str l)), ("x", .val (.int x)), ("deeds", .own D), ("held", .own H)]
noncomputable def deρh (x : Int) (l : Str) (D H : List PyData) : Rho := [("held", .own H), ("letter", .val (.str l)), ("x", .val (.int x)), ("deeds", .own D)]
noncomputable def deρd (x : Int) (l : Str) (D H : List PyData) : Rho := [("deeds", .own D), ("held", .own H), ("letter", .val (.str l)), ("x", .val (.int x))]
noncomputable def strL (l : List Str) : List PyData := l.map .str
/-- what may be held -/
noncomputable def HL : List (List Str) := [[], ["x"], ["y"], ["z"], ["x", "y"], ["x", "z"], ["y", "x"], ["y", "z"], ["z", "x"], ["z", "y"], ["x", "y", "z"], ["x", "z", "y"], ["y", "x", "z"], ["y", "z", "x"], ["z", "x", "y"], ["z", "y", "x"]]
theorem de_body : fDe.body = [stAt fDe.body 0, stAt fDe.body 1, stAt fDe.body 2, stAt fDe.body 3] := by kernel_rfl
theorem de_turnB : deFor.2 = [stAt deFor.2 0, deIf] := by kernel_rfl
theorem de_then : thenOf deIf = [stAt (thenOf deIf) 0, stAt (thenOf deIf) 1] := by kernel_rfl
theorem de_else : elseOf deIf = [stAt (elseOf deIf) 0, stAt (elseOf deIf) 1] := by kernel_rfl
theorem de_letter (x : Int) (D H : List PyData) : (HS (R3 40) fDe.scope (deρ x D H) (stAt deFor.2 0)).or (ex1 (R3 40) MUd fDe.scope (XD 8) (deρ x D H) (stAt deFor.2 0)) = (idxD (.str "xyz") (.int (x.fmod 3))).bind fun d => some (.next, (deρ x D H).set "letter" (.val d)) := by kernel_rfl
theorem de_if (x : Int) (D : List PyData) : HL.map (fun H => LL.map fun l => (HS (R3 40) fDe.scope (deρl x l D (strL H)) deIf).or (ex1 (R3 40) MUd fDe.scope (XD 8) (deρl x l D (strL H)) deIf)) = HL.map fun H => LL.map fun l => XD 8 (if H.contains l then thenOf deIf else elseOf deIf) (deρl x l D (strL H)) := by kernel_rfl
theorem de_rem (x : Int) (D : List PyData) : HL.map (fun H => LL.map fun l => if H.contains l then (HS (R3 40) fDe.scope (deρl x l D (strL H)) (stAt (thenOf deIf) 0)).or (ex1 (R3 40) MUd fDe.scope (XD 7) (deρl x l D (strL H)) (stAt (thenOf deIf) 0)) else none) = HL.map fun H => LL.map fun l => if H.contains l then some (.next, deρh x l D (strL (H.erase l))) else none := by kernel_rfl
theorem de_app (x : Int) (D : List PyData) : HL.map (fun H => LL.map fun l => (HS (R3 40) fDe.scope (deρl x l D (strL H)) (stAt (elseOf deIf) 0)).or (ex1 (R3 40) MUd fDe.scope (XD 7) (deρl x l D (strL H)) (stAt (elseOf deIf) 0))) = HL.map fun H => LL.map fun l => some (.next, deρh x l D (strL (H ++ [l]))) := by kernel_rfl
theorem de_d1 (x : Int) (l : Str) (D H : List PyData) : (HS (R3 40) fDe.scope (deρh x l D H) (stAt (thenOf deIf) 1)).or (ex1 (R3 40) MUd fDe.scope (XD 7) (deρh x l D H) (stAt (thenOf deIf) 1)) = (listOp "append" D (deedD (false, l))).bind fun ds => some (.next, deρd x l ds H) := by kernel_rfl
theorem de_d2 (x : Int) (l : Str) (D H : List PyData) : (HS (R3 40) fDe.scope (deρh x l D H) (stAt (elseOf deIf) 1)).or (ex1 (R3 40) MUd fDe.scope (XD 7) (deρh x l D H) (stAt (elseOf deIf) 1)) = (listOp "append" D (deedD (true, l))).bind fun ds => some (.next, deρd x l ds H) := by kernel_rfl
theorem de_n1 (x : Int) (l : Str) (D H : List PyData) : nzD (thenOf deIf) (deρl x l D H) = deρl x l D H := by kernel_rfl
theorem de_n2 (x : Int) (l : Str) (D H : List PyData) : nzD (elseOf deIf) (deρl x l D H) = deρl x l D H := by kernel_rfl

noncomputable def xD (l : Str) : Deed := (false, l)
noncomputable def de0 (N : PyData) : Rho := [("held", .own []), ("deeds", .own []), ("numbers", .val N)]
theorem de_n9 (x : Int) (N : PyData) : nzD deFor.2 ((de0 N).set "x" (.val (.int x))) = deρ x [] [] := by kernel_rfl
theorem de_n9d (x y : Int) (l : Str) (D H : List PyData) : nzD deFor.2 ((deρd y l D H).set "x" (.val (.int x))) = deρ x D H := by kernel_rfl
/-- the letter of a number -/
noncomputable def letOf (x : Int) : Str := if x.fmod 3 = 0 then "x" else if x.fmod 3 = 1 then "y" else "z"
theorem let_idx (x : Int) : idxD (.str "xyz") (.int (x.fmod 3)) = some (.str (letOf x)) := by
  have h0 : 0 ≤ x.fmod 3 := Int.fmod_nonneg_of_pos x (by decide)
  have h1 : x.fmod 3 < 3 := Int.fmod_lt_of_pos x (by decide)
  have h : x.fmod 3 = 0 ∨ x.fmod 3 = 1 ∨ x.fmod 3 = 2 := by omega
  unfold letOf
  rcases h with h | h | h <;> rw [h] <;> kernel_rfl
theorem letOf_LL (x : Int) : letOf x ∈ LL := by
  unfold letOf
  split
  · decide +kernel
  · split <;> decide +kernel
theorem deed_HL : ∀ H ∈ HL, ∀ l ∈ LL, (if H.contains l then H.erase l else H ++ [l]) ∈ HL := by decide +kernel
theorem de_turn (x : Int) {D : List Deed} (hD : D.length ≤ 1000) {H : List Str} (hH : H ∈ HL) {ρ : Rho} (hρ : nzD deFor.2 ρ = deρ x (D.map deedD) (strL H)) :
    XD 9 deFor.2 ρ = some (.next, deρd x (letOf x) ((deedN (D, H) (letOf x)).1.map deedD) (strL (deedN (D, H) (letOf x)).2)) := by
  have hl := letOf_LL x
  show exL (R3 40) MUd fDe.scope HS (XD 8) deFor.2 (nzD deFor.2 ρ) = _
  have e0 := de_letter x (D.map deedD) (strL H)
  rw [let_idx, Option.bind_some] at e0
  replace e0 : _ = some (Fl.next, deρl x (letOf x) (D.map deedD) (strL H)) := e0
  rw [hρ, de_turnB, exL_next e0]
  have e1 := of_map_eq (of_map_eq (de_if x (D.map deedD)) H hH) _ hl
  unfold deedN
  have la : ∀ b, listOp "append" (D.map deedD) (deedD (b, letOf x)) = some ((D ++ [(b, letOf x)]).map deedD) := fun b => by
    refine (if_pos (by rfl)).trans ((if_pos (by rw [List.length_map]; unfold top; omega)).trans ?_)
    rw [List.map_append]; rfl
  by_cases c : H.contains (letOf x) = true
  · rw [if_pos c] at e1 ⊢
    have e2 := of_map_eq (of_map_eq (de_rem x (D.map deedD)) H hH) _ hl
    rw [if_pos c, if_pos c] at e2
    have e3 := de_d1 x (letOf x) (D.map deedD) (strL (H.erase (letOf x)))
    rw [la, Option.bind_some] at e3
    have e4 : XD 8 (thenOf deIf) (deρl x (letOf x) (D.map deedD) (strL H)) = some (.next, deρd x (letOf x) ((D ++ [(false, letOf x)]).map deedD) (strL (H.erase (letOf x)))) := by
      show exL (R3 40) MUd fDe.scope HS (XD 7) (thenOf deIf) (nzD (thenOf deIf) _) = _
      rw [de_n1, de_then, exL_next e2, exL_next e3]
      rfl
    rw [exL_next (e1.trans e4)]
    rfl
  · rw [if_neg c] at e1 ⊢
    have e2 := of_map_eq (of_map_eq (de_app x (D.map deedD)) H hH) _ hl
    have e3 := de_d2 x (letOf x) (D.map deedD) (strL (H ++ [letOf x]))
    rw [la, Option.bind_some] at e3
    have e4 : XD 8 (elseOf deIf) (deρl x (letOf x) (D.map deedD) (strL H)) = some (.next, deρd x (letOf x) ((D ++ [(true, letOf x)]).map deedD) (strL (H ++ [letOf x]))) := by
      show exL (R3 40) MUd fDe.scope HS (XD 7) (elseOf deIf) (nzD (elseOf deIf) _) = _
      rw [de_n2, de_else, exL_next e2, exL_next e3]
      rfl
    rw [exL_next (e1.trans e4)]
    rfl
noncomputable def de00 (N : PyData) : Rho := [("deeds", .own []), ("numbers", .val N)]
theorem de_s0 (N : PyData) : (HS (R3 40) fDe.scope (rho0 ["numbers"] [N]) (stAt fDe.body 0)).or (ex1 (R3 40) MUd fDe.scope (XD 9) (rho0 ["numbers"] [N]) (stAt fDe.body 0)) = some (.next, de00 N) := by kernel_rfl
theorem de_s1 (N : PyData) : (HS (R3 40) fDe.scope (de00 N) (stAt fDe.body 1)).or (ex1 (R3 40) MUd fDe.scope (XD 9) (de00 N) (stAt fDe.body 1)) = some (.next, de0 N) := by kernel_rfl
theorem de_s2 (N : List PyData) : (HS (R3 40) fDe.scope (de0 (.list N)) (stAt fDe.body 2)).or (ex1 (R3 40) MUd fDe.scope (XD 9) (de0 (.list N)) (stAt fDe.body 2)) = forL fDe.scope (XD 9 deFor.2) deFor.1 N (de0 (.list N)) := by kernel_rfl
theorem de_ret (x : Int) (l : Str) (D : List PyData) : HL.map (fun H => (HS (R3 40) fDe.scope (deρd x l D (strL H)) (stAt fDe.body 3)).or (ex1 (R3 40) MUd fDe.scope (XD 9) (deρd x l D (strL H)) (stAt fDe.body 3))) = HL.map fun H => (mkList (D ++ (H.reverse.map fun l => deedD (false, l)))).bind fun d => some (.ret d, freeze (deρd x l D (strL H))) := by kernel_rfl
theorem de_bind (d : PyData) : bindD deFor.1 d = some [(("x" : Str), d)] := by kernel_rfl
theorem de_own (d : PyData) : ([(("x" : Str), d)].all fun p => own1 fDe.scope p.1) = true := by kernel_rfl
theorem deedN_HL {D : List Deed} {H : List Str} (hH : H ∈ HL) (x : Int) : (deedN (D, H) (letOf x)).2 ∈ HL ∧ (deedN (D, H) (letOf x)).1.length = D.length + 1 := by
  have := deed_HL H hH _ (letOf_LL x)
  unfold deedN
  by_cases c : H.contains (letOf x) = true
  · rw [if_pos c] at this ⊢; exact ⟨this, by simp⟩
  · rw [if_neg c] at this ⊢; exact ⟨this, by simp⟩
theorem de_run (a b c : Int) : runB (XD 10 fDe.body) ["numbers"] [.list [.int a, .int b, .int c]] = some (deedsD (deedsN [letOf a, letOf b, letOf c])) := by
  have h0 : ([] : List Str) ∈ HL := by decide +kernel
  let N : PyData := .list [.int a, .int b, .int c]
  have h1 := deedN_HL (D := []) h0 a
  have h2 := deedN_HL (D := (deedN ([], []) (letOf a)).1) h1.1 b
  have h3 := deedN_HL (D := (deedN (deedN ([], []) (letOf a)) (letOf b)).1) h2.1 c
  have t1 := de_turn a (D := []) (by decide) h0 (ρ := (de0 N).set "x" (.val (.int a))) (de_n9 a N)
  have t2 := de_turn b (D := (deedN ([], []) (letOf a)).1) (by rw [h1.2]; decide) h1.1 (ρ := (deρd a (letOf a) _ _).set "x" (.val (.int b))) (de_n9d b a _ _ _)
  have t3 := de_turn c (D := (deedN (deedN ([], []) (letOf a)) (letOf b)).1) (by rw [h2.2, h1.2]; decide) h2.1 (ρ := (deρd b (letOf b) _ _).set "x" (.val (.int c))) (de_n9d c b _ _ _)
  refine (if_pos rfl).trans ?_
  have e : XD 10 fDe.body (rho0 ["numbers"] [N]) = exL (R3 40) MUd fDe.scope HS (XD 9) fDe.body (nzD fDe.body (rho0 ["numbers"] [N])) := rfl
  have e' : nzD fDe.body (rho0 ["numbers"] [N]) = rho0 ["numbers"] [N] := by kernel_rfl
  have f := de_s2 [.int a, .int b, .int c]
  rw [forL_next (de_bind _) (de_own _) t1, forL_next (de_bind _) (de_own _) t2, forL_next (de_bind _) (de_own _) t3] at f
  have r := of_map_eq (de_ret c (letOf c) ((deedN (deedN (deedN ([], []) (letOf a)) (letOf b)) (letOf c)).1.map deedD)) _ h3.1
  rw [mkList_ok (by
    have q : (deedN (deedN (deedN ([], []) (letOf a)) (letOf b)) (letOf c)).1.length = 3 := by rw [h3.2, h2.2, h1.2]; rfl
    have q2 : ∀ H ∈ HL, H.length ≤ 3 := by decide +kernel
    have q3 := q2 _ h3.1
    simp only [List.length_append, List.length_map, List.length_reverse]
    rw [q]
    have q4 : (deedN (deedN (deedN ([], []) (letOf a)) (letOf b)) (letOf c)).2.length ≤ 3 := q3
    omega), Option.bind_some] at r
  rw [e, e', de_body, exL_next (de_s0 N), exL_next (de_s1 N), exL_next f, exL_ret r]
  refine congrArg some ?_
  show PyData.list _ = PyData.list _
  refine congrArg PyData.list ?_
  show _ = (endN (List.foldl deedN ([], []) [letOf a, letOf b, letOf c])).map deedD
  unfold endN
  rw [List.map_append, List.map_map]
  rfl
end Mine

namespace Mine
open PySem PySem.Calls PySem.Spec PyProof.Rows PySem.W PySem.SeqAt

/-! _law_reached: each statement on data that are not written out -/
noncomputable def FN4 (f : Str) (args : List PyData) : Option PyData :=
  if f == ("_law_step" : Str) then runF (R3 40) HS [] 10 ["pairs", "takes", "letter", "hand"] fSt.body fSt.scope args
  else if f == ("_law_holds" : Str) then runF (R3 40) HS ["holds"] 10 ["deeds"] fHo.body fHo.scope args
  else none
noncomputable abbrev R4 (n : Nat) := ev ⟨FN4, HE⟩ srtT n
noncomputable abbrev fRe := topFn pw "_law_reached"
noncomputable abbrev MUr : List Str := ["todo", "seen", "rows"]
noncomputable def whOf : Stmt → List Stmt
  | .While _ b _ _ => b
  | _ => []
noncomputable abbrev reW := whOf (stAt fRe.body 3)
noncomputable abbrev reF := forOf (stAt reW 2)
noncomputable abbrev reB := thenOf (stAt reF.2 1)
noncomputable abbrev reG := thenOf (stAt reB 3)
noncomputable abbrev reN := thenOf (stAt reG 0)
noncomputable abbrev reE := stAt (elseOf (stAt reB 3)) 0
noncomputable abbrev W4 : List Str := ["todo", "seen", "rows", "both"]
noncomputable abbrev W8 : List Str := "i" :: "j" :: "pairs" :: "waits" :: W4
noncomputable def nzR : Stmt → Rho → Rho := nzS [
  (nzS.lineOf (stAt reW 0), W4), (nzS.lineOf (stAt reW 1), "i" :: "j" :: "pairs" :: W4), (nzS.lineOf (stAt reW 2), W8), (nzS.lineOf (stAt reW 3), W8),
  (nzS.lineOf (stAt reF.2 0), "hand" :: W8), (nzS.lineOf (stAt reF.2 1), "place" :: "hand" :: W8),
  (nzS.lineOf (stAt reB 0), "place" :: "hand" :: W8), (nzS.lineOf (stAt reB 1), "takes" :: "letter" :: "hand" :: W8), (nzS.lineOf (stAt reB 2), "told" :: "then" :: "hand" :: W8),
  (nzS.lineOf (stAt reB 3), "told" :: "then" :: "goal" :: "hand" :: W8), (nzS.lineOf (stAt reG 0), "goal" :: W8), (nzS.lineOf (stAt reN 0), "goal" :: W8), (nzS.lineOf (stAt reN 1), "goal" :: W8),
  (nzS.lineOf reE, "told" :: "then" :: "hand" :: W8), (nzS.lineOf (stAt (thenOf reE) 0), "hand" :: W8), (nzS.lineOf (stAt (elseOf reE) 0), W8)]
noncomputable abbrev XR (n : Nat) := exsS (R4 40) MUr fRe.scope HS nzR n
noncomputable abbrev SR (n : Nat) (st : Stmt) (ρ : Rho) := exSt (R4 40) MUr fRe.scope HS nzR (XR n) st ρ
theorem re_body : fRe.body = [stAt fRe.body 0, stAt fRe.body 1, stAt fRe.body 2, stAt fRe.body 3, stAt fRe.body 4] := by kernel_rfl
theorem re_w : reW = [stAt reW 0, stAt reW 1, stAt reW 2, stAt reW 3] := by kernel_rfl
theorem re_f : reF.2 = [stAt reF.2 0, stAt reF.2 1] := by kernel_rfl
theorem re_b : reB = [stAt reB 0, stAt reB 1, stAt reB 2, stAt reB 3] := by kernel_rfl
theorem re_g : reG = [stAt reG 0] := by kernel_rfl
theorem re_n : reN = [stAt reN 0, stAt reN 1] := by kernel_rfl
theorem re_e : elseOf (stAt reB 3) = [reE] := by kernel_rfl
theorem re_e1 : thenOf reE = [stAt (thenOf reE) 0] := by kernel_rfl
theorem re_e2 : elseOf reE = [stAt (elseOf reE) 0] := by kernel_rfl
theorem re_e0 : elseOf (stAt reF.2 1) = [] := by kernel_rfl
theorem re_e3 : elseOf (stAt reG 0) = [] := by kernel_rfl

noncomputable def bothD (A B : List PyData) : PyData := .list [.list A, .list B]
noncomputable def st4 (T S R : List PyData) (b : PyData) : Rho := [("todo", .own T), ("seen", .own S), ("rows", .own R), ("both", .val b)]
noncomputable def st8 (i j : Int) (ps : List PyData) (w : Str) (T S R : List PyData) (b : PyData) : Rho := ("i", .val (.int i)) :: ("j", .val (.int j)) :: ("pairs", .val (.list ps)) :: ("waits", .val (.str w)) :: st4 T S R b
noncomputable def ifB (rs : List Stmt → Rho → Option (Fl × Rho)) (st : Stmt) (ρ : Rho) : PyData → Option (Fl × Rho)
  | .bool true => rs (thenOf st) ρ
  | .bool false => rs (elseOf st) ρ
  | _ => none
noncomputable def tgtOf : Stmt → Expr
  | .Assign [t] _ _ => t
  | .For t _ _ _ _ => t
  | _ => .Constant .none 0 ⟨0, 0, 0, 0⟩
noncomputable def setB (sc : Scope) (ρ : Rho) (st : Stmt) (d : PyData) : Option (Fl × Rho) := (bindD (tgtOf st) d).bind fun b => if b.all fun q => own1 sc q.1 then some (.next, ρ.sets b) else none
section
variable (i j : Int) (ps : List PyData) (w : Str) (T S R : List PyData) (A B : List PyData)
noncomputable abbrev h8 (h : Nat) (i j : Int) (ps : List PyData) (w : Str) (T S R A B : List PyData) : Rho := ("hand", .val (.int h)) :: st8 i j ps w T S R (bothD A B)
noncomputable def plc (h : Nat) (i j : Int) : Int := if h == 0 then i else j
noncomputable def hnd (h : Nat) (A B : List PyData) : List PyData := if h == 0 then A else B
noncomputable abbrev p8 (p : Int) (h : Nat) (i j : Int) (ps : List PyData) (w : Str) (T S R A B : List PyData) : Rho := ("place", .val (.int p)) :: h8 h i j ps w T S R A B
theorem re_f0 : (List.range 2).map (fun (h : Nat) => SR 7 (stAt reF.2 0) (h8 h i j ps w T S R A B)) = (List.range 2).map fun (h : Nat) => some (.next, p8 (plc h i j) h i j ps w T S R A B) := by kernel_rfl
theorem re_f1 (p : Int) : (List.range 2).map (fun (h : Nat) => SR 7 (stAt reF.2 1) (p8 p h i j ps w T S R A B)) = (List.range 2).map fun (h : Nat) => ((lenD (.list (hnd h A B))).bind fun y => (cmpD .Lt (.int p) y).bind fun d => (truthD d).map .bool).bind (ifB (XR 7) (stAt reF.2 1) (p8 p h i j ps w T S R A B)) := by kernel_rfl
theorem re_b0 (p : Int) : (List.range 2).map (fun (h : Nat) => SR 6 (stAt reB 0) (p8 p h i j ps w T S R A B)) = (List.range 2).map fun (h : Nat) => (idxD (.list (hnd h A B)) (.int p)).bind (setB fRe.scope (p8 p h i j ps w T S R A B) (stAt reB 0)) := by kernel_rfl
noncomputable def lt8 (b : Bool) (l : Str) (ρ : Rho) : Rho := ("letter", .val (.str l)) :: ("takes", .val (.bool b)) :: ρ
noncomputable def tl8 (b : Bool) (l : Str) (ρ : Rho) : Rho := ("takes", .val (.bool b)) :: ("letter", .val (.str l)) :: ρ
theorem re_b0s (p : Int) (b : Bool) (l : Str) : (List.range 2).map (fun (h : Nat) => setB fRe.scope (p8 p h i j ps w T S R A B) (stAt reB 0) (.tuple [.bool b, .str l])) = (List.range 2).map fun (h : Nat) => some (.next, lt8 b l (p8 p h i j ps w T S R A B)) := by kernel_rfl
theorem re_b1 (p : Int) (b : Bool) (l : Str) : (List.range 2).map (fun (h : Nat) => SR 6 (stAt reB 1) (lt8 b l (p8 p h i j ps w T S R A B))) = (List.range 2).map fun (h : Nat) => (FN4 "_law_step" [.list ps, .bool b, .str l, .int h]).bind (setB fRe.scope (tl8 b l (h8 h i j ps w T S R A B)) (stAt reB 1)) := by kernel_rfl
noncomputable def tt8 (u : PyData) (th : List PyData) (ρ : Rho) : Rho := ("then", .val (.list th)) :: ("told", .val u) :: ρ
theorem re_b1s (b : Bool) (l : Str) (u : PyData) (th : List PyData) : (List.range 2).map (fun (h : Nat) => setB fRe.scope (tl8 b l (h8 h i j ps w T S R A B)) (stAt reB 1) (.tuple [u, .list th])) = (List.range 2).map fun (h : Nat) => some (.next, tt8 u th (tl8 b l (h8 h i j ps w T S R A B))) := by kernel_rfl
noncomputable def gt8 (g u : PyData) (th : List PyData) (ρ : Rho) : Rho := ("goal", .val g) :: ("told", .val u) :: ("then", .val (.list th)) :: ρ
noncomputable def goalD (h : Nat) (i j : Int) (th : List PyData) : PyData := .tuple [.int (i + 1 - h), .int (j + h), .list th]
noncomputable def g8 (u : PyData) (th : List PyData) (g : PyData) (ρ : Rho) : Rho := ("told", .val u) :: ("then", .val (.list th)) :: ("goal", .val g) :: ρ
theorem re_b2 (b : Bool) (l : Str) (u : PyData) (th : List PyData) : (List.range 2).map (fun (h : Nat) => SR 6 (stAt reB 2) (tt8 u th (tl8 b l (h8 h i j ps w T S R A B)))) = (List.range 2).map fun (h : Nat) => some (.next, gt8 (goalD h i j th) u th (h8 h i j ps w T S R A B)) := by kernel_rfl
theorem re_b3 (th : List PyData) (g : PyData) : VL.map (fun u => (List.range 2).map fun (h : Nat) => SR 6 (stAt reB 3) (gt8 g (.str u) th (h8 h i j ps w T S R A B))) = VL.map fun u => (List.range 2).map fun (h : Nat) => XR 6 (if u == vOf h then reG else elseOf (stAt reB 3)) (g8 (.str u) th g (h8 h i j ps w T S R A B)) := by kernel_rfl
/-- told the own answer -/
noncomputable def gl8 (g : PyData) (ρ : Rho) : Rho := ("goal", .val g) :: ρ
noncomputable def codeI (g0 g1 : Int) : Int := 10 * g0 + g1
theorem re_g0 (u : PyData) (th : List PyData) (g0 g1 : Int) (z : PyData) : (List.range 2).map (fun (h : Nat) => SR 5 (stAt reG 0) (g8 u th (.tuple [.int g0, .int g1, z]) (h8 h i j ps w T S R A B))) = (List.range 2).map fun (_ : Nat) => ((cmpD .NotIn (.int (codeI g0 g1)) (.list S)).bind fun d => (truthD d).map .bool).bind (ifB (XR 5) (stAt reG 0) (gl8 (.tuple [.int g0, .int g1, z]) (st8 i j ps w T S R (bothD A B)))) := by kernel_rfl
theorem re_n0 (g0 g1 : Int) (z : PyData) : SR 4 (stAt reN 0) (gl8 (.tuple [.int g0, .int g1, z]) (st8 i j ps w T S R (bothD A B))) = (listOp "append" S (.int (codeI g0 g1))).bind fun S' => some (.next, (gl8 (.tuple [.int g0, .int g1, z]) (st8 i j ps w T S R (bothD A B))).set "seen" (.own S')) := by kernel_rfl
theorem re_n1 (g : PyData) (S' : List PyData) : SR 4 (stAt reN 1) ((gl8 g (st8 i j ps w T S R (bothD A B))).set "seen" (.own S')) = (listOp "append" T g).bind fun T' => some (.next, (gl8 g (st8 i j ps w T S' R (bothD A B))).set "todo" (.own T')) := by kernel_rfl
/-- told the other's answer -/
noncomputable def vOt (h : Nat) : Str := if h == 0 then "q" else "p"
noncomputable def tn8 (u : PyData) (th : List PyData) (ρ : Rho) : Rho := ("told", .val u) :: ("then", .val (.list th)) :: ρ
theorem re_w0 (th : List PyData) : (List.range 2).map (fun (h : Nat) => SR 4 (stAt (thenOf reE) 0) (tn8 (.str (vOt h)) th (h8 h i j ps w T S R A B))) = (List.range 2).map fun (h : Nat) => if w.length + (vOf h).length ≤ top then some (.next, (h8 h i j ps w T S R A B).set "waits" (.val (.str (w ++ vOf h)))) else none := by kernel_rfl
noncomputable def boolEs : Expr → List Expr
  | .BoolOp _ es _ => es
  | _ => []
noncomputable abbrev eE (n : Nat) : Expr := (boolEs (rhsOf reE)).getD n (.Constant .none 0 ⟨0, 0, 0, 0⟩)
theorem re_es : boolEs (rhsOf reE) = [eE 0, eE 1] := by kernel_rfl
theorem re_t1 (th : List PyData) : (List.range 2).map (fun (h : Nat) => R4 39 .truth fRe.scope (tn8 (.str (vOt h)) th (h8 h i j ps w T S R A B)) (eE 0)) = (List.range 2).map fun (_ : Nat) => some (.bool true) := by kernel_rfl
theorem re_t2 (th : List PyData) : (List.range 2).map (fun (h : Nat) => R4 39 .truth fRe.scope (tn8 (.str (vOt h)) th (h8 h i j ps w T S R A B)) (eE 1)) = (List.range 2).map fun (_ : Nat) => ((cmpD .Eq (.list th) (.list ps)).bind fun d => (truthD d).map .bool) := by kernel_rfl
theorem re_t3 (th : List PyData) : (List.range 2).map (fun (h : Nat) => R4 40 .truth fRe.scope (tn8 (.str (vOt h)) th (h8 h i j ps w T S R A B)) (rhsOf reE)) = (List.range 2).map fun (h : Nat) => (evB (R4 39) .And fRe.scope (tn8 (.str (vOt h)) th (h8 h i j ps w T S R A B)) (boolEs (rhsOf reE))).map .bool := by kernel_rfl
theorem re_t4 (th : List PyData) (g : PyData) : (List.range 2).map (fun (h : Nat) => SR 5 reE (g8 (.str (vOt h)) th g (h8 h i j ps w T S R A B))) = (List.range 2).map fun (h : Nat) => (R4 40 .truth fRe.scope (tn8 (.str (vOt h)) th (h8 h i j ps w T S R A B)) (rhsOf reE)).bind (ifB (XR 5) reE (tn8 (.str (vOt h)) th (h8 h i j ps w T S R A B))) := by kernel_rfl
theorem re_same {th : List PyData} (g : PyData) (hc : cmpD .Eq (.list th) (.list ps) = some (.bool true)) {h : Nat} (hh : h ∈ List.range 2) : SR 5 reE (g8 (.str (vOt h)) th g (h8 h i j ps w T S R A B)) = XR 5 (thenOf reE) (tn8 (.str (vOt h)) th (h8 h i j ps w T S R A B)) := by
  rw [of_map_eq (re_t4 i j ps w T S R A B th g) h hh, of_map_eq (re_t3 i j ps w T S R A B th) h hh, re_es]
  unfold evB
  rw [of_map_eq (re_t1 i j ps w T S R A B th) h hh, Option.bind_some]
  show (Option.map _ (evB _ _ _ _ [_])).bind _ = _
  unfold evB
  rw [of_map_eq (re_t2 i j ps w T S R A B th) h hh, hc]
  rfl

/-! around the inner loop -/
noncomputable def wρ (i j : Int) (ps : List PyData) (w : Str) (T S R0 R : List PyData) (b : PyData) : Rho := (st8 i j ps w T S R0 b).set "rows" (.own R)
noncomputable def w0ρ (T S R : List PyData) (b : PyData) : Rho := [("rows", .own R), ("seen", .own S), ("todo", .own T), ("both", .val b)]
noncomputable def popB (ρ : Rho) (T : List PyData) : Option (Fl × Rho) := if T.length ≤ top then T.getLast?.bind fun d => (bindD (tgtOf (stAt reW 0)) d).bind fun b => if b.all fun q => own1 fRe.scope q.1 then some (.next, (ρ.set "todo" (.own T.dropLast)).sets b) else none else none
theorem re_pop (R0 : List PyData) (b : PyData) : SR 8 (stAt reW 0) (wρ i j ps w T S R0 R b) = popB (st4 T S R b) T := by kernel_rfl
theorem re_pop0 (b : PyData) : SR 8 (stAt reW 0) (w0ρ T S R b) = popB (st4 T S R b) T := by kernel_rfl
noncomputable def aρ (i j : Int) (ps T S R : List PyData) (b : PyData) : Rho := ("pairs", .val (.list ps)) :: ("j", .val (.int j)) :: ("i", .val (.int i)) :: ("todo", .own T) :: ("seen", .own S) :: ("rows", .own R) :: [("both", .val b)]
noncomputable def a4ρ (i j : Int) (ps T S R : List PyData) (b : PyData) : Rho := ("i", .val (.int i)) :: ("j", .val (.int j)) :: ("pairs", .val (.list ps)) :: st4 T S R b
theorem re_popB (T' : List PyData) (b : PyData) : (bindD (tgtOf (stAt reW 0)) (.tuple [.int i, .int j, .list ps])).bind (fun bs => if bs.all fun q => own1 fRe.scope q.1 then some (Fl.next, ((st4 T S R b).set "todo" (.own T')).sets bs) else none) = some (Fl.next, aρ i j ps T' S R b) := by kernel_rfl
theorem re_waits (b : PyData) : SR 8 (stAt reW 1) (aρ i j ps T S R b) = some (.next, (a4ρ i j ps T S R b).set "waits" (.val (.str ""))) := by kernel_rfl
theorem re_for (b : PyData) : SR 8 (stAt reW 2) ((a4ρ i j ps T S R b).set "waits" (.val (.str w))) = forL fRe.scope (XR 8 reF.2) reF.1 [.int (0 : Nat), .int (1 : Nat)] (st8 i j ps w T S R b) := by kernel_rfl
theorem re_bind (d : PyData) : bindD reF.1 d = some [(("hand" : Str), d)] := by kernel_rfl
theorem re_own (d : PyData) : ([(("hand" : Str), d)].all fun p => own1 fRe.scope p.1) = true := by kernel_rfl
theorem re_row (b : PyData) : SR 8 (stAt reW 3) (st8 i j ps w T S R b) = ((((((srtT (.list ps)).bind fun d => some [d]).bind fun ds => some (PyData.str w :: ds)).bind fun ds => some (PyData.int j :: ds)).bind fun ds => some (PyData.int i :: ds)).bind fun ds => if ds.length ≤ top then some (PyData.tuple ds) else none).bind fun d => (listOp "append" R d).bind fun R' => some (.next, wρ i j ps w T S R R' b) := by kernel_rfl
noncomputable def testRe (ρ : Rho) : Option Bool := (R4 40 .truth fRe.scope ρ (testOf (stAt fRe.body 3))).bind truthD
where testOf : Stmt → Expr
  | .While e _ _ _ => e
  | _ => .Constant .none 0 ⟨0, 0, 0, 0⟩
theorem re_test (R0 : List PyData) (b : PyData) : testRe (wρ i j ps w T S R0 R b) = ((cmpD .NotEq (.list T) (.list [])).bind fun d => (truthD d).map .bool).bind truthD := by kernel_rfl
theorem re_test0 (b : PyData) : testRe (w0ρ T S R b) = ((cmpD .NotEq (.list T) (.list [])).bind fun d => (truthD d).map .bool).bind truthD := by kernel_rfl
theorem re_s0 (b : PyData) : SR 9 (stAt fRe.body 0) (rho0 ["both"] [b]) = some (.next, (rho0 ["both"] [b]).set "todo" (.own [.tuple [.int 0, .int 0, .list []]])) := by kernel_rfl
theorem re_s1 (b : PyData) : SR 9 (stAt fRe.body 1) ((rho0 ["both"] [b]).set "todo" (.own [.tuple [.int 0, .int 0, .list []]])) = some (.next, ((rho0 ["both"] [b]).set "todo" (.own [.tuple [.int 0, .int 0, .list []]])).set "seen" (.own [.int 0])) := by kernel_rfl
theorem re_s2 (b : PyData) : SR 9 (stAt fRe.body 2) (((rho0 ["both"] [b]).set "todo" (.own [.tuple [.int 0, .int 0, .list []]])).set "seen" (.own [.int 0])) = some (.next, w0ρ [.tuple [.int 0, .int 0, .list []]] [.int 0] [] b) := by kernel_rfl
theorem re_s3 (ρ : Rho) : SR 9 (stAt fRe.body 3) ρ = whL testRe (XR 9 reW) 200 ρ := by kernel_rfl
theorem re_ret (R0 : List PyData) (b : PyData) : SR 9 (stAt fRe.body 4) (wρ i j ps w T S R0 R b) = (srtT (.list R)).bind fun d => some (.ret d, freeze (wρ i j ps w T S R0 R b)) := by kernel_rfl
end
end Mine

namespace Mine
open PySem PySem.Calls PySem.Spec PyProof.Rows PySem.W PySem.SeqAt

/-! what the hands hold, what stands in the table: plain lists -/
noncomputable def Hd (A : List Deed) (i : Nat) : List Str := (holdsN A).getD i []
noncomputable def dj (a b : List Str) : Bool := a.all fun x => !b.contains x
noncomputable def ndB : List Str → Bool
  | [] => true
  | x :: r => !r.contains x && ndB r
theorem ndB_nd : ∀ {l : List Str}, ndB l = true → l.Nodup
  | [], _ => List.nodup_nil
  | x :: r, h => by
    unfold ndB at h
    rw [Bool.and_eq_true, Bool.not_eq_true'] at h
    refine List.nodup_cons.mpr ⟨fun m => ?_, ndB_nd h.2⟩
    rw [List.contains_iff_mem.mpr m] at h
    cases h.1
noncomputable def wfHold (h : List Str) : Bool := h.all (LL.contains ·) && ndB h && decide (h.length ≤ 3)
noncomputable def wfAt (A : List Deed) (i : Nat) : Bool := match A[i]? with
  | none => true
  | some d => LL.contains d.2 && (if d.1 then !(Hd A i).contains d.2 && (Hd A (i + 1) == Hd A i ++ [d.2]) else (Hd A i).contains d.2 && (Hd A (i + 1) == (Hd A i).filter fun o => !(o == d.2)))
noncomputable def wfB (A : List Deed) : Bool := decide (A.length ≤ 6) && ((holdsN A).length == A.length + 1) && (Hd A 0 == []) && (holdsN A).all wfHold && (List.range 6).all (wfAt A)
theorem wf_all : ∀ t ∈ L3, wfB (deedsN t) = true := by decide +kernel
structure Wf (A : List Deed) : Prop where
  len : A.length ≤ 6
  hlen : (holdsN A).length = A.length + 1
  zero : Hd A 0 = []
  hold : ∀ i, wfHold (Hd A i) = true
  at_ : ∀ i, wfAt A i = true
theorem wf_of {A : List Deed} (h : wfB A = true) : Wf A := by
  unfold wfB at h
  simp only [Bool.and_eq_true, decide_eq_true_eq, beq_iff_eq] at h
  obtain ⟨⟨⟨⟨h1, h2⟩, h3⟩, h4⟩, h5⟩ := h
  refine ⟨h1, h2, h3, fun i => ?_, fun i => ?_⟩
  · unfold Hd
    rw [List.getD_eq_getElem?_getD]
    cases e : (holdsN A)[i]? with
    | none => rfl
    | some x => exact List.all_eq_true.mp h4 x (List.mem_of_getElem? e)
  · by_cases c : i < 6
    · exact List.all_eq_true.mp h5 i (List.mem_range.mpr c)
    · unfold wfAt
      rw [List.getElem?_eq_none (by omega)]
section
variable {A : List Deed} (W : Wf A)
include W
theorem Wf.mem {i : Nat} {x : Str} (h : x ∈ Hd A i) : x ∈ LL := by
  have := W.hold i
  unfold wfHold at this
  simp only [Bool.and_eq_true] at this
  exact List.contains_iff_mem.mp (List.all_eq_true.mp this.1.1 x h)
theorem Wf.nd {i : Nat} : (Hd A i).Nodup := by
  have := W.hold i
  unfold wfHold at this
  simp only [Bool.and_eq_true] at this
  exact ndB_nd this.1.2
theorem Wf.le {i : Nat} : (Hd A i).length ≤ 3 := by
  have := W.hold i
  unfold wfHold at this
  simp only [Bool.and_eq_true, decide_eq_true_eq] at this
  exact this.2
theorem Wf.deed {i : Nat} {b : Bool} {l : Str} (h : A[i]? = some (b, l)) : l ∈ LL ∧ (if b then l ∉ Hd A i ∧ Hd A (i + 1) = Hd A i ++ [l] else l ∈ Hd A i ∧ Hd A (i + 1) = (Hd A i).filter fun o => !(o == l)) := by
  have := W.at_ i
  unfold wfAt at this
  rw [h] at this
  simp only [Bool.and_eq_true] at this
  refine ⟨List.contains_iff_mem.mp this.1, ?_⟩
  cases b with
  | true =>
    have := this.2
    simp only [if_true, Bool.and_eq_true, Bool.not_eq_true', beq_iff_eq] at this
    refine ⟨fun m => ?_, this.2⟩
    rw [List.contains_iff_mem.mpr m] at this
    cases this.1
  | false =>
    have := this.2
    simp only [Bool.false_eq_true, if_false, Bool.and_eq_true, beq_iff_eq] at this ⊢
    exact ⟨List.contains_iff_mem.mp this.1, this.2⟩
end
theorem dj_iff {a b : List Str} : dj a b = true ↔ ∀ x ∈ a, x ∉ b := by
  unfold dj
  rw [List.all_eq_true]
  refine forall_congr' fun x => forall_congr' fun _ => ?_
  rw [Bool.not_eq_true', ← Bool.not_eq_true, List.contains_iff_mem]
theorem dj_comm {a b : List Str} : dj a b = dj b a := by
  rw [Bool.eq_iff_iff, dj_iff, dj_iff]
  exact ⟨fun h x hb ha => h x ha hb, fun h x ha hb => h x hb ha⟩

/-- the pairs of one hand -/
noncomputable def canH (h : Nat) (X : List Str) : List PyData := X.map fun x => pr (nmT x h) (vOf h)
noncomputable def GoodH (h : Nat) (X Y : List Str) (ps : List PyData) : Prop := ps.Perm (canH h X ++ canH (1 - h) Y)
theorem goodH_swap {h : Nat} (hh : h ∈ List.range 2) {X Y : List Str} {ps : List PyData} (g : GoodH h X Y ps) : GoodH (1 - h) Y X ps := by
  have := List.mem_range.mp hh
  have e : 1 - (1 - h) = h := by omega
  unfold GoodH at g ⊢
  rw [e]
  exact g.trans List.perm_append_comm
theorem hand_sw {h : Nat} (hh : h ∈ List.range 2) : 1 - h ∈ List.range 2 := List.mem_range.mpr (by omega)
theorem can_facts : ∀ x ∈ LL, ∀ h ∈ List.range 2, lowK (pr (nmT x h) (vOf h)) = x ∧ Txt.lower (nmT x h) = x ∧ Txt.lower (nmF x h) = x ∧ inPL (pr (nmT x h) (vOf h)) = true ∧ vOf (1 - h) = vOt h := by decide +kernel
theorem getP_none {n : Str} : ∀ {ps : List PyData}, (∀ d ∈ ps, lowK d ≠ Txt.lower n) → getP n ps = .none
  | [], _ => rfl
  | d :: ps, h => by
    unfold getP
    rw [if_neg (by rw [beq_iff_eq]; exact h d List.mem_cons_self)]
    exact getP_none fun d' hd => h d' (List.mem_cons_of_mem _ hd)
theorem getP_some {n : Str} {v : PyData} : ∀ {ps : List PyData}, (∃ d ∈ ps, lowK d = Txt.lower n) → (∀ d ∈ ps, lowK d = Txt.lower n → valOf d = v) → getP n ps = v
  | [], h, _ => by obtain ⟨_, hd, _⟩ := h; cases hd
  | d :: ps, h, k => by
    unfold getP
    by_cases c : lowK d = Txt.lower n
    · rw [if_pos (beq_iff_eq.mpr c)]; exact k d List.mem_cons_self c
    · rw [if_neg (by rw [beq_iff_eq]; exact c)]
      refine getP_some ?_ fun d' hd => k d' (List.mem_cons_of_mem _ hd)
      obtain ⟨d', hd', e⟩ := h
      rcases List.mem_cons.mp hd' with rfl | hd'
      · exact absurd e c
      · exact ⟨d', hd', e⟩
section
variable {h : Nat} (hh : h ∈ List.range 2) {X Y : List Str} (hX : ∀ x ∈ X, x ∈ LL) (hY : ∀ x ∈ Y, x ∈ LL) {l : Str} (hl : l ∈ LL) {ps : List PyData} (g : GoodH h X Y ps)
include hh hX hY g
theorem good_mem {d : PyData} (hd : d ∈ ps) : (∃ x ∈ X, d = pr (nmT x h) (vOf h)) ∨ (∃ x ∈ Y, d = pr (nmT x (1 - h)) (vOf (1 - h))) := by
  rcases List.mem_append.mp (g.mem_iff.mp hd) with m | m
  · obtain ⟨x, hx, e⟩ := List.mem_map.mp m; exact .inl ⟨x, hx, e.symm⟩
  · obtain ⟨x, hx, e⟩ := List.mem_map.mp m; exact .inr ⟨x, hx, e.symm⟩
theorem good_ok (h1 : X.length ≤ 3) (h2 : Y.length ≤ 3) : okN 6 ps = true := by
  unfold okN
  rw [Bool.and_eq_true, decide_eq_true_eq]
  refine ⟨List.all_eq_true.mpr fun d hd => ?_, ?_⟩
  · rcases good_mem hh hX hY g hd with ⟨x, hx, rfl⟩ | ⟨x, hx, rfl⟩
    · exact (can_facts x (hX x hx) h hh).2.2.2.1
    · exact (can_facts x (hY x hx) _ (hand_sw hh)).2.2.2.1
  · have := g.length_eq
    unfold canH at this
    rw [List.length_append, List.length_map, List.length_map] at this
    omega
include hl
theorem step_other (hx : l ∉ X) (hy : l ∈ Y) : stepP true l h ps = (.str (vOt h), ps) := by
  have e : getP (nmT l h) ps = .str (vOt h) := by
    rw [← (can_facts l hl h hh).2.2.2.2]
    refine getP_some ⟨pr (nmT l (1 - h)) (vOf (1 - h)), g.mem_iff.mpr (List.mem_append_right _ (List.mem_map.mpr ⟨l, hy, rfl⟩)), ?_⟩ fun d hd e => ?_
    · rw [(can_facts l hl _ (hand_sw hh)).1, (can_facts l hl h hh).2.1]
    · rw [(can_facts l hl h hh).2.1] at e
      rcases good_mem hh hX hY g hd with ⟨x, hx', rfl⟩ | ⟨x, hx', rfl⟩
      · rw [(can_facts x (hX x hx') h hh).1] at e
        exact absurd (e ▸ hx') hx
      · rfl
  unfold stepP sdP
  rw [e]; rfl
theorem step_take (hx : l ∉ X) (hy : l ∉ Y) : stepP true l h ps = (.str (vOf h), ps ++ [pr (nmT l h) (vOf h)]) ∧ GoodH h (X ++ [l]) Y (ps ++ [pr (nmT l h) (vOf h)]) := by
  have e : getP (nmT l h) ps = .none := by
    refine getP_none fun d hd e => ?_
    rw [(can_facts l hl h hh).2.1] at e
    rcases good_mem hh hX hY g hd with ⟨x, hx', rfl⟩ | ⟨x, hx', rfl⟩
    · rw [(can_facts x (hX x hx') h hh).1] at e; exact hx (e ▸ hx')
    · rw [(can_facts x (hY x hx') _ (hand_sw hh)).1] at e; exact hy (e ▸ hx')
  refine ⟨by unfold stepP sdP; rw [e]; rfl, ?_⟩
  unfold GoodH canH at g ⊢
  rw [List.map_append, List.append_assoc]
  refine (g.append_right _).trans ?_
  rw [List.append_assoc]
  exact List.Perm.append_left _ List.perm_append_comm
theorem step_free (hy : l ∉ Y) : stepP false l h ps = (.str (vOf h), delP (nmF l h) ps) ∧ GoodH h (X.filter fun o => !(o == l)) Y (delP (nmF l h) ps) := by
  refine ⟨rfl, ?_⟩
  have k : ∀ d, delφ (nmF l h) d = if lowK d == l then none else some d := fun d => by
    unfold delφ
    rw [(can_facts l hl h hh).2.2.1]
  unfold GoodH at g ⊢
  unfold delP
  refine (g.filterMap _).trans (List.Perm.of_eq ?_)
  rw [List.filterMap_append]
  have one : ∀ (Z : List Str), (∀ x ∈ Z, x ∈ LL) → ∀ h' ∈ List.range 2, (canH h' Z).filterMap (delφ (nmF l h)) = canH h' (Z.filter fun o => !(o == l)) := fun Z hZ h' hh' => by
    induction Z with
    | nil => rfl
    | cons x Z ih =>
      have f := can_facts x (hZ x List.mem_cons_self) h' hh'
      unfold canH at ih ⊢
      rw [List.map_cons, List.filterMap_cons, k, f.1, List.filter_cons]
      cases c : x == l with
      | true => exact ih fun y hy => hZ y (List.mem_cons_of_mem _ hy)
      | false =>
        simp only [Bool.not_false, if_true, Bool.false_eq_true, if_false, List.map_cons]
        rw [ih fun y hy => hZ y (List.mem_cons_of_mem _ hy)]
  rw [one X hX h hh, one Y hY _ (hand_sw hh)]
  congr 2
  refine List.filter_eq_self.mpr fun y hy' => ?_
  rw [Bool.not_eq_true', beq_eq_false_iff_ne]
  rintro rfl
  exact hy hy'
end
end Mine

namespace Mine
open PySem PySem.Calls PySem.Spec PyProof.Rows PySem.W PySem.SeqAt

/-! a hand's turn in _law_reached -/
noncomputable abbrev Todo := Nat × Nat × List PyData
noncomputable def todoD (q : Todo) : PyData := .tuple [.int q.1, .int q.2.1, .list q.2.2]
noncomputable def intD (n : Nat) : PyData := .int (n : Int)
noncomputable def codeN (a b : Nat) : Nat := 10 * a + b
/-- waits, todo, seen -/
noncomputable abbrev Q3 := Str × List Todo × List Nat
noncomputable def pushP (h i j : Nat) (th : List PyData) (q : Q3) : Q3 := if q.2.2.contains (codeN (i + 1 - h) (j + h)) then q else (q.1, q.2.1 ++ [(i + 1 - h, j + h, th)], q.2.2 ++ [codeN (i + 1 - h) (j + h)])
noncomputable def handP (h : Nat) (D : List Deed) (p : Nat) (Y : List Str) (i j : Nat) (ps : List PyData) (q : Q3) : Q3 := match D[p]? with
  | none => q
  | some d => if dj (Hd D (p + 1)) Y then pushP h i j (stepP d.1 d.2 h ps).2 q else (q.1 ++ vOf h, q.2.1, q.2.2)

noncomputable def Is8 (ρ : Rho) (i j : Int) (ps : List PyData) (w : Str) (T S R : List PyData) (b : PyData) : Prop :=
  nzR (stAt reW 3) ρ = nzR (stAt reW 3) (st8 i j ps w T S R b) ∧ ∀ d, nzR (stAt reF.2 0) (ρ.set "hand" d) = nzR (stAt reF.2 0) ((st8 i j ps w T S R b).set "hand" d)
section
variable (i j : Int) (ps : List PyData) (w : Str) (T S R A B : List PyData)
theorem is8_a (p : Int) (h : Nat) : Is8 (p8 p h i j ps w T S R A B) i j ps w T S R (bothD A B) := ⟨by kernel_rfl, fun _ => by kernel_rfl⟩
theorem is8_b (g : PyData) : Is8 (gl8 g (st8 i j ps w T S R (bothD A B))) i j ps w T S R (bothD A B) := ⟨by kernel_rfl, fun _ => by kernel_rfl⟩
theorem is8_c (g : PyData) (T' : List PyData) : Is8 ((gl8 g (st8 i j ps w T S R (bothD A B))).set "todo" (.own T')) i j ps w T' S R (bothD A B) := ⟨by kernel_rfl, fun _ => by kernel_rfl⟩
theorem is8_d (h : Nat) (w' : Str) : Is8 ((h8 h i j ps w T S R A B).set "waits" (.val (.str w'))) i j ps w' T S R (bothD A B) := ⟨by kernel_rfl, fun _ => by kernel_rfl⟩
theorem is8_0 (b : PyData) : Is8 (st8 i j ps w T S R b) i j ps w T S R b := ⟨rfl, fun _ => rfl⟩
theorem set_hand (h : Nat) : (st8 i j ps w T S R (bothD A B)).set "hand" (.val (.int h)) = h8 h i j ps w T S R A B := by kernel_rfl
end
theorem exSt_congr {r : Md → Scope → Rho → Expr → Option PyData} {mu : List Str} {sc : Scope} {sh : SHook} {nz : Stmt → Rho → Rho} {rs : List Stmt → Rho → Option (Fl × Rho)} {st : Stmt} {ρ ρ' : Rho} (e : nz st ρ = nz st ρ') : exSt r mu sc sh nz rs st ρ = exSt r mu sc sh nz rs st ρ' := by
  unfold exSt; rw [e]
theorem XR_nil (n : Nat) (ρ : Rho) : XR (n + 1) [] ρ = some (.next, ρ) := rfl
theorem XR_one {n : Nat} {st : Stmt} {ρ ρ1 : Rho} (h : SR n st ρ = some (.next, ρ1)) : XR (n + 1) [st] ρ = some (.next, ρ1) := by
  show exLS _ _ _ _ _ _ [st] ρ = _
  rw [exLS_next h]; rfl

theorem XR_two {n : Nat} {st st' : Stmt} {ρ ρ1 ρ2 : Rho} (h : SR n st ρ = some (.next, ρ1)) (h' : SR n st' ρ1 = some (.next, ρ2)) : XR (n + 1) [st, st'] ρ = some (.next, ρ2) := by
  show exLS _ _ _ _ _ _ [st, st'] ρ = _
  rw [exLS_next h, exLS_next h']; rfl

/-! data that are small -/
theorem small_ints (S : List Nat) : smallD (.list (S.map intD)) = true :=
  smallD_list (n := 0) (fun d hd => by obtain ⟨_, _, rfl⟩ := List.mem_map.mp hd; rfl) (fun d hd => by obtain ⟨_, _, rfl⟩ := List.mem_map.mp hd; unfold intD PyData.depth; omega) (by omega)
theorem any_ints (c : Nat) : ∀ S : List Nat, (S.map intD).any (fun y => PyData.eqv y (.int (c : Int))) = S.contains c
  | [] => rfl
  | n :: S => by
    rw [List.map_cons, List.any_cons, any_ints c S, List.contains_cons]
    congr 1
    show (((n : Int) == (c : Int)) : Bool) = _
    rw [Bool.eq_iff_iff, beq_iff_eq, beq_iff_eq]
    omega
theorem notin_ints (c : Nat) (S : List Nat) : cmpD .NotIn (.int (c : Int)) (.list (S.map intD)) = some (.bool (!S.contains c)) := by
  rw [← any_ints]
  exact if_pos (by rw [small_ints]; rfl)
theorem PL_can : PL.all (fun d => d.canLay0 && strO d && decide (d.depth ≤ 4)) = true := by decide +kernel
theorem PL_small {d : PyData} (hd : d ∈ PL) : d.canLay0 = true ∧ strO d = true ∧ d.depth ≤ 4 := by
  have := List.all_eq_true.mp PL_can d hd
  simp only [Bool.and_eq_true, decide_eq_true_eq] at this
  exact ⟨this.1.1, this.1.2, this.2⟩
theorem small_ok {n : Nat} {ps : List PyData} (h : okN n ps = true) (hn : n ≤ 12) : smallD (.list ps) = true ∧ strO (.list ps) = true := by
  have hp := okPs_PL (okN_ok h hn)
  exact ⟨smallD_list (n := 4) (fun d hd => (PL_small (hp d hd)).1) (fun d hd => (PL_small (hp d hd)).2.2) (by omega), by unfold strO; exact strOs_all fun d hd => (PL_small (hp d hd)).2.1⟩
theorem eq_self {n : Nat} {ps : List PyData} (h : okN n ps = true) (hn : n ≤ 12) : cmpD .Eq (.list ps) (.list ps) = some (.bool true) := by
  have s := small_ok h hn
  rw [cmpEq s.1 s.1, (eqv_iff s.2 (Bool.and_eq_true_iff.mp s.1).1).mpr rfl]
theorem idx_at {ds : List PyData} {p : Nat} (hp : p < 100) : idxD (.list ds) (.int (p : Int)) = ds[p]? := by
  have e : idxD (.list ds) (.int (p : Int)) = if idxOk (p : Int) then (seqIndex? (p : Int) ds.length).bind fun k => ds[k]? else none := rfl
  rw [e, if_pos (by unfold idxOk; rw [decide_eq_true_eq]; omega)]
  unfold seqIndex?
  have hn : ¬ (p : Int) < 0 := by omega
  simp only [if_neg hn]
  by_cases c : p < ds.length
  · rw [if_pos (by simp; omega)]
    show ds[((p : Int)).toNat]? = _
    rw [Int.toNat_natCast]
  · rw [if_neg (by simp; omega), List.getElem?_eq_none (by omega)]
    rfl
theorem append_ok {ds : List PyData} {d : PyData} (h : ds.length ≤ 1000) : listOp "append" ds d = some (ds ++ [d]) := (if_pos (by rfl)).trans (if_pos (by unfold top; omega))

theorem step_fn {b : Bool} {l : Str} (hl : l ∈ LL) {h : Nat} (hh : h ∈ List.range 2) {ps : List PyData} (hp : okN 11 ps = true) : FN4 "_law_step" [.list ps, .bool b, .str l, .int (h : Int)] = some (.tuple [(stepP b l h ps).1, .list (stepP b l h ps).2]) := (if_pos (by rfl)).trans (st_run hl hh hp)
theorem ifB_t {rs : List Stmt → Rho → Option (Fl × Rho)} {st : Stmt} {ρ : Rho} : ifB rs st ρ (.bool true) = rs (thenOf st) ρ := rfl
theorem ifB_f {rs : List Stmt → Rho → Option (Fl × Rho)} {st : Stmt} {ρ : Rho} : ifB rs st ρ (.bool false) = rs (elseOf st) ρ := rfl
theorem vOt_VL : ∀ h ∈ List.range 2, vOt h ∈ VL ∧ (vOt h == vOf h) = false ∧ vOf h ∈ VL := by decide +kernel

section
variable {i j : Nat} {ps : List PyData} {w : Str} {T : List Todo} {S : List Nat} {R A B : List PyData} {h : Nat} (hh : h ∈ List.range 2)
include hh
theorem goal_eq (th : List PyData) : goalD h (i : Int) (j : Int) th = todoD (i + 1 - h, j + h, th) := by
  have := List.mem_range.mp hh
  unfold goalD todoD
  have e1 : ((i : Int) + 1 - (h : Int)) = ((i + 1 - h : Nat) : Int) := by omega
  have e2 : ((j : Int) + (h : Int)) = ((j + h : Nat) : Int) := by omega
  rw [e1, e2]
/-- the own answer: the goal is put on -/
theorem own_run (u : PyData) (th : List PyData) (hT : T.length ≤ 900) (hS : S.length ≤ 900) :
    ∃ ρ', XR 6 reG (g8 u th (goalD h (i : Int) (j : Int) th) (h8 h i j ps w (T.map todoD) (S.map intD) R A B)) = some (.next, ρ') ∧ Is8 ρ' i j ps (pushP h i j th (w, T, S)).1 ((pushP h i j th (w, T, S)).2.1.map todoD) ((pushP h i j th (w, T, S)).2.2.map intD) R (bothD A B) := by
  rw [re_g, goal_eq hh]
  have e0 := of_map_eq (re_g0 (i : Int) (j : Int) ps w (T.map todoD) (S.map intD) R A B u th ((i + 1 - h : Nat) : Int) ((j + h : Nat) : Int) (.list th)) h hh
  have ec : codeI ((i + 1 - h : Nat) : Int) ((j + h : Nat) : Int) = ((codeN (i + 1 - h) (j + h) : Nat) : Int) := by unfold codeI codeN; omega
  rw [ec, notin_ints, Option.bind_some] at e0
  replace e0 : _ = ifB (XR 5) (stAt reG 0) _ (.bool (!S.contains (codeN (i + 1 - h) (j + h)))) := e0
  unfold pushP
  cases c : S.contains (codeN (i + 1 - h) (j + h)) with
  | true =>
    rw [c] at e0
    replace e0 := e0.trans ifB_f
    rw [re_e3, XR_nil] at e0
    simp only [c, if_true]
    exact ⟨_, XR_one e0, is8_b _ _ _ _ _ _ _ _ _ _⟩
  | false =>
    rw [c] at e0
    replace e0 := e0.trans ifB_t
    have n0 := re_n0 (i : Int) (j : Int) ps w (T.map todoD) (S.map intD) R A B ((i + 1 - h : Nat) : Int) ((j + h : Nat) : Int) (.list th)
    rw [ec, append_ok (by rw [List.length_map]; omega), Option.bind_some] at n0
    have n1 := re_n1 (i : Int) (j : Int) ps w (T.map todoD) (S.map intD) R A B (.tuple [.int ((i + 1 - h : Nat) : Int), .int ((j + h : Nat) : Int), .list th]) (S.map intD ++ [.int ((codeN (i + 1 - h) (j + h) : Nat) : Int)])
    rw [append_ok (by rw [List.length_map]; omega), Option.bind_some] at n1
    have n2 := XR_two n0 n1
    rw [← re_n] at n2
    simp only [c, Bool.false_eq_true, if_false]
    rw [List.map_append, List.map_append]
    exact ⟨_, XR_one (e0.trans n2), is8_c _ _ _ _ _ _ _ _ _ _ _⟩
/-- the other's answer: the hand waits -/
theorem wait_run (g : PyData) {n : Nat} (hp : okN n ps = true) (hn : n ≤ 12) (hw : w.length ≤ 1000) (T S : List PyData) :
    ∃ ρ', XR 6 (elseOf (stAt reB 3)) (g8 (.str (vOt h)) ps g (h8 h i j ps w T S R A B)) = some (.next, ρ') ∧ Is8 ρ' i j ps (w ++ vOf h) T S R (bothD A B) := by
  rw [re_e]
  have e0 := re_same (i : Int) (j : Int) ps w T S R A B g (eq_self hp hn) hh
  have e1 := of_map_eq (re_w0 (i : Int) (j : Int) ps w T S R A B ps) h hh
  have : (vOf h).length ≤ 1 := (by decide +kernel : ∀ h ∈ List.range 2, (vOf h).length ≤ 1) h hh
  rw [if_pos (by unfold top; omega)] at e1
  rw [re_e1, XR_one e1] at e0
  exact ⟨_, XR_one e0, is8_d _ _ _ _ _ _ _ _ _ _ _⟩
end

/-- a turn -/
theorem hand_turn {i j : Nat} {ps : List PyData} {w : Str} {T : List Todo} {S : List Nat} {R : List PyData} {A B D : List Deed} {h : Nat} (hh : h ∈ List.range 2) {p : Nat} {Y : List Str}
    (hD : hnd h (A.map deedD) (B.map deedD) = D.map deedD) (hp : plc h (i : Int) (j : Int) = (p : Int)) (hp6 : p ≤ 20) (W : Wf D) (hY : ∀ y ∈ Y, y ∈ LL) (hY3 : Y.length ≤ 3) (g : GoodH h (Hd D p) Y ps) (fr : dj (Hd D p) Y = true)
    (hT : T.length ≤ 900) (hS : S.length ≤ 900) (hw : w.length ≤ 1000) {ρ : Rho} (hρ : nzR (stAt reF.2 0) ρ = nzR (stAt reF.2 0) (h8 h i j ps w (T.map todoD) (S.map intD) R (A.map deedD) (B.map deedD))) :
    ∃ ρ', XR 8 reF.2 ρ = some (.next, ρ') ∧ Is8 ρ' i j ps (handP h D p Y i j ps (w, T, S)).1 ((handP h D p Y i j ps (w, T, S)).2.1.map todoD) ((handP h D p Y i j ps (w, T, S)).2.2.map intD) R (bothD (A.map deedD) (B.map deedD)) := by
  have hX : ∀ x ∈ Hd D p, x ∈ LL := fun x hx => W.mem hx
  have ok6 := good_ok hh hX hY g W.le hY3
  have e0 := (exSt_congr hρ).trans (of_map_eq (re_f0 (i : Int) (j : Int) ps w (T.map todoD) (S.map intD) R (A.map deedD) (B.map deedD)) h hh)
  rw [hp] at e0
  have e1 := of_map_eq (re_f1 (i : Int) (j : Int) ps w (T.map todoD) (S.map intD) R (A.map deedD) (B.map deedD) (p : Int)) h hh
  have hl : lenD (.list (D.map deedD)) = some (.int (D.length : Int)) := by
    refine (if_pos (by rw [List.length_map]; have := W.len; unfold top; omega)).trans ?_
    rw [List.length_map]
  rw [hD, hl, Option.bind_some] at e1
  replace e1 : _ = ifB (XR 7) (stAt reF.2 1) _ (.bool (decide ((p : Int) < (D.length : Int)))) := e1
  have run : ∀ q, SR 7 (stAt reF.2 1) (p8 (p : Int) h i j ps w (T.map todoD) (S.map intD) R (A.map deedD) (B.map deedD)) = some (.next, q) → XR 8 reF.2 ρ = some (.next, q) := fun q hq => by
    show exLS _ _ _ _ _ _ reF.2 _ = _
    rw [re_f, exLS_next e0, exLS_next hq]
    rfl
  unfold handP
  cases hd : D[p]? with
  | none =>
    have : ¬ ((p : Int) < (D.length : Int)) := by
      have := List.getElem?_eq_none_iff.mp hd
      omega
    rw [decide_eq_false this] at e1
    replace e1 := e1.trans ifB_f
    rw [re_e0, XR_nil] at e1
    exact ⟨_, run _ e1, is8_a _ _ _ _ _ _ _ _ _ _ _⟩
  | some d =>
    obtain ⟨b, l⟩ := d
    have hpl : p < D.length := by
      obtain ⟨hpl, _⟩ := List.getElem?_eq_some_iff.mp hd
      exact hpl
    rw [decide_eq_true (by omega)] at e1
    replace e1 := e1.trans ifB_t
    obtain ⟨hl, hdeed⟩ := W.deed hd
    have b0 := of_map_eq (re_b0 (i : Int) (j : Int) ps w (T.map todoD) (S.map intD) R (A.map deedD) (B.map deedD) (p : Int)) h hh
    rw [hD, idx_at (by omega), List.getElem?_map, hd] at b0
    replace b0 := b0.trans (of_map_eq (re_b0s (i : Int) (j : Int) ps w (T.map todoD) (S.map intD) R (A.map deedD) (B.map deedD) (p : Int) b l) h hh)
    have b1 := of_map_eq (re_b1 (i : Int) (j : Int) ps w (T.map todoD) (S.map intD) R (A.map deedD) (B.map deedD) (p : Int) b l) h hh
    rw [step_fn hl hh (okN_mono ok6 (by omega)), Option.bind_some, of_map_eq (re_b1s (i : Int) (j : Int) ps w (T.map todoD) (S.map intD) R (A.map deedD) (B.map deedD) b l (stepP b l h ps).1 (stepP b l h ps).2) h hh] at b1
    have b2 := of_map_eq (re_b2 (i : Int) (j : Int) ps w (T.map todoD) (S.map intD) R (A.map deedD) (B.map deedD) b l (stepP b l h ps).1 (stepP b l h ps).2) h hh
    have b3 : ∀ u ∈ VL, _ := fun u hu => of_map_eq (of_map_eq (re_b3 (i : Int) (j : Int) ps w (T.map todoD) (S.map intD) R (A.map deedD) (B.map deedD) (stepP b l h ps).2 (goalD h i j (stepP b l h ps).2)) u hu) h hh
    have fin : ∀ q, SR 6 (stAt reB 3) (gt8 (goalD h i j (stepP b l h ps).2) (stepP b l h ps).1 (stepP b l h ps).2 (h8 h i j ps w (T.map todoD) (S.map intD) R (A.map deedD) (B.map deedD))) = some (.next, q) → XR 8 reF.2 ρ = some (.next, q) := fun q hq => by
      refine run q (e1.trans ?_)
      show exLS _ _ _ _ _ _ reB _ = _
      rw [re_b, exLS_next b0, exLS_next b1, exLS_next b2, exLS_next hq]
      rfl
    have vv := vOt_VL h hh
    -- the answer is the own one, and the goal is free
    have own : (stepP b l h ps).1 = .str (vOf h) → dj (Hd D (p + 1)) Y = true → ∃ ρ', XR 8 reF.2 ρ = some (.next, ρ') ∧ Is8 ρ' i j ps (pushP h i j (stepP b l h ps).2 (w, T, S)).1 ((pushP h i j (stepP b l h ps).2 (w, T, S)).2.1.map todoD) ((pushP h i j (stepP b l h ps).2 (w, T, S)).2.2.map intD) R (bothD (A.map deedD) (B.map deedD)) := fun hs hf => by
      have q := b3 (vOf h) vv.2.2
      rw [if_pos (by rw [beq_iff_eq]), ← hs] at q
      obtain ⟨ρ', r1, r2⟩ := own_run (i := i) (j := j) (ps := ps) (w := w) (T := T) (S := S) (R := R) (A := A.map deedD) (B := B.map deedD) hh (stepP b l h ps).1 (stepP b l h ps).2 hT hS
      exact ⟨ρ', fin _ (q.trans r1), r2⟩
    dsimp only
    cases b with
    | false =>
      obtain ⟨_, hdeed⟩ : l ∈ Hd D p ∧ Hd D (p + 1) = (Hd D p).filter fun o => !(o == l) := hdeed
      have hf : dj (Hd D (p + 1)) Y = true := by
        rw [hdeed, dj_iff]
        exact fun x hx => dj_iff.mp fr x (List.mem_filter.mp hx).1
      rw [if_pos hf]
      exact own rfl hf
    | true =>
      obtain ⟨hnx, hdeed⟩ : l ∉ Hd D p ∧ Hd D (p + 1) = Hd D p ++ [l] := hdeed
      by_cases hy : l ∈ Y
      · have hs := step_other hh hX hY hl g hnx hy
        have hf : ¬ dj (Hd D (p + 1)) Y = true := by
          rw [hdeed, dj_iff]
          exact fun z => z l (List.mem_append_right _ List.mem_cons_self) hy
        rw [if_neg hf]
        have q := b3 (vOt h) vv.1
        rw [if_neg (by rw [vv.2.1]; exact Bool.false_ne_true), hs] at q
        rw [hs] at fin
        obtain ⟨ρ', r1, r2⟩ := wait_run (i := i) (j := j) (w := w) (R := R) (A := A.map deedD) (B := B.map deedD) hh (goalD h i j ps) ok6 (by omega) hw (T.map todoD) (S.map intD)
        exact ⟨ρ', fin _ (q.trans r1), r2⟩
      · have hs := step_take hh hX hY hl g hnx hy
        have hf : dj (Hd D (p + 1)) Y = true := by
          rw [hdeed, dj_iff]
          intro x hx
          rcases List.mem_append.mp hx with m | m
          · exact dj_iff.mp fr x m
          · rw [List.mem_singleton.mp m]; exact hy
        rw [if_pos hf]
        exact own (by rw [hs.1]) hf
end Mine

namespace Mine
open PySem PySem.Calls PySem.Spec PyProof.Rows PySem.W PySem.SeqAt

/-! sorted, of rows with distinct keys -/
theorem srt_eq {key : PyData → Nat} {ds es : List PyData} (hl : ∀ a ∈ ds, ∀ b ∈ ds, key a ≠ key b → ltT a b = some (decide (key a < key b))) (nd : (ds.map key).Nodup)
    (hk : keysT true ds = true ∨ keysT false ds = true) (h64 : ds.length < 64) (hp : es.Perm ds) (hs : es.Pairwise fun a b => key a < key b) : srtT (.list ds) = some (.list es) := by
  have e : srtT (.list ds) = if ds.length < 2 then some (.list ds) else if ds.length < 64 then (if keysT true ds || keysT false ds then (sortBy ltT ds).map .list else none) else none := rfl
  rw [e]
  by_cases h2 : ds.length < 2
  · rw [if_pos h2]
    match ds, h2 with
    | [], _ => rw [List.perm_nil.mp hp]
    | [d], _ => rw [List.perm_singleton.mp hp]
    | _ :: _ :: _, h2 => simp at h2; omega
  · rw [if_neg h2, if_pos h64, if_pos (by rcases hk with h | h <;> rw [h] <;> simp)]
    obtain ⟨fs, h1, h3, h4⟩ := sortBy_spec (lt := ltT) (key := key) (by omega) hl nd
    rw [h1]
    have : fs = es := List.Perm.eq_of_pairwise (le := fun a b => key a < key b) (fun a b _ _ x y => by omega) h4 hs (h3.trans hp.symm)
    rw [this]; rfl
/-- the names' order -/
noncomputable def keyP : PyData → Nat
  | .tuple [.str n, .str v] => 2 * ((["X", "Y", "Z", "x", "y", "z"] : List Str).findIdx (· == n)) + (VL.findIdx (· == v))
  | _ => 0
theorem PL_lt : PL.all (fun a => PL.all fun b => (keyP a == keyP b) || (ltT a b == some (decide (keyP a < keyP b)))) = true := by decide +kernel
theorem PL_kT : PL.all (fun a => ((fstK a).bind tyK) == some false) = true := by decide +kernel
theorem canH_PL {h : Nat} (hh : h ∈ List.range 2) {X : List Str} (hX : ∀ x ∈ X, x ∈ LL) : ∀ d ∈ canH h X, d ∈ PL := fun d hd => by
  obtain ⟨x, hx, rfl⟩ := List.mem_map.mp hd
  exact inPL_PL (can_facts x (hX x hx) h hh).2.2.2.1
theorem can_key : ∀ x ∈ LL, ∀ y ∈ LL, ∀ h ∈ List.range 2, ∀ k ∈ List.range 2, keyP (pr (nmT x h) (vOf h)) = keyP (pr (nmT y k) (vOf k)) → x = y := by decide +kernel
theorem nd_map {α β : Type} {f : α → β} : ∀ {l : List α}, l.Nodup → (∀ a ∈ l, ∀ b ∈ l, f a = f b → a = b) → (l.map f).Nodup
  | [], _, _ => List.nodup_nil
  | a :: l, nd, inj => by
    rw [List.map_cons, List.nodup_cons]
    rw [List.nodup_cons] at nd
    refine ⟨fun m => ?_, nd_map nd.2 fun x hx y hy => inj x (List.mem_cons_of_mem _ hx) y (List.mem_cons_of_mem _ hy)⟩
    obtain ⟨b, hb, e⟩ := List.mem_map.mp m
    exact nd.1 ((inj b (List.mem_cons_of_mem _ hb) a List.mem_cons_self e) ▸ hb)
theorem can_nd {X Y : List Str} (hX : ∀ x ∈ X, x ∈ LL) (hY : ∀ x ∈ Y, x ∈ LL) (nX : X.Nodup) (nY : Y.Nodup) (d : dj X Y = true) : ((canH 0 X ++ canH 1 Y).map keyP).Nodup := by
  have h0 : (0 : Nat) ∈ List.range 2 := List.mem_range.mpr (by omega)
  have h1 : (1 : Nat) ∈ List.range 2 := List.mem_range.mpr (by omega)
  rw [List.map_append]
  refine List.nodup_append.mpr ⟨?_, ?_, ?_⟩
  · unfold canH
    rw [List.map_map]
    exact nd_map nX fun a ha b hb e => can_key a (hX a ha) b (hX b hb) 0 h0 0 h0 e
  · unfold canH
    rw [List.map_map]
    exact nd_map nY fun a ha b hb e => can_key a (hY a ha) b (hY b hb) 1 h1 1 h1 e
  · intro a ha b hb e
    obtain ⟨p, hp, rfl⟩ := List.mem_map.mp ha
    obtain ⟨q, hq, rfl⟩ := List.mem_map.mp hb
    obtain ⟨x, hx, rfl⟩ := List.mem_map.mp hp
    obtain ⟨y, hy, rfl⟩ := List.mem_map.mp hq
    have := can_key x (hX x hx) y (hY y hy) 0 h0 1 h1 e
    exact dj_iff.mp d x hx (this ▸ hy)
/-- sorted does not see the order -/
theorem srt_same {ps qs : List PyData} (hp : ps.Perm qs) (h : ∀ d ∈ ps, d ∈ PL) (nd : (ps.map keyP).Nodup) (h64 : ps.length < 64) : srtT (.list ps) = srtT (.list qs) := by
  have hl : ∀ rs : List PyData, (∀ d ∈ rs, d ∈ PL) → ∀ a ∈ rs, ∀ b ∈ rs, keyP a ≠ keyP b → ltT a b = some (decide (keyP a < keyP b)) := fun rs hr a ha b hb ne => by
    have := List.all_eq_true.mp (List.all_eq_true.mp PL_lt a (hr a ha)) b (hr b hb)
    rw [Bool.or_eq_true, beq_iff_eq, beq_iff_eq] at this
    exact this.resolve_left ne
  have kT : ∀ rs : List PyData, (∀ d ∈ rs, d ∈ PL) → keysT true rs = true ∨ keysT false rs = true := fun rs hr => .inr (List.all_eq_true.mpr fun d hd => List.all_eq_true.mp PL_kT d (hr d hd))
  by_cases z : 1 ≤ ps.length
  · obtain ⟨es, _, e2, e3⟩ := sortBy_spec (lt := ltT) (key := keyP) z (hl ps h) nd
    have h' : ∀ d ∈ qs, d ∈ PL := fun d hd => h d (hp.mem_iff.mpr hd)
    rw [srt_eq (hl ps h) nd (kT ps h) h64 e2 e3, srt_eq (hl qs h') ((hp.map keyP).nodup_iff.mp nd) (kT qs h') (by rw [← hp.length_eq]; exact h64) (e2.trans hp) e3]
  · have : ps = [] := List.eq_nil_of_length_eq_zero (by omega)
    subst this
    rw [List.nil_perm.mp hp]
theorem srt_list {ps : List PyData} (h : ∀ d ∈ ps, d ∈ PL) (nd : (ps.map keyP).Nodup) (h64 : ps.length < 64) : ∃ es, srtT (.list ps) = some (.list es) ∧ es.length = ps.length ∧ ∀ d ∈ es, d ∈ PL := by
  have hl : ∀ a ∈ ps, ∀ b ∈ ps, keyP a ≠ keyP b → ltT a b = some (decide (keyP a < keyP b)) := fun a ha b hb ne => by
    have := List.all_eq_true.mp (List.all_eq_true.mp PL_lt a (h a ha)) b (h b hb)
    rw [Bool.or_eq_true, beq_iff_eq, beq_iff_eq] at this
    exact this.resolve_left ne
  by_cases z : 1 ≤ ps.length
  · obtain ⟨es, _, e2, e3⟩ := sortBy_spec (lt := ltT) (key := keyP) z hl nd
    exact ⟨es, srt_eq hl nd (.inr (List.all_eq_true.mpr fun d hd => List.all_eq_true.mp PL_kT d (h d hd))) h64 e2 e3, e2.length_eq, fun d hd => h d (e2.mem_iff.mp hd)⟩
  · have : ps = [] := List.eq_nil_of_length_eq_zero (by omega)
    subst this
    exact ⟨[], rfl, rfl, fun _ m => nomatch m⟩
/-- a place's pairs, sorted -/
noncomputable def sortedN (A B : List Deed) (i j : Nat) : PyData := (srtT (.list (canH 0 (Hd A i) ++ canH 1 (Hd B j)))).getD .none
noncomputable def blk (h : Nat) (D : List Deed) (p : Nat) (Y : List Str) : Str := match D[p]? with
  | none => ""
  | some _ => if dj (Hd D (p + 1)) Y then "" else vOf h
noncomputable def waitsN (A B : List Deed) (i j : Nat) : Str := "" ++ blk 0 A i (Hd B j) ++ blk 1 B j (Hd A i)
noncomputable def rowN (A B : List Deed) (q : Nat × Nat) : PyData := .tuple [.int q.1, .int q.2, .str (waitsN A B q.1 q.2), sortedN A B q.1 q.2]
noncomputable def keyR : PyData → Nat
  | .tuple (.int i :: .int j :: _) => 10 * i.toNat + j.toNat
  | _ => 0
theorem row_lt {A B : List Deed} {a b : Nat × Nat} (ha : a.2 ≤ 9) (hb : b.2 ≤ 9) (ne : keyR (rowN A B a) ≠ keyR (rowN A B b)) : ltT (rowN A B a) (rowN A B b) = some (decide (keyR (rowN A B a) < keyR (rowN A B b))) := by
  have k : ∀ q : Nat × Nat, keyR (rowN A B q) = 10 * q.1 + q.2 := fun q => by
    show 10 * (q.1 : Int).toNat + (q.2 : Int).toNat = _
    omega
  rw [k, k] at ne ⊢
  have e0 : ltT (rowN A B a) (rowN A B b) = ltTup (decide (4 < 4)) [.int (a.1 : Int), .int (a.2 : Int), .str (waitsN A B a.1 a.2), sortedN A B a.1 a.2] [.int (b.1 : Int), .int (b.2 : Int), .str (waitsN A B b.1 b.2), sortedN A B b.1 b.2] := rfl
  rw [e0]
  have e1 : ((a.1 : Int) == (b.1 : Int)) = decide (a.1 = b.1) := by rw [Bool.eq_iff_iff, beq_iff_eq, decide_eq_true_eq]; omega
  have e2 : ((a.2 : Int) == (b.2 : Int)) = decide (a.2 = b.2) := by rw [Bool.eq_iff_iff, beq_iff_eq, decide_eq_true_eq]; omega
  unfold ltTup
  show (some ((a.1 : Int) == (b.1 : Int))).bind _ = _
  rw [e1, Option.bind_some]
  by_cases c : a.1 = b.1
  · rw [decide_eq_true c, if_pos rfl]
    unfold ltTup
    show (some ((a.2 : Int) == (b.2 : Int))).bind _ = _
    rw [e2, Option.bind_some, decide_eq_false (by omega), if_neg (by simp)]
    show some (decide ((a.2 : Int) < (b.2 : Int))) = _
    congr 1
    rw [Bool.eq_iff_iff, decide_eq_true_eq, decide_eq_true_eq]
    omega
  · rw [decide_eq_false c, if_neg (by simp)]
    show some (decide ((a.1 : Int) < (b.1 : Int))) = _
    congr 1
    rw [Bool.eq_iff_iff, decide_eq_true_eq, decide_eq_true_eq]
    omega
theorem keyR_row (A B : List Deed) (q : Nat × Nat) : keyR (rowN A B q) = codeN q.1 q.2 := by
  show 10 * (q.1 : Int).toNat + (q.2 : Int).toNat = _
  unfold codeN; omega
/-- sorted, of the places' rows -/
theorem srt_rows {A B : List Deed} {P Q : List (Nat × Nat)} (hP : ∀ q ∈ P, q.2 ≤ 9) (nd : P.Nodup) (h64 : P.length < 64) (hp : Q.Perm P) (hs : Q.Pairwise fun a b => codeN a.1 a.2 < codeN b.1 b.2) : srtT (.list (P.map (rowN A B))) = some (.list (Q.map (rowN A B))) := by
  refine srt_eq (key := keyR) ?_ ?_ (.inl ?_) (by rw [List.length_map]; exact h64) (hp.map _) ?_
  · intro a ha b hb ne
    obtain ⟨x, hx, rfl⟩ := List.mem_map.mp ha
    obtain ⟨y, hy, rfl⟩ := List.mem_map.mp hb
    exact row_lt (hP x hx) (hP y hy) ne
  · rw [List.map_map]
    refine nd_map nd fun a ha b hb e => ?_
    have e : codeN a.1 a.2 = codeN b.1 b.2 := by rw [← keyR_row A B, ← keyR_row A B]; exact e
    have h1 := hP a ha
    have h2 := hP b hb
    unfold codeN at e
    exact Prod.ext (by omega) (by omega)
  · unfold keysT
    rw [List.all_map]
    exact List.all_eq_true.mpr fun _ _ => rfl
  · rw [List.pairwise_map]
    exact hs.imp fun {a b} h => by rw [keyR_row, keyR_row]; exact h
end Mine

namespace Mine
open PySem PySem.Calls PySem.Spec PyProof.Rows PySem.W PySem.SeqAt

/-! the walk over the places -/
inductive Reach (A B : List Deed) : Nat → Nat → Prop
  | zero : Reach A B 0 0
  | p {i j : Nat} : Reach A B i j → i < A.length → dj (Hd A (i + 1)) (Hd B j) = true → Reach A B (i + 1) j
  | q {i j : Nat} : Reach A B i j → j < B.length → dj (Hd A i) (Hd B (j + 1)) = true → Reach A B i (j + 1)
structure Pl (A B : List Deed) (i j : Nat) : Prop where
  ia : i ≤ A.length
  jb : j ≤ B.length
  fr : dj (Hd A i) (Hd B j) = true
  re : Reach A B i j
noncomputable def plOf (q : Todo) : Nat × Nat := (q.1, q.2.1)
noncomputable def cdOf (x : Nat × Nat) : Nat := codeN x.1 x.2
structure Inv (A B : List Deed) (P : List (Nat × Nat)) (T : List Todo) (S : List Nat) : Prop where
  tin : ∀ q ∈ T, Pl A B q.1 q.2.1 ∧ GoodH 0 (Hd A q.1) (Hd B q.2.1) q.2.2
  pin : ∀ x ∈ P, Pl A B x.1 x.2
  nd : (P ++ T.map plOf).Nodup
  seen : S.Perm ((P ++ T.map plOf).map cdOf)
section
variable {A B : List Deed} (WA : Wf A) (WB : Wf B) {P : List (Nat × Nat)} {T : List Todo} {S : List Nat}
theorem Inv.all (I : Inv A B P T S) : ∀ x ∈ P ++ T.map plOf, Pl A B x.1 x.2 := fun x hx => by
  rcases List.mem_append.mp hx with m | m
  · exact I.pin x m
  · obtain ⟨q, hq, rfl⟩ := List.mem_map.mp m
    exact (I.tin q hq).1
include WA WB
theorem Inv.few (I : Inv A B P T S) : P.length + T.length ≤ 49 := by
  have h : (P ++ T.map plOf) ⊆ (List.range 7).flatMap fun a => (List.range 7).map fun b => (a, b) := fun x hx => by
    have := I.all x hx
    have h1 := this.ia
    have h2 := this.jb
    have h3 := WA.len
    have h4 := WB.len
    exact List.mem_flatMap.mpr ⟨x.1, List.mem_range.mpr (by omega), List.mem_map.mpr ⟨x.2, List.mem_range.mpr (by omega), rfl⟩⟩
  have := I.nd.length_le_of_subset h
  have e : ((List.range 7).flatMap fun a => (List.range 7).map fun b => (a, b)).length = 49 := by decide +kernel
  rw [e, List.length_append, List.length_map] at this
  exact this
theorem Inv.sLen (I : Inv A B P T S) : S.length ≤ 49 := by
  have := I.seen.length_eq
  rw [List.length_map, List.length_append, List.length_map] at this
  have := I.few WA WB
  omega
theorem inv_push (I : Inv A B P T S) {h i j : Nat} {th : List PyData} {w : Str} (g : Pl A B (i + 1 - h) (j + h)) (gt : GoodH 0 (Hd A (i + 1 - h)) (Hd B (j + h)) th) :
    Inv A B P (pushP h i j th (w, T, S)).2.1 (pushP h i j th (w, T, S)).2.2 ∧ (∀ x ∈ P ++ T.map plOf, x ∈ P ++ (pushP h i j th (w, T, S)).2.1.map plOf) ∧ (i + 1 - h, j + h) ∈ P ++ (pushP h i j th (w, T, S)).2.1.map plOf ∧ (pushP h i j th (w, T, S)).1 = w := by
  unfold pushP
  dsimp only
  have key : S.contains (codeN (i + 1 - h) (j + h)) = true ↔ (i + 1 - h, j + h) ∈ P ++ T.map plOf := by
    rw [List.contains_iff_mem, I.seen.mem_iff]
    constructor
    · intro m
      obtain ⟨x, hx, e⟩ := List.mem_map.mp m
      have a := I.all x hx
      have h1 := a.jb
      have h2 := g.jb
      have h3 := WB.len
      unfold cdOf codeN at e
      have : x = (i + 1 - h, j + h) := Prod.ext (by show x.1 = _; omega) (by show x.2 = _; omega)
      exact this ▸ hx
    · exact fun m => List.mem_map.mpr ⟨_, m, rfl⟩
  by_cases c : S.contains (codeN (i + 1 - h) (j + h)) = true
  · rw [if_pos c]
    exact ⟨I, fun _ hx => hx, key.mp c, rfl⟩
  · rw [if_neg c]
    have nm : (i + 1 - h, j + h) ∉ P ++ T.map plOf := fun m => c (key.mpr m)
    have e : P ++ (T ++ [(i + 1 - h, j + h, th)]).map plOf = (P ++ T.map plOf) ++ [(i + 1 - h, j + h)] := by rw [List.map_append, List.append_assoc]; rfl
    refine ⟨⟨fun q hq => ?_, I.pin, ?_, ?_⟩, fun x hx => ?_, ?_, rfl⟩
    · rcases List.mem_append.mp hq with m | m
      · exact I.tin q m
      · rw [List.mem_singleton.mp m]; exact ⟨g, gt⟩
    · rw [e]
      refine List.nodup_append.mpr ⟨I.nd, List.nodup_cons.mpr ⟨List.not_mem_nil, List.nodup_nil⟩, fun a ha b hb e => ?_⟩
      rw [List.mem_singleton.mp hb] at e
      exact nm (e ▸ ha)
    · rw [e, List.map_append]
      exact I.seen.append_right _
    · rw [e]; exact List.mem_append_left _ hx
    · rw [e]; exact List.mem_append_right _ List.mem_cons_self
end
theorem step_good {D : List Deed} (W : Wf D) {h : Nat} (hh : h ∈ List.range 2) {p : Nat} {Y : List Str} (hY : ∀ y ∈ Y, y ∈ LL) {ps : List PyData} (g : GoodH h (Hd D p) Y ps) (fr : dj (Hd D p) Y = true) {d : Deed} (hd : D[p]? = some d) (hf : dj (Hd D (p + 1)) Y = true) :
    GoodH h (Hd D (p + 1)) Y (stepP d.1 d.2 h ps).2 := by
  obtain ⟨b, l⟩ := d
  obtain ⟨hl, hdeed⟩ := W.deed hd
  cases b with
  | false =>
    obtain ⟨hx, hdeed⟩ : l ∈ Hd D p ∧ Hd D (p + 1) = (Hd D p).filter fun o => !(o == l) := hdeed
    rw [hdeed]
    exact (step_free hh (fun x hx => W.mem hx) hY hl g fun hy => dj_iff.mp fr l hx hy).2
  | true =>
    obtain ⟨hnx, hdeed⟩ : l ∉ Hd D p ∧ Hd D (p + 1) = Hd D p ++ [l] := hdeed
    rw [hdeed] at hf ⊢
    have hy : l ∉ Y := dj_iff.mp hf l (List.mem_append_right _ List.mem_cons_self)
    have st := step_take hh (fun x hx => W.mem hx) hY hl g hnx hy
    show GoodH h _ Y (stepP true l h ps).2
    rw [st.1]
    exact st.2

section
variable {A B : List Deed} (WA : Wf A) (WB : Wf B) {P : List (Nat × Nat)} {T : List Todo} {S : List Nat}
include WA WB
theorem inv_hand (I : Inv A B P T S) {D : List Deed} (W : Wf D) {h : Nat} (hh : h ∈ List.range 2) {p : Nat} {Y : List Str} (hY : ∀ y ∈ Y, y ∈ LL) {ps : List PyData} (g : GoodH h (Hd D p) Y ps) (fr : dj (Hd D p) Y = true) {i j : Nat} {w : Str}
    (hg : p < D.length → dj (Hd D (p + 1)) Y = true → Pl A B (i + 1 - h) (j + h)) (ht : ∀ th, GoodH h (Hd D (p + 1)) Y th → GoodH 0 (Hd A (i + 1 - h)) (Hd B (j + h)) th) :
    Inv A B P (handP h D p Y i j ps (w, T, S)).2.1 (handP h D p Y i j ps (w, T, S)).2.2 ∧ (∀ x ∈ P ++ T.map plOf, x ∈ P ++ (handP h D p Y i j ps (w, T, S)).2.1.map plOf) ∧
      (p < D.length → dj (Hd D (p + 1)) Y = true → (i + 1 - h, j + h) ∈ P ++ (handP h D p Y i j ps (w, T, S)).2.1.map plOf) ∧ (handP h D p Y i j ps (w, T, S)).1 = w ++ blk h D p Y := by
  unfold handP blk
  cases hd : D[p]? with
  | none => exact ⟨I, fun _ hx => hx, fun hp => absurd (List.getElem?_eq_none_iff.mp hd) (by omega), (app_empty w).symm⟩
  | some d =>
    have hpl : p < D.length := by
      obtain ⟨hpl, _⟩ := List.getElem?_eq_some_iff.mp hd
      exact hpl
    dsimp only
    by_cases hf : dj (Hd D (p + 1)) Y = true
    · rw [if_pos hf, if_pos hf]
      obtain ⟨a1, a2, a3, a4⟩ := inv_push WA WB I (w := w) (hg hpl hf) (ht _ (step_good W hh hY g fr hd hf))
      exact ⟨a1, a2, fun _ _ => a3, a4.trans (app_empty w).symm⟩
    · rw [if_neg hf, if_neg hf]
      exact ⟨I, fun _ hx => hx, fun _ hf' => absurd hf' hf, rfl⟩

/-- both hands' turns -/
noncomputable def bothP (A B : List Deed) (i j : Nat) (ps : List PyData) (T : List Todo) (S : List Nat) : Q3 := handP 1 B j (Hd A i) i j ps (handP 0 A i (Hd B j) i j ps ("", T, S))
theorem inv_both {i j : Nat} {ps : List PyData} (I : Inv A B P (T ++ [(i, j, ps)]) S) :
    Inv A B (P ++ [(i, j)]) (bothP A B i j ps T S).2.1 (bothP A B i j ps T S).2.2 ∧ (∀ x ∈ P ++ (T ++ [(i, j, ps)]).map plOf, x ∈ (P ++ [(i, j)]) ++ (bothP A B i j ps T S).2.1.map plOf) ∧
      (i < A.length → dj (Hd A (i + 1)) (Hd B j) = true → (i + 1, j) ∈ (P ++ [(i, j)]) ++ (bothP A B i j ps T S).2.1.map plOf) ∧
      (j < B.length → dj (Hd A i) (Hd B (j + 1)) = true → (i, j + 1) ∈ (P ++ [(i, j)]) ++ (bothP A B i j ps T S).2.1.map plOf) ∧ (bothP A B i j ps T S).1 = waitsN A B i j ∧
      Inv A B (P ++ [(i, j)]) (handP 0 A i (Hd B j) i j ps ("", T, S)).2.1 (handP 0 A i (Hd B j) i j ps ("", T, S)).2.2 := by
  obtain ⟨pl, gd⟩ := I.tin (i, j, ps) (List.mem_append_right _ List.mem_cons_self)
  have pe : ((P ++ [(i, j)]) ++ T.map plOf).Perm (P ++ (T ++ [(i, j, ps)]).map plOf) := by
    rw [List.map_append, List.append_assoc]
    exact List.Perm.append_left _ List.perm_append_comm
  have I0 : Inv A B (P ++ [(i, j)]) T S := ⟨fun q hq => I.tin q (List.mem_append_left _ hq), fun x hx => by
    rcases List.mem_append.mp hx with m | m
    · exact I.pin x m
    · rw [List.mem_singleton.mp m]; exact pl, pe.nodup_iff.mpr I.nd, I.seen.trans (pe.map _).symm⟩
  have h0 : (0 : Nat) ∈ List.range 2 := List.mem_range.mpr (by omega)
  have h1 : (1 : Nat) ∈ List.range 2 := List.mem_range.mpr (by omega)
  have fr' : dj (Hd B j) (Hd A i) = true := by rw [dj_comm]; exact pl.fr
  obtain ⟨a1, a2, a3, a4⟩ := inv_hand WA WB I0 WA h0 (p := i) (Y := Hd B j) (fun y hy => WB.mem hy) gd pl.fr (i := i) (j := j) (w := "") (fun hp hf => ⟨by omega, pl.jb, hf, .p pl.re hp hf⟩) (fun th z => z)
  obtain ⟨b1, b2, b3, b4⟩ := inv_hand WA WB a1 WB h1 (p := j) (Y := Hd A i) (ps := ps) (fun y hy => WA.mem hy) (goodH_swap h0 gd) fr' (i := i) (j := j) (w := (handP 0 A i (Hd B j) i j ps ("", T, S)).1)
    (fun hp hf => by
      have hf' : dj (Hd A i) (Hd B (j + 1)) = true := by rw [dj_comm]; exact hf
      exact ⟨by have := pl.ia; omega, by omega, hf', .q pl.re hp hf'⟩) (fun th z => goodH_swap h1 z)
  refine ⟨b1, fun x hx => b2 x (a2 x (pe.mem_iff.mpr hx)), fun hp hf => b2 _ (a3 hp hf), fun hp hf => b3 hp (by rw [dj_comm]; exact hf), ?_, a1⟩
  show (handP 1 B j (Hd A i) i j ps _).1 = _
  rw [show handP 0 A i (Hd B j) i j ps ("", T, S) = ((handP 0 A i (Hd B j) i j ps ("", T, S)).1, (handP 0 A i (Hd B j) i j ps ("", T, S)).2.1, (handP 0 A i (Hd B j) i j ps ("", T, S)).2.2) from rfl, b4, a4]
  rfl
end

/-! the run of _law_reached -/
structure Is4 (ρ : Rho) (T S R : List PyData) (b : PyData) : Prop where
  pop : SR 8 (stAt reW 0) ρ = popB (st4 T S R b) T
  test : testRe ρ = ((cmpD .NotEq (.list T) (.list [])).bind fun d => (truthD d).map .bool).bind truthD
  ret : ∃ ρ', SR 9 (stAt fRe.body 4) ρ = (srtT (.list R)).bind fun d => some (.ret d, ρ')
theorem is4_w (i j : Int) (ps : List PyData) (w : Str) (T S R0 R : List PyData) (b : PyData) : Is4 (wρ i j ps w T S R0 R b) T S R b := ⟨re_pop i j ps w T S R R0 b, re_test i j ps w T S R R0 b, _, re_ret i j ps w T S R R0 b⟩
theorem re_ret0 (T S R : List PyData) (b : PyData) : SR 9 (stAt fRe.body 4) (w0ρ T S R b) = (srtT (.list R)).bind fun d => some (.ret d, freeze (nzR (stAt fRe.body 4) (w0ρ T S R b))) := by kernel_rfl
theorem is4_0 (T S R : List PyData) (b : PyData) : Is4 (w0ρ T S R b) T S R b := ⟨re_pop0 T S R b, re_test0 T S R b, _, re_ret0 T S R b⟩
section
variable {A B : List Deed} (WA : Wf A) (WB : Wf B) {P : List (Nat × Nat)} {T : List Todo} {S : List Nat}
include WA WB
theorem todo_small (I : Inv A B P T S) : cmpD .NotEq (.list (T.map todoD)) (.list []) = some (.bool (!T.isEmpty)) := by
  have h : ∀ d ∈ T.map todoD, d.canLay0 = true ∧ d.depth ≤ 10 := fun d hd => by
    obtain ⟨q, hq, rfl⟩ := List.mem_map.mp hd
    obtain ⟨_, g⟩ := I.tin q hq
    have ok := good_ok (h := 0) (List.mem_range.mpr (by omega)) (fun x hx => WA.mem hx) (fun x hx => WB.mem hx) g WA.le WB.le
    have sm := (small_ok ok (by omega)).1
    have hp := okPs_PL (okN_ok ok (by omega))
    refine ⟨?_, ?_⟩
    · unfold todoD PyData.canLay0 PyData.canLayAll0 PyData.canLayAll0 PyData.canLayAll0 PyData.canLayAll0
      rw [(Bool.and_eq_true_iff.mp sm).1]
      rfl
    · have : PyData.depthAll q.2.2 ≤ 4 := depthAll_le fun d hd => (PL_small (hp d hd)).2.2
      unfold todoD
      simp only [PyData.depth, PyData.depthAll]
      omega
  have s1 := smallD_list (fun d hd => (h d hd).1) (fun d hd => (h d hd).2) (by omega)
  rw [cmpNe s1 (by rfl)]
  cases T <;> rfl
theorem reW_run {i j : Nat} {ps : List PyData} (I : Inv A B P (T ++ [(i, j, ps)]) S) {R : List PyData} (hR : R.length ≤ 900) {ρ : Rho} (hρ : Is4 ρ ((T ++ [(i, j, ps)]).map todoD) (S.map intD) R (bothD (A.map deedD) (B.map deedD))) :
    XR 9 reW ρ = some (.next, wρ i j ps (waitsN A B i j) ((bothP A B i j ps T S).2.1.map todoD) ((bothP A B i j ps T S).2.2.map intD) R (R ++ [rowN A B (i, j)]) (bothD (A.map deedD) (B.map deedD))) := by
  obtain ⟨pl, gd⟩ := I.tin (i, j, ps) (List.mem_append_right _ List.mem_cons_self)
  obtain ⟨I', _, _, _, ew, I1⟩ := inv_both WA WB I
  have few := I.few WA WB
  have sl := I.sLen WA WB
  have h0 : (0 : Nat) ∈ List.range 2 := List.mem_range.mpr (by omega)
  have h1 : (1 : Nat) ∈ List.range 2 := List.mem_range.mpr (by omega)
  have hla := WA.len
  have hlb := WB.len
  have hia := pl.ia
  have hjb : j ≤ B.length := pl.jb
  replace gd : GoodH 0 (Hd A i) (Hd B j) ps := gd
  rw [List.length_append, List.length_singleton] at few
  have e0 := hρ.pop
  unfold popB at e0
  rw [if_pos (by rw [List.length_map, List.length_append, List.length_singleton]; unfold top; omega), List.map_append, List.map_singleton, List.getLast?_concat, Option.bind_some, List.dropLast_concat] at e0
  replace e0 := e0.trans (re_popB (i : Int) (j : Int) ps _ (S.map intD) R (T.map todoD) (bothD (A.map deedD) (B.map deedD)))
  have e1 := re_waits (i : Int) (j : Int) ps (T.map todoD) (S.map intD) R (bothD (A.map deedD) (B.map deedD))
  have e2 := re_for (i : Int) (j : Int) ps "" (T.map todoD) (S.map intD) R (bothD (A.map deedD) (B.map deedD))
  have fr' : dj (Hd B j) (Hd A i) = true := by rw [dj_comm]; exact pl.fr
  obtain ⟨ρ1, t1, q1⟩ := hand_turn (i := i) (j := j) (ps := ps) (w := "") (T := T) (S := S) (R := R) (A := A) (B := B) (D := A) h0 (p := i) (Y := Hd B j) rfl rfl (by omega) WA (fun y hy => WB.mem hy) WB.le gd pl.fr (by omega) (by omega) (by decide +kernel)
    (ρ := (st8 i j ps "" (T.map todoD) (S.map intD) R (bothD (A.map deedD) (B.map deedD))).set "hand" (.val (.int (0 : Nat)))) (by rw [set_hand])
  have few1 := I1.few WA WB
  have sl1 := I1.sLen WA WB
  rw [List.length_append, List.length_singleton] at few1
  have hw1 : (handP 0 A i (Hd B j) i j ps ("", T, S)).1.length ≤ 1000 := by
    have I0 := inv_both WA WB I
    have : (handP 0 A i (Hd B j) i j ps ("", T, S)).1 = "" ++ blk 0 A i (Hd B j) := by
      unfold handP blk
      cases A[i]? with
      | none => rfl
      | some d =>
        dsimp only
        split
        · unfold pushP
          split <;> rfl
        · rfl
    rw [this]
    unfold blk
    split
    · decide +kernel
    · split <;> decide +kernel
  obtain ⟨ρ2, t2, q2⟩ := hand_turn (i := i) (j := j) (ps := ps) (w := (handP 0 A i (Hd B j) i j ps ("", T, S)).1) (T := (handP 0 A i (Hd B j) i j ps ("", T, S)).2.1) (S := (handP 0 A i (Hd B j) i j ps ("", T, S)).2.2) (R := R) (A := A) (B := B) (D := B) h1 (p := j) (Y := Hd A i) rfl rfl (by omega) WB (fun y hy => WA.mem hy) WA.le (goodH_swap h0 gd) fr' (by omega) (by omega) hw1
    (ρ := ρ1.set "hand" (.val (.int (1 : Nat)))) (by rw [q1.2, set_hand])
  rw [forL_next (re_bind _) (re_own _) t1, forL_next (re_bind _) (re_own _) t2] at e2
  have hX : ∀ x ∈ Hd A i, x ∈ LL := fun x hx => WA.mem hx
  have hY : ∀ x ∈ Hd B j, x ∈ LL := fun x hx => WB.mem hx
  have ok := good_ok h0 hX hY gd WA.le WB.le
  have hps := okPs_PL (okN_ok ok (by omega))
  have nd := can_nd hX hY WA.nd WB.nd pl.fr
  have gd' : ps.Perm (canH 0 (Hd A i) ++ canH 1 (Hd B j)) := gd
  have nd' : (ps.map keyP).Nodup := (gd'.map keyP).nodup_iff.mpr nd
  have es := srt_same gd' hps nd' (by have := okN_len ok; omega)
  obtain ⟨zs, z1, _, _⟩ := srt_list hps nd' (by have := okN_len ok; omega)
  have hs : sortedN A B i j = .list zs := by unfold sortedN; rw [← es, z1]; rfl
  have e3 := (exSt_congr q2.1).trans (re_row (i : Int) (j : Int) ps (bothP A B i j ps T S).1 ((bothP A B i j ps T S).2.1.map todoD) ((bothP A B i j ps T S).2.2.map intD) R (bothD (A.map deedD) (B.map deedD)))
  rw [z1, Option.bind_some, Option.bind_some, Option.bind_some, Option.bind_some, Option.bind_some, if_pos (by show 4 ≤ top; unfold top; omega), Option.bind_some, append_ok (by omega), Option.bind_some, ew, ← hs] at e3
  show exLS _ _ _ _ _ _ reW _ = _
  rw [re_w, exLS_next e0, exLS_next e1, exLS_next e2, exLS_next e3]
  rfl
/-- from a place that is seen, all that can be reached is seen -/
noncomputable def Closed (A B : List Deed) (P L : List (Nat × Nat)) : Prop := (0, 0) ∈ L ∧ ∀ x ∈ P, (x.1 < A.length → dj (Hd A (x.1 + 1)) (Hd B x.2) = true → (x.1 + 1, x.2) ∈ L) ∧ (x.2 < B.length → dj (Hd A x.1) (Hd B (x.2 + 1)) = true → (x.1, x.2 + 1) ∈ L)
theorem reL_run : ∀ (n : Nat) {P : List (Nat × Nat)} {T : List Todo} {S : List Nat} {ρ : Rho}, Inv A B P T S → Closed A B P (P ++ T.map plOf) → 50 - P.length ≤ n → Is4 ρ (T.map todoD) (S.map intD) (P.map (rowN A B)) (bothD (A.map deedD) (B.map deedD)) →
    ∃ P' ρ' S', whL testRe (XR 9 reW) n ρ = some (.next, ρ') ∧ Inv A B P' [] S' ∧ Closed A B P' P' ∧ Is4 ρ' [] (S'.map intD) (P'.map (rowN A B)) (bothD (A.map deedD) (B.map deedD))
  | 0, P, T, S, ρ, I, _, hn, _ => by have := I.few WA WB; omega
  | n + 1, P, T, S, ρ, I, C, hn, hρ => by
    have ht := hρ.test
    rw [todo_small WA WB I] at ht
    rcases List.eq_nil_or_concat T with rfl | ⟨T0, x, rfl⟩
    · refine ⟨P, ρ, S, ?_, I, ?_, hρ⟩
      · unfold whL
        rw [ht]; rfl
      · rw [List.map_nil, List.append_nil] at C
        exact C
    · obtain ⟨i, j, ps⟩ := x
      rw [List.concat_eq_append] at *
      have few := I.few WA WB
      rw [List.length_append, List.length_singleton] at few
      have r := reW_run WA WB I (R := P.map (rowN A B)) (by rw [List.length_map]; omega) hρ
      obtain ⟨a1, a2, a3, a4, _, _⟩ := inv_both WA WB I
      have e : (!(T0 ++ [(i, j, ps)]).isEmpty) = true := by simp
      rw [e] at ht
      have hw : whL testRe (XR 9 reW) (n + 1) ρ = whL testRe (XR 9 reW) n (wρ i j ps (waitsN A B i j) ((bothP A B i j ps T0 S).2.1.map todoD) ((bothP A B i j ps T0 S).2.2.map intD) (P.map (rowN A B)) (P.map (rowN A B) ++ [rowN A B (i, j)]) (bothD (A.map deedD) (B.map deedD))) := by
        conv => lhs; unfold whL
        rw [ht]
        show (XR 9 reW ρ).bind _ = _
        rw [r]; rfl
      rw [hw]
      refine reL_run n a1 ⟨a2 _ C.1, fun x hx => ?_⟩ (by rw [List.length_append, List.length_singleton]; omega) ?_
      · rcases List.mem_append.mp hx with m | m
        · exact ⟨fun h1 h2 => a2 _ ((C.2 x m).1 h1 h2), fun h1 h2 => a2 _ ((C.2 x m).2 h1 h2)⟩
        · rw [List.mem_singleton.mp m]
          exact ⟨a3, a4⟩
      · rw [List.map_append, List.map_singleton]
        exact is4_w _ _ _ _ _ _ _ _ _
omit WA WB in
theorem Closed.reach {L : List (Nat × Nat)} (C : Closed A B L L) {i j : Nat} (r : Reach A B i j) : (i, j) ∈ L := by
  induction r with
  | zero => exact C.1
  | p _ h1 h2 ih => exact (C.2 _ ih).1 h1 h2
  | q _ h1 h2 ih => exact (C.2 _ ih).2 h1 h2
/-- what _law_reached gives: the rows of the places that can be reached, in order -/
theorem re_run {Q : List (Nat × Nat)} (hQ : ∀ x, x ∈ Q ↔ Pl A B x.1 x.2) (hs : Q.Pairwise fun a b => codeN a.1 a.2 < codeN b.1 b.2) :
    runB (XR 10 fRe.body) ["both"] [bothD (A.map deedD) (B.map deedD)] = some (.list (Q.map (rowN A B))) := by
  have d0 : dj (Hd A 0) (Hd B 0) = true := by rw [WA.zero]; rfl
  have g0 : GoodH 0 (Hd A 0) (Hd B 0) [] := by rw [WA.zero, WB.zero]; exact List.Perm.nil
  have I0 : Inv A B [] [(0, 0, [])] [0] := ⟨fun q hq => by rw [List.mem_singleton.mp hq]; exact ⟨⟨Nat.zero_le _, Nat.zero_le _, d0, .zero⟩, g0⟩, (fun _ m => nomatch m), List.nodup_cons.mpr ⟨List.not_mem_nil, List.nodup_nil⟩, List.Perm.refl _⟩
  have C0 : Closed A B [] ([] ++ [((0, 0, []) : Todo)].map plOf) := ⟨List.mem_cons_self, fun _ m => nomatch m⟩
  obtain ⟨P, ρ', S', r, I, C, F⟩ := reL_run WA WB 200 I0 C0 (by show 50 - 0 ≤ 200; omega) (is4_0 _ _ _ _)
  have nd : P.Nodup := by have := I.nd; rw [List.map_nil, List.append_nil] at this; exact this
  have hP : ∀ x, x ∈ P ↔ Pl A B x.1 x.2 := fun x => ⟨I.pin x, fun p => C.reach p.re⟩
  have ndQ : Q.Nodup := hs.imp fun {a b} h e => by rw [e] at h; exact Nat.lt_irrefl _ h
  have hp : Q.Perm P := (List.perm_ext_iff_of_nodup ndQ nd).mpr fun x => (hQ x).trans (hP x).symm
  have few := I.few WA WB
  obtain ⟨ρ2, hr⟩ := F.ret
  rw [srt_rows (fun q hq => by have := (I.pin q hq).jb; have := WB.len; omega) nd (by omega) hp hs, Option.bind_some] at hr
  refine (if_pos rfl).trans ?_
  have e : XR 10 fRe.body (rho0 ["both"] [bothD (A.map deedD) (B.map deedD)]) = some (.ret (.list (Q.map (rowN A B))), ρ2) := by
    have r' : whL testRe (XR 9 reW) 200 (w0ρ [.tuple [.int 0, .int 0, .list []]] [.int 0] [] (bothD (A.map deedD) (B.map deedD))) = some (.next, ρ') := r
    show exLS _ _ _ _ _ _ fRe.body _ = _
    rw [re_body, exLS_next (re_s0 _), exLS_next (re_s1 _), exLS_next (re_s2 _), exLS_next ((re_s3 _).trans r'), exLS_ret hr]
  rw [e]
end
end Mine

namespace Mine
open PySem PySem.Calls PySem.Spec PyProof.Rows PySem.W PySem.SeqAt

/-! _law_plane: each statement on data that are not written out -/
noncomputable abbrev fPn := topFn pw "_law_plane"
noncomputable abbrev MUp : List Str := ["seen", "rows"]
noncomputable abbrev pnI := forOf (stAt fPn.body 4)
noncomputable abbrev pnJ := forOf (stAt pnI.2 0)
noncomputable abbrev pnT := thenOf (stAt pnJ.2 0)
noncomputable abbrev V5 : List Str := ["mine", "yours", "free", "seen", "rows"]
noncomputable abbrev V7 : List Str := "i" :: "j" :: V5
noncomputable def nzP : Stmt → Rho → Rho := nzS [
  (nzS.lineOf (stAt pnI.2 0), "i" :: V5), (nzS.lineOf (stAt pnJ.2 0), V7), (nzS.lineOf (stAt pnT 0), V7), (nzS.lineOf (stAt pnT 1), V7),
  (nzS.lineOf (stAt pnT 2), "waits" :: V7), (nzS.lineOf (stAt pnT 3), "waits" :: V7), (nzS.lineOf (stAt pnT 4), "pairs" :: "waits" :: V7), (nzS.lineOf (stAt fPn.body 5), V5)]
noncomputable abbrev XP (n : Nat) := exsS (R4 40) MUp fPn.scope HS nzP n
noncomputable abbrev SP (n : Nat) (st : Stmt) (ρ : Rho) := exSt (R4 40) MUp fPn.scope HS nzP (XP n) st ρ
theorem pn_body : fPn.body = [stAt fPn.body 0, stAt fPn.body 1, stAt fPn.body 2, stAt fPn.body 3, stAt fPn.body 4, stAt fPn.body 5] := by kernel_rfl
theorem pn_i : pnI.2 = [stAt pnI.2 0] := by kernel_rfl
theorem pn_j : pnJ.2 = [stAt pnJ.2 0] := by kernel_rfl
theorem pn_t : pnT = [stAt pnT 0, stAt pnT 1, stAt pnT 2, stAt pnT 3, stAt pnT 4] := by kernel_rfl
theorem pn_e : elseOf (stAt pnJ.2 0) = [] := by kernel_rfl
noncomputable def listOf : PyData → Option (List PyData)
  | .list ds => some ds
  | _ => none

/-! the lists of what is held, and what is free -/
noncomputable abbrev mLC := lcOf (rhsOf (stAt fPn.body 0))
theorem m_lc : mLC.2.1 = [gAt mLC.2.1] := by kernel_rfl
theorem m_item (d : PyData) : evG1 (R4 39) mLC.2.2 (relabelS mLC.2.2 fPn.scope) mLC.1 (gAt mLC.2.1) [] d = (FN4 "_law_holds" [d]).map some := by kernel_rfl
theorem pn_s0 (ds : List PyData) : SP 9 (stAt fPn.body 0) (rho0 ["both"] [.list ds]) = ((evG (R4 39) mLC.2.2 (relabelS mLC.2.2 fPn.scope) mLC.1 mLC.2.1 [] (some ds)).bind mkList).bind (setB fPn.scope (rho0 ["both"] [.list ds]) (stAt fPn.body 0)) := by kernel_rfl
noncomputable def c2 (M N b : PyData) : Rho := ("yours", .val N) :: ("mine", .val M) :: [("both", .val b)]
theorem pn_s0s (M N b : PyData) : setB fPn.scope (rho0 ["both"] [b]) (stAt fPn.body 0) (.list [M, N]) = some (.next, c2 M N b) := by kernel_rfl
noncomputable abbrev aLC := lcOf (rhsOf (stAt fPn.body 1))
noncomputable abbrev bLC := lcOf aLC.1
theorem a_lc : aLC.2.1 = [gAt aLC.2.1] := by kernel_rfl
theorem b_lc : bLC.2.1 = [gAt bLC.2.1] := by kernel_rfl
theorem pn_s1 (M N : List PyData) (b : PyData) : SP 9 (stAt fPn.body 1) (c2 (.list M) (.list N) b) = ((evG (R4 39) aLC.2.2 (relabelS aLC.2.2 fPn.scope) aLC.1 aLC.2.1 [("yours", .val (.list N))] (some M)).bind mkList).bind fun d => some (.next, (c2 (.list M) (.list N) b).set "free" (.val d)) := by kernel_rfl
theorem a_item (N : List PyData) (a : PyData) : evG1 (R4 39) aLC.2.2 (relabelS aLC.2.2 fPn.scope) aLC.1 (gAt aLC.2.1) [("yours", .val (.list N))] a = ((evG (R4 38) bLC.2.2 (relabelS bLC.2.2 (relabelS aLC.2.2 fPn.scope)) bLC.1 bLC.2.1 [("a", .val a)] (some N)).bind mkList).map some := by kernel_rfl
noncomputable def hD (X : List Str) : PyData := .list (X.map .str)
theorem b_item : HL.map (fun X => HL.map fun Y => evG1 (R4 38) bLC.2.2 (relabelS bLC.2.2 (relabelS aLC.2.2 fPn.scope)) bLC.1 (gAt bLC.2.1) [("a", .val (hD X))] (hD Y)) = HL.map fun X => HL.map fun Y => some (some (.bool (dj X Y))) := by kernel_rfl

/-! the loops -/
noncomputable def c5 (M N F S R : List PyData) : Rho := [("mine", .val (.list M)), ("yours", .val (.list N)), ("free", .val (.list F)), ("seen", .own S), ("rows", .own R)]
noncomputable def c7 (i j : Int) (M N F S R : List PyData) : Rho := ("i", .val (.int i)) :: ("j", .val (.int j)) :: c5 M N F S R
section
variable (i j : Int) (M N F S R : List PyData) (w : Str) (b : PyData)
theorem pn_s2 : SP 9 (stAt fPn.body 2) ((c2 (.list M) (.list N) b).set "free" (.val (.list F))) = some (.next, ((c2 (.list M) (.list N) b).set "free" (.val (.list F))).set "seen" (.own [])) := by kernel_rfl
theorem pn_s3 : SP 9 (stAt fPn.body 3) (((c2 (.list M) (.list N) b).set "free" (.val (.list F))).set "seen" (.own [])) = some (.next, (((c2 (.list M) (.list N) b).set "free" (.val (.list F))).set "seen" (.own [])).set "rows" (.own [])) := by kernel_rfl
noncomputable def rangeD : PyData → Option (List PyData)
  | .int k => if decide (0 ≤ k) && decide (k ≤ top) then some ((List.range k.toNat).map fun (i : Nat) => PyData.int (i : Int)) else none
  | _ => none
theorem pn_s4 : SP 9 (stAt fPn.body 4) ((((c2 (.list M) (.list N) b).set "free" (.val (.list F))).set "seen" (.own [])).set "rows" (.own [])) = ((lenD (.list M)).bind rangeD).bind fun items => forL fPn.scope (XP 9 pnI.2) pnI.1 items ((((c2 (.list M) (.list N) b).set "free" (.val (.list F))).set "seen" (.own [])).set "rows" (.own [])) := by kernel_rfl
noncomputable def ci (i : Int) (M N F S R : List PyData) : Rho := ("i", .val (.int i)) :: c5 M N F S R
theorem pn_for : SP 8 (stAt pnI.2 0) ((c5 M N F S R).set "i" (.val (.int i))) = ((lenD (.list N)).bind rangeD).bind fun items => forL fPn.scope (XP 8 pnJ.2) pnJ.1 items (ci i M N F S R) := by kernel_rfl
theorem pn_bindI (d : PyData) : bindD pnI.1 d = some [(("i" : Str), d)] := by kernel_rfl
theorem pn_bindJ (d : PyData) : bindD pnJ.1 d = some [(("j" : Str), d)] := by kernel_rfl
theorem pn_ownI (d : PyData) : ([(("i" : Str), d)].all fun p => own1 fPn.scope p.1) = true := by kernel_rfl
theorem pn_ownJ (d : PyData) : ([(("j" : Str), d)].all fun p => own1 fPn.scope p.1) = true := by kernel_rfl

/-! the test -/
theorem pn_if : SP 7 (stAt pnJ.2 0) (c7 i j M N F S R) = (R4 40 .truth fPn.scope (c7 i j M N F S R) (rhsOf (stAt pnJ.2 0))).bind (ifB (XP 7) (stAt pnJ.2 0) (c7 i j M N F S R)) := by kernel_rfl
noncomputable abbrev tE (n : Nat) : Expr := (boolEs (rhsOf (stAt pnJ.2 0))).getD n (.Constant .none 0 ⟨0, 0, 0, 0⟩)
noncomputable abbrev oE (n : Nat) : Expr := (boolEs (tE 1)).getD n (.Constant .none 0 ⟨0, 0, 0, 0⟩)
noncomputable abbrev qE (n : Nat) : Expr := (boolEs (oE 2)).getD n (.Constant .none 0 ⟨0, 0, 0, 0⟩)
theorem t_es : boolEs (rhsOf (stAt pnJ.2 0)) = [tE 0, tE 1] := by kernel_rfl
theorem o_es : boolEs (tE 1) = [oE 0, oE 1, oE 2] := by kernel_rfl
theorem q_es : boolEs (oE 2) = [qE 0, qE 1] := by kernel_rfl
theorem t_and : R4 40 .truth fPn.scope (c7 i j M N F S R) (rhsOf (stAt pnJ.2 0)) = (evB (R4 39) .And fPn.scope (c7 i j M N F S R) (boolEs (rhsOf (stAt pnJ.2 0)))).map .bool := by kernel_rfl
theorem t_0 : R4 39 .truth fPn.scope (c7 i j M N F S R) (tE 0) = (((idxD (.list F) (.int i)).bind fun d => idxD d (.int j)).bind fun d => (truthD d).map .bool) := by kernel_rfl
theorem t_or : R4 39 .truth fPn.scope (c7 i j M N F S R) (tE 1) = (evB (R4 38) .Or fPn.scope (c7 i j M N F S R) (boolEs (tE 1))).map .bool := by kernel_rfl
theorem o_0 : R4 38 .truth fPn.scope (c7 i j M N F S R) (oE 0) = some (.bool (i + j == 0)) := by kernel_rfl
theorem o_1 : R4 38 .truth fPn.scope (c7 i j M N F S R) (oE 1) = (cmpD .In (.int (10 * i + j - 10)) (.list S)).bind fun d => (truthD d).map .bool := by kernel_rfl
theorem o_and : R4 38 .truth fPn.scope (c7 i j M N F S R) (oE 2) = (evB (R4 37) .And fPn.scope (c7 i j M N F S R) (boolEs (oE 2))).map .bool := by kernel_rfl
theorem q_0 : R4 37 .truth fPn.scope (c7 i j M N F S R) (qE 0) = some (.bool (decide (0 < j))) := by kernel_rfl
theorem q_1 : R4 37 .truth fPn.scope (c7 i j M N F S R) (qE 1) = (cmpD .In (.int (10 * i + j - 1)) (.list S)).bind fun d => (truthD d).map .bool := by kernel_rfl

/-! a place that is reached -/
theorem pn_app : SP 6 (stAt pnT 0) (c7 i j M N F S R) = (listOp "append" S (.int (10 * i + j))).bind fun S' => some (.next, (c7 i j M N F S R).set "seen" (.own S')) := by kernel_rfl
noncomputable def testX : Expr → Expr
  | .IfExp t _ _ _ => t
  | e => e
noncomputable abbrev wE1 := testX (rhsOf (stAt pnT 1))
noncomputable abbrev wE2 := testX (rhsOf (stAt pnT 2))
noncomputable def strB (x : Str) : PyData → Option PyData
  | .bool true => some (.str x)
  | .bool false => some (.str "")
  | _ => none
theorem pn_w1 (S' : List PyData) : SP 6 (stAt pnT 1) ((c7 i j M N F S R).set "seen" (.own S')) = ((R4 39 .truth fPn.scope (c7 i j M N F S' R) wE1).bind (strB "p")).bind fun d => some (.next, (c7 i j M N F S' R).set "waits" (.val d)) := by kernel_rfl
noncomputable def c8 (w : Str) (i j : Int) (M N F S R : List PyData) : Rho := ("waits", .val (.str w)) :: c7 i j M N F S R
noncomputable def plusS (w : Str) (ρ : Rho) : PyData → Option (Fl × Rho)
  | .str b => if w.length + b.length ≤ top then some (.next, ρ.set "waits" (.val (.str (w ++ b)))) else none
  | _ => none
theorem pn_w2 : SP 6 (stAt pnT 2) ((c7 i j M N F S R).set "waits" (.val (.str w))) = ((R4 39 .truth fPn.scope (c8 w i j M N F S R) wE2).bind (strB "q")).bind (plusS w (c8 w i j M N F S R)) := by kernel_rfl
theorem w1_es : boolEs wE1 = [(boolEs wE1).getD 0 wE1, (boolEs wE1).getD 1 wE1] := by kernel_rfl
theorem w2_es : boolEs wE2 = [(boolEs wE2).getD 0 wE2, (boolEs wE2).getD 1 wE2] := by kernel_rfl
theorem w1_and : R4 39 .truth fPn.scope (c7 i j M N F S R) wE1 = (evB (R4 38) .And fPn.scope (c7 i j M N F S R) (boolEs wE1)).map .bool := by kernel_rfl
theorem w2_and : R4 39 .truth fPn.scope (c8 w i j M N F S R) wE2 = (evB (R4 38) .And fPn.scope (c8 w i j M N F S R) (boolEs wE2)).map .bool := by kernel_rfl
theorem w1_0 : R4 38 .truth fPn.scope (c7 i j M N F S R) ((boolEs wE1).getD 0 wE1) = (lenD (.list M)).bind fun y => (cmpD .Lt (.int (i + 1)) y).bind fun d => (truthD d).map .bool := by kernel_rfl
theorem w1_1 : R4 38 .truth fPn.scope (c7 i j M N F S R) ((boolEs wE1).getD 1 wE1) = ((((idxD (.list F) (.int (i + 1))).bind fun d => idxD d (.int j)).bind fun d => (truthD d).map PyData.bool).bind fun d => (truthD d).map fun b => .bool (!b)) := by kernel_rfl
theorem w2_0 : R4 38 .truth fPn.scope (c8 w i j M N F S R) ((boolEs wE2).getD 0 wE2) = (lenD (.list N)).bind fun y => (cmpD .Lt (.int (j + 1)) y).bind fun d => (truthD d).map .bool := by kernel_rfl
theorem w2_1 : R4 38 .truth fPn.scope (c8 w i j M N F S R) ((boolEs wE2).getD 1 wE2) = ((((idxD (.list F) (.int i)).bind fun d => idxD d (.int (j + 1))).bind fun d => (truthD d).map PyData.bool).bind fun d => (truthD d).map fun b => .bool (!b)) := by kernel_rfl
noncomputable def addE : Expr → Expr × Expr
  | .BinOp a _ b _ => (a, b)
  | e => (e, e)
noncomputable abbrev pLC := lcOf (addE (rhsOf (stAt pnT 3))).1
noncomputable abbrev uLC := lcOf (addE (rhsOf (stAt pnT 3))).2
theorem p_lc : pLC.2.1 = [gAt pLC.2.1] := by kernel_rfl
theorem u_lc : uLC.2.1 = [gAt uLC.2.1] := by kernel_rfl
theorem p_item : LL.map (fun x => evG1 (R4 38) pLC.2.2 (relabelS pLC.2.2 fPn.scope) pLC.1 (gAt pLC.2.1) [] (.str x)) = LL.map fun x => some (some (pr (nmT x 0) (vOf 0))) := by kernel_rfl
theorem u_item : LL.map (fun x => evG1 (R4 38) uLC.2.2 (relabelS uLC.2.2 fPn.scope) uLC.1 (gAt uLC.2.1) [] (.str x)) = LL.map fun x => some (some (pr (nmT x 1) (vOf 1))) := by kernel_rfl
theorem pn_p (w' : Str) : SP 6 (stAt pnT 3) ((c8 w i j M N F S R).set "waits" (.val (.str w'))) =
    (((evG (R4 38) pLC.2.2 (relabelS pLC.2.2 fPn.scope) pLC.1 pLC.2.1 [] ((idxD (.list M) (.int i)).bind listOf)).bind mkList).bind fun x => ((evG (R4 38) uLC.2.2 (relabelS uLC.2.2 fPn.scope) uLC.1 uLC.2.1 [] ((idxD (.list N) (.int j)).bind listOf)).bind mkList).bind fun y => addD x y).bind fun d => some (.next, (c8 w' i j M N F S R).set "pairs" (.val d)) := by kernel_rfl
noncomputable def c9 (ps : PyData) (w : Str) (i j : Int) (M N F S R : List PyData) : Rho := ("pairs", .val ps) :: c8 w i j M N F S R
theorem pn_row (ps : PyData) : SP 6 (stAt pnT 4) ((c8 w i j M N F S R).set "pairs" (.val ps)) = ((((((srtT ps).bind fun d => some [d]).bind fun ds => some (PyData.str w :: ds)).bind fun ds => some (PyData.int j :: ds)).bind fun ds => some (PyData.int i :: ds)).bind fun ds => if ds.length ≤ top then some (PyData.tuple ds) else none).bind fun d => (listOp "append" R d).bind fun R' => some (.next, (c9 ps w i j M N F S R).set "rows" (.own R')) := by kernel_rfl
theorem pn_ret : SP 9 (stAt fPn.body 5) (c5 M N F S R) = some (.ret (.list R), freeze (c5 M N F S R)) := by kernel_rfl
end
end Mine

namespace Mine
open PySem PySem.Calls PySem.Spec PyProof.Rows PySem.W PySem.SeqAt

/-! the run of _law_plane -/
section
variable {r : Md → Scope → Rho → Expr → Option PyData} {sc : Scope} {ρ : Rho} {e : Expr} {es : List Expr} {b : Bool}
theorem evB_and (h : r .truth sc ρ e = some (.bool b)) : evB r .And sc ρ (e :: es) = if b then evB r .And sc ρ es else some false := by
  conv => lhs; unfold evB
  rw [h]
  cases b <;> rfl
theorem evB_or (h : r .truth sc ρ e = some (.bool b)) : evB r .Or sc ρ (e :: es) = if b then some true else evB r .Or sc ρ es := by
  conv => lhs; unfold evB
  rw [h]
  cases b <;> rfl
end
noncomputable def memZ (S : List Nat) (z : Int) : Bool := S.any fun n => (n : Int) == z
theorem any_memZ (z : Int) : ∀ S : List Nat, (S.map intD).any (fun y => PyData.eqv y (.int z)) = memZ S z
  | [] => rfl
  | n :: S => by
    unfold memZ
    rw [List.map_cons, List.any_cons, any_memZ z S, List.any_cons]
    rfl
theorem in_ints (z : Int) (S : List Nat) : cmpD .In (.int z) (.list (S.map intD)) = some (.bool (memZ S z)) := by
  rw [← any_memZ]
  exact if_pos (by rw [small_ints]; rfl)
structure Is6 (ρ : Rho) (i : Int) (M N F S R : List PyData) : Prop where
  j : ∀ j : Int, nzP (stAt pnJ.2 0) (ρ.set "j" (.val (.int j))) = nzP (stAt pnJ.2 0) (c7 i j M N F S R)
  i : ∀ i' : Int, nzP (stAt pnI.2 0) (ρ.set "i" (.val (.int i'))) = nzP (stAt pnI.2 0) ((c5 M N F S R).set "i" (.val (.int i')))
  ret : nzP (stAt fPn.body 5) ρ = nzP (stAt fPn.body 5) (c5 M N F S R)
section
variable (i j : Int) (M N F S R : List PyData)
theorem is6_a : Is6 (ci i M N F S R) i M N F S R := ⟨fun _ => by kernel_rfl, fun _ => by kernel_rfl, by kernel_rfl⟩
theorem is6_b : Is6 (c7 i j M N F S R) i M N F S R := ⟨fun _ => by kernel_rfl, fun _ => by kernel_rfl, by kernel_rfl⟩
theorem is6_c (ps : PyData) (w : Str) (R' : List PyData) : Is6 ((c9 ps w i j M N F S R).set "rows" (.own R')) i M N F S R' := ⟨fun _ => by kernel_rfl, fun _ => by kernel_rfl, by kernel_rfl⟩
theorem is6_0 (b : PyData) (i' : Int) : nzP (stAt pnI.2 0) (((((c2 (.list M) (.list N) b).set "free" (.val (.list F))).set "seen" (.own [])).set "rows" (.own [])).set "i" (.val (.int i'))) = nzP (stAt pnI.2 0) ((c5 M N F [] []).set "i" (.val (.int i'))) := by kernel_rfl
theorem pn_for' {ρ : Rho} (h : nzP (stAt pnI.2 0) ρ = nzP (stAt pnI.2 0) ((c5 M N F S R).set "i" (.val (.int i)))) : SP 8 (stAt pnI.2 0) ρ = ((lenD (.list N)).bind rangeD).bind fun items => forL fPn.scope (XP 8 pnJ.2) pnJ.1 items (ci i M N F S R) := (exSt_congr h).trans (pn_for i M N F S R)
end

section
variable {A B : List Deed} (WA : Wf A) (WB : Wf B)
noncomputable def MN (A : List Deed) : List PyData := (holdsN A).map hD
noncomputable def FNs (A B : List Deed) : List PyData := (holdsN A).map fun X => .list ((holdsN B).map fun Y => .bool (dj X Y))
include WA in
theorem hold_at {i : Nat} (hi : i ≤ A.length) : (holdsN A)[i]? = some (Hd A i) := by
  have : i < (holdsN A).length := by rw [WA.hlen]; omega
  unfold Hd
  rw [List.getD_eq_getElem?_getD, List.getElem?_eq_getElem this]; rfl
include WA in
theorem lenM : lenD (.list (MN A)) = some (.int ((A.length + 1 : Nat) : Int)) := by
  have : (MN A).length = A.length + 1 := by unfold MN; rw [List.length_map, WA.hlen]
  refine (if_pos (by rw [this]; have := WA.len; unfold top; omega)).trans ?_
  rw [this]
theorem range_nat {n : Nat} (h : n ≤ 1000) : rangeD (.int (n : Int)) = some ((List.range n).map fun (i : Nat) => PyData.int (i : Int)) := by
  have e : rangeD (.int (n : Int)) = if decide (0 ≤ (n : Int)) && decide ((n : Int) ≤ (top : Int)) then some ((List.range (n : Int).toNat).map fun (i : Nat) => PyData.int (i : Int)) else none := rfl
  have h1 : (n : Int) ≤ (top : Int) := Int.ofNat_le.mpr (le_top h)
  rw [e, decide_eq_true (Int.natCast_nonneg n), decide_eq_true h1, Bool.and_self, if_pos rfl, Int.toNat_natCast]
include WA in
theorem rangeM : (lenD (.list (MN A))).bind rangeD = some ((List.range (A.length + 1)).map fun (i : Nat) => PyData.int (i : Int)) := by
  rw [lenM WA, Option.bind_some]
  exact range_nat (by have := WA.len; omega)
include WA WB in
theorem free_at {i j : Nat} (hi : i ≤ A.length) (hj : j ≤ B.length) : ((idxD (.list (FNs A B)) (.int (i : Int))).bind fun d => idxD d (.int (j : Int))) = some (.bool (dj (Hd A i) (Hd B j))) := by
  have := WA.len
  have := WB.len
  rw [idx_at (by omega)]
  unfold FNs
  rw [List.getElem?_map, hold_at WA hi]
  rw [Option.map_some, Option.bind_some, idx_at (by omega), List.getElem?_map, hold_at WB hj]
  rfl
include WA in
theorem mine_at {i : Nat} (hi : i ≤ A.length) : (idxD (.list (MN A)) (.int (i : Int))).bind listOf = some ((Hd A i).map .str) := by
  have := WA.len
  rw [idx_at (by omega)]
  unfold MN
  rw [List.getElem?_map, hold_at WA hi]
  rfl
noncomputable def testN (A B : List Deed) (S : List Nat) (i j : Nat) : Bool := dj (Hd A i) (Hd B j) && (((i : Int) + j == 0) || (memZ S (10 * i + j - 10) || (decide (0 < (j : Int)) && memZ S (10 * i + j - 1))))
include WA WB
theorem test_run {i j : Nat} (hi : i ≤ A.length) (hj : j ≤ B.length) (M N : List PyData) (S : List Nat) (R : List PyData) : R4 40 .truth fPn.scope (c7 i j M N (FNs A B) (S.map intD) R) (rhsOf (stAt pnJ.2 0)) = some (.bool (testN A B S i j)) := by
  have e0 := t_0 (i : Int) (j : Int) M N (FNs A B) (S.map intD) R
  rw [free_at WA WB hi hj] at e0
  replace e0 : _ = some (PyData.bool (dj (Hd A i) (Hd B j))) := e0
  have o1 := o_1 (i : Int) (j : Int) M N (FNs A B) (S.map intD) R
  rw [in_ints] at o1
  replace o1 : _ = some (PyData.bool (memZ S (10 * i + j - 10))) := o1
  have q1 := q_1 (i : Int) (j : Int) M N (FNs A B) (S.map intD) R
  rw [in_ints] at q1
  replace q1 : _ = some (PyData.bool (memZ S (10 * i + j - 1))) := q1
  have o2 := o_and (i : Int) (j : Int) M N (FNs A B) (S.map intD) R
  rw [q_es, evB_and (q_0 (i : Int) (j : Int) M N (FNs A B) (S.map intD) R), evB_and q1] at o2
  replace o2 : _ = some (PyData.bool (decide (0 < (j : Int)) && memZ S (10 * i + j - 1))) := o2.trans (by
    cases decide (0 < (j : Int)) <;> cases memZ S (10 * i + j - 1) <;> rfl)
  have e1 := t_or (i : Int) (j : Int) M N (FNs A B) (S.map intD) R
  rw [o_es, evB_or (o_0 (i : Int) (j : Int) M N (FNs A B) (S.map intD) R), evB_or o1, evB_or o2] at e1
  replace e1 : _ = some (PyData.bool (((i : Int) + j == 0) || (memZ S (10 * i + j - 10) || (decide (0 < (j : Int)) && memZ S (10 * i + j - 1))))) := e1.trans (by
    cases ((i : Int) + j == 0) <;> cases memZ S (10 * i + j - 10) <;> cases (decide (0 < (j : Int)) && memZ S (10 * i + j - 1)) <;> rfl)
  rw [t_and, t_es, evB_and e0, evB_and e1]
  unfold testN
  cases dj (Hd A i) (Hd B j) <;> cases (((i : Int) + j == 0) || (memZ S (10 * i + j - 10) || (decide (0 < (j : Int)) && memZ S (10 * i + j - 1)))) <;> rfl
omit WA WB in
theorem blk_eq (h : Nat) (D : List Deed) (p : Nat) (Y : List Str) : blk h D p Y = if decide (p < D.length) && !dj (Hd D (p + 1)) Y then vOf h else "" := by
  unfold blk
  by_cases c : p < D.length
  · rw [List.getElem?_eq_getElem c, decide_eq_true c]
    cases dj (Hd D (p + 1)) Y <;> rfl
  · rw [List.getElem?_eq_none (by omega), decide_eq_false c]
    rfl
theorem w1_run {i j : Nat} (hi : i ≤ A.length) (hj : j ≤ B.length) (N S R : List PyData) : (R4 39 .truth fPn.scope (c7 i j (MN A) N (FNs A B) S R) wE1).bind (strB "p") = some (.str (blk 0 A i (Hd B j))) := by
  have e0 := w1_0 (i : Int) (j : Int) (MN A) N (FNs A B) S R
  rw [lenM WA, Option.bind_some] at e0
  replace e0 : _ = some (PyData.bool (decide ((i : Int) + 1 < ((A.length + 1 : Nat) : Int)))) := e0
  have ed : decide ((i : Int) + 1 < ((A.length + 1 : Nat) : Int)) = decide (i < A.length) := by rw [Bool.eq_iff_iff, decide_eq_true_eq, decide_eq_true_eq]; omega
  rw [ed] at e0
  rw [w1_and, w1_es, evB_and e0, blk_eq]
  by_cases c : i < A.length
  · have e1 := w1_1 (i : Int) (j : Int) (MN A) N (FNs A B) S R
    have := free_at WA WB (i := i + 1) (j := j) (by omega) hj
    rw [show (((i + 1 : Nat) : Int)) = (i : Int) + 1 from by omega] at this
    rw [this] at e1
    replace e1 : _ = some (PyData.bool (!dj (Hd A (i + 1)) (Hd B j))) := e1
    rw [decide_eq_true c, if_pos rfl, evB_and e1]
    cases dj (Hd A (i + 1)) (Hd B j) <;> rfl
  · rw [decide_eq_false c]; rfl
theorem w2_run {i j : Nat} (hi : i ≤ A.length) (hj : j ≤ B.length) (w : Str) (M S R : List PyData) : (R4 39 .truth fPn.scope (c8 w i j M (MN B) (FNs A B) S R) wE2).bind (strB "q") = some (.str (blk 1 B j (Hd A i))) := by
  have e0 := w2_0 (i : Int) (j : Int) M (MN B) (FNs A B) S R w
  rw [lenM WB, Option.bind_some] at e0
  replace e0 : _ = some (PyData.bool (decide ((j : Int) + 1 < ((B.length + 1 : Nat) : Int)))) := e0
  have ed : decide ((j : Int) + 1 < ((B.length + 1 : Nat) : Int)) = decide (j < B.length) := by rw [Bool.eq_iff_iff, decide_eq_true_eq, decide_eq_true_eq]; omega
  rw [ed] at e0
  rw [w2_and, w2_es, evB_and e0, blk_eq]
  by_cases c : j < B.length
  · have e1 := w2_1 (i : Int) (j : Int) M (MN B) (FNs A B) S R w
    have := free_at WA WB (i := i) (j := j + 1) hi (by omega)
    rw [show (((j + 1 : Nat) : Int)) = (j : Int) + 1 from by omega] at this
    rw [this] at e1
    replace e1 : _ = some (PyData.bool (!dj (Hd A i) (Hd B (j + 1)))) := e1
    rw [decide_eq_true c, if_pos rfl, evB_and e1, dj_comm (a := Hd B (j + 1))]
    cases dj (Hd A i) (Hd B (j + 1)) <;> rfl
  · rw [decide_eq_false c]; rfl
noncomputable abbrev bD (A B : List Deed) : PyData := bothD (A.map deedD) (B.map deedD)
theorem pn_turn {i j : Nat} (hi : i ≤ A.length) (hj : j ≤ B.length) {S : List Nat} {R : List PyData} (hS : S.length ≤ 100) (hR : R.length ≤ 100) {ρ : Rho} (hρ : nzP (stAt pnJ.2 0) ρ = nzP (stAt pnJ.2 0) (c7 i j (MN A) (MN B) (FNs A B) (S.map intD) R)) :
    ∃ ρ', XP 8 pnJ.2 ρ = some (.next, ρ') ∧ Is6 ρ' i (MN A) (MN B) (FNs A B) ((if testN A B S i j then S ++ [codeN i j] else S).map intD) (if testN A B S i j then R ++ [rowN A B (i, j)] else R) := by
  have e0 := (exSt_congr hρ).trans (pn_if (i : Int) (j : Int) (MN A) (MN B) (FNs A B) (S.map intD) R)
  rw [test_run WA WB hi hj, Option.bind_some] at e0
  have run : ∀ q, exSt (R4 40) MUp fPn.scope HS nzP (XP 7) (stAt pnJ.2 0) ρ = some (.next, q) → XP 8 pnJ.2 ρ = some (.next, q) := fun q hq => by
    show exLS _ _ _ _ _ _ pnJ.2 _ = _
    rw [pn_j, exLS_next hq]
    rfl
  cases c : testN A B S i j with
  | false =>
    rw [c] at e0
    replace e0 := e0.trans ifB_f
    rw [pn_e] at e0
    exact ⟨_, run _ e0, is6_b _ _ _ _ _ _ _⟩
  | true =>
    rw [c] at e0
    replace e0 := e0.trans ifB_t
    have fr : dj (Hd A i) (Hd B j) = true := by
      unfold testN at c
      exact (Bool.and_eq_true_iff.mp c).1
    have s0 := pn_app (i : Int) (j : Int) (MN A) (MN B) (FNs A B) (S.map intD) R
    rw [append_ok (by rw [List.length_map]; omega), Option.bind_some] at s0
    have ec : (S.map intD ++ [PyData.int (10 * (i : Int) + j)]) = (S ++ [codeN i j]).map intD := by
      rw [List.map_append, List.map_singleton]
      have : (10 * (i : Int) + j) = ((codeN i j : Nat) : Int) := by unfold codeN; omega
      rw [this]; rfl
    rw [ec] at s0
    have s1 := pn_w1 (i : Int) (j : Int) (MN A) (MN B) (FNs A B) (S.map intD) R ((S ++ [codeN i j]).map intD)
    rw [w1_run WA WB hi hj, Option.bind_some] at s1
    have s2 := pn_w2 (i : Int) (j : Int) (MN A) (MN B) (FNs A B) ((S ++ [codeN i j]).map intD) R (blk 0 A i (Hd B j))
    rw [w2_run WA WB hi hj, Option.bind_some] at s2
    have bl : ∀ h ∈ List.range 2, ∀ (D : List Deed) p Y, (blk h D p Y).length ≤ 1 ∧ "" ++ blk h D p Y = blk h D p Y := fun h hh D p Y => by
      rw [blk_eq]
      have : ∀ h ∈ List.range 2, ((vOf h).length ≤ 1 ∧ "" ++ vOf h = vOf h) ∧ (("" : Str).length ≤ 1 ∧ ("" : Str) ++ "" = "") := by decide +kernel
      split
      · exact (this h hh).1
      · exact (this h hh).2
    have h0 : (0 : Nat) ∈ List.range 2 := List.mem_range.mpr (by omega)
    have h1 : (1 : Nat) ∈ List.range 2 := List.mem_range.mpr (by omega)
    have b0 := bl 0 h0 A i (Hd B j)
    have b1 := bl 1 h1 B j (Hd A i)
    replace s2 : _ = if (blk 0 A i (Hd B j)).length + (blk 1 B j (Hd A i)).length ≤ top then _ else none := s2
    rw [if_pos (by have := b0.1; have := b1.1; unfold top; omega)] at s2
    have s3 := pn_p (i : Int) (j : Int) (MN A) (MN B) (FNs A B) ((S ++ [codeN i j]).map intD) R (blk 0 A i (Hd B j)) (blk 0 A i (Hd B j) ++ blk 1 B j (Hd A i))
    have hX : ∀ x ∈ Hd A i, x ∈ LL := fun x hx => WA.mem hx
    have hY : ∀ x ∈ Hd B j, x ∈ LL := fun x hx => WB.mem hx
    have fm : ∀ (X : List Str) h, (X.map PyData.str).filterMap (fun d => match d with | .str x => some (pr (nmT x h) (vOf h)) | _ => none) = canH h X := fun X h => by
      rw [List.filterMap_map]
      unfold canH
      induction X with
      | nil => rfl
      | cons x X ih => rw [List.filterMap_cons, List.map_cons, ← ih]; rfl
    have g0 := evG_flat (r := R4 38) (scope := pLC.2.2) (sc := relabelS pLC.2.2 fPn.scope) (elt := pLC.1) (g := gAt pLC.2.1) (ρ := []) (φ := fun d => match d with | .str x => some (pr (nmT x 0) (vOf 0)) | _ => none) (ds := (Hd A i).map .str) (fun d hd => by
      obtain ⟨x, hx, rfl⟩ := List.mem_map.mp hd
      exact of_map_eq p_item x (hX x hx))
    have g1 := evG_flat (r := R4 38) (scope := uLC.2.2) (sc := relabelS uLC.2.2 fPn.scope) (elt := uLC.1) (g := gAt uLC.2.1) (ρ := []) (φ := fun d => match d with | .str x => some (pr (nmT x 1) (vOf 1)) | _ => none) (ds := (Hd B j).map .str) (fun d hd => by
      obtain ⟨x, hx, rfl⟩ := List.mem_map.mp hd
      exact of_map_eq u_item x (hY x hx))
    rw [fm] at g0 g1
    have l0 : (canH 0 (Hd A i)).length ≤ 3 := by unfold canH; rw [List.length_map]; exact WA.le
    have l1 : (canH 1 (Hd B j)).length ≤ 3 := by unfold canH; rw [List.length_map]; exact WB.le
    rw [mine_at WA hi, mine_at WB hj, p_lc, u_lc, g0, g1, Option.bind_some, Option.bind_some, mkList_ok (by omega), mkList_ok (by omega), Option.bind_some, Option.bind_some] at s3
    replace s3 : _ = (mkList (canH 0 (Hd A i) ++ canH 1 (Hd B j))).bind _ := s3
    rw [mkList_ok (by rw [List.length_append]; omega), Option.bind_some] at s3
    have nd := can_nd hX hY WA.nd WB.nd fr
    have hPL : ∀ d ∈ canH 0 (Hd A i) ++ canH 1 (Hd B j), d ∈ PL := fun d hd => by
      rcases List.mem_append.mp hd with m | m
      · exact canH_PL h0 hX d m
      · exact canH_PL h1 hY d m
    obtain ⟨zs, z1, _, _⟩ := srt_list hPL nd (by rw [List.length_append]; omega)
    have hs : sortedN A B i j = .list zs := by unfold sortedN; rw [z1]; rfl
    have s4 := pn_row (i : Int) (j : Int) (MN A) (MN B) (FNs A B) ((S ++ [codeN i j]).map intD) R (blk 0 A i (Hd B j) ++ blk 1 B j (Hd A i)) (.list (canH 0 (Hd A i) ++ canH 1 (Hd B j)))
    rw [z1, Option.bind_some, Option.bind_some, Option.bind_some, Option.bind_some, Option.bind_some, if_pos (by show 4 ≤ top; unfold top; omega), Option.bind_some, append_ok (by omega), Option.bind_some, ← hs] at s4
    have ew : blk 0 A i (Hd B j) ++ blk 1 B j (Hd A i) = waitsN A B i j := by unfold waitsN; rw [b0.2]
    have fin : ∀ q, SP 6 (stAt pnT 4) _ = some (.next, q) → XP 7 pnT _ = some (.next, q) := fun q hq => by
      show exLS _ _ _ _ _ _ pnT _ = _
      rw [pn_t, exLS_next s0, exLS_next s1, exLS_next s2, exLS_next s3, exLS_next hq]
      rfl
    refine ⟨_, run _ (e0.trans (fin _ s4)), ?_⟩
    rw [if_pos rfl, if_pos rfl]
    have : rowN A B (i, j) = .tuple [.int i, .int j, .str (blk 0 A i (Hd B j) ++ blk 1 B j (Hd A i)), sortedN A B i j] := by rw [ew]; rfl
    rw [this]
    exact is6_c _ _ _ _ _ _ _ _ _ _
end
end Mine

namespace Mine
open PySem PySem.Calls PySem.Spec PyProof.Rows PySem.W PySem.SeqAt

/-! the loops of _law_plane -/
section
variable {A B : List Deed} (WA : Wf A) (WB : Wf B)
structure QI (A B : List Deed) (i j : Nat) (Q : List (Nat × Nat)) : Prop where
  mem : ∀ x, x ∈ Q ↔ Pl A B x.1 x.2 ∧ (x.1 < i ∨ (x.1 = i ∧ x.2 < j))
  asc : Q.Pairwise fun a b => codeN a.1 a.2 < codeN b.1 b.2
theorem memZ_iff {Q : List (Nat × Nat)} {z : Int} : memZ (Q.map cdOf) z = true ↔ ∃ x ∈ Q, ((codeN x.1 x.2 : Nat) : Int) = z := by
  unfold memZ
  rw [List.any_map, List.any_eq_true]
  exact exists_congr fun x => and_congr_right fun _ => beq_iff_eq
theorem Reach.pl (d0 : dj (Hd A 0) (Hd B 0) = true) {i j : Nat} (r : Reach A B i j) : Pl A B i j := by
  induction r with
  | zero => exact ⟨Nat.zero_le _, Nat.zero_le _, d0, .zero⟩
  | p r h1 h2 ih => exact ⟨h1, ih.jb, h2, .p r h1 h2⟩
  | q r h1 h2 ih => exact ⟨ih.ia, h1, h2, .q r h1 h2⟩
include WA WB
theorem test_pl {i j : Nat} (hi : i ≤ A.length) (hj : j ≤ B.length) {Q : List (Nat × Nat)} (hQ : QI A B i j Q) : testN A B (Q.map cdOf) i j = true ↔ Pl A B i j := by
  have d0 : dj (Hd A 0) (Hd B 0) = true := by rw [WA.zero]; rfl
  have hB := WB.len
  unfold testN
  rw [Bool.and_eq_true, Bool.or_eq_true, Bool.or_eq_true, Bool.and_eq_true, beq_iff_eq, decide_eq_true_eq, memZ_iff, memZ_iff]
  constructor
  · rintro ⟨fr, h | ⟨x, hx, e⟩ | ⟨hj0, x, hx, e⟩⟩
    · have : i = 0 := by omega
      subst this
      have : j = 0 := by omega
      subst this
      exact ⟨hi, hj, fr, .zero⟩
    · obtain ⟨p, _⟩ := (hQ.mem x).mp hx
      have := p.jb
      obtain ⟨a, b⟩ := x
      unfold codeN at e
      have h1 : i = a + 1 := by omega
      have h2 : j = b := by omega
      subst h1; subst h2
      exact ⟨hi, hj, fr, .p p.re hi fr⟩
    · obtain ⟨p, _⟩ := (hQ.mem x).mp hx
      have := p.jb
      obtain ⟨a, b⟩ := x
      unfold codeN at e
      have h1 : i = a := by omega
      have h2 : j = b + 1 := by omega
      subst h1; subst h2
      exact ⟨hi, hj, fr, .q p.re hj fr⟩
  · intro p
    refine ⟨p.fr, ?_⟩
    cases p.re with
    | zero => exact .inl (by omega)
    | p r h1 h2 => exact .inr (.inl ⟨(_, j), (hQ.mem _).mpr ⟨r.pl d0, .inl (by show _ < _; omega)⟩, by unfold codeN; omega⟩)
    | q r h1 h2 => exact .inr (.inr ⟨by omega, (i, _), (hQ.mem _).mpr ⟨r.pl d0, .inr ⟨rfl, by show _ < _; omega⟩⟩, by unfold codeN; omega⟩)
theorem QI.few {i j : Nat} {Q : List (Nat × Nat)} (hQ : QI A B i j Q) : Q.length ≤ 49 := by
  have h : Q ⊆ (List.range 7).flatMap fun a => (List.range 7).map fun b => (a, b) := fun x hx => by
    have := ((hQ.mem x).mp hx).1
    have h1 := this.ia
    have h2 := this.jb
    have h3 := WA.len
    have h4 := WB.len
    exact List.mem_flatMap.mpr ⟨x.1, List.mem_range.mpr (by omega), List.mem_map.mpr ⟨x.2, List.mem_range.mpr (by omega), rfl⟩⟩
  have nd : Q.Nodup := hQ.asc.imp fun {a b} h e => by rw [e] at h; exact Nat.lt_irrefl _ h
  have := nd.length_le_of_subset h
  have e : ((List.range 7).flatMap fun a => (List.range 7).map fun b => (a, b)).length = 49 := by decide +kernel
  rw [e] at this
  exact this
theorem QI.step {i j : Nat} (hi : i ≤ A.length) (hj : j ≤ B.length) {Q : List (Nat × Nat)} (hQ : QI A B i j Q) : QI A B i (j + 1) (if testN A B (Q.map cdOf) i j then Q ++ [(i, j)] else Q) := by
  have t := test_pl WA WB hi hj hQ
  by_cases c : testN A B (Q.map cdOf) i j = true
  · rw [if_pos c]
    have p := t.mp c
    refine ⟨fun x => ?_, ?_⟩
    · rw [List.mem_append, hQ.mem, List.mem_singleton]
      constructor
      · rintro (⟨h1, h2⟩ | rfl)
        · exact ⟨h1, by omega⟩
        · exact ⟨p, .inr ⟨rfl, Nat.lt_succ_self _⟩⟩
      · rintro ⟨h1, h2⟩
        by_cases e : x = (i, j)
        · exact .inr e
        · refine .inl ⟨h1, ?_⟩
          rcases h2 with h2 | ⟨h2, h3⟩
          · exact .inl h2
          · refine .inr ⟨h2, ?_⟩
            have : x.2 ≠ j := fun e2 => e (Prod.ext h2 e2)
            omega
    · refine List.pairwise_append.mpr ⟨hQ.asc, List.pairwise_singleton _ _, fun a ha b hb => ?_⟩
      rw [List.mem_singleton.mp hb]
      obtain ⟨pa, h⟩ := (hQ.mem a).mp ha
      have := pa.jb
      have := WB.len
      unfold codeN
      show _ < 10 * i + j
      omega
  · rw [if_neg c]
    refine ⟨fun x => ?_, hQ.asc⟩
    rw [hQ.mem]
    constructor
    · rintro ⟨h1, h2⟩; exact ⟨h1, by omega⟩
    · rintro ⟨h1, h2⟩
      refine ⟨h1, ?_⟩
      rcases h2 with h2 | ⟨h2, h3⟩
      · exact .inl h2
      · refine .inr ⟨h2, ?_⟩
        have : x.2 ≠ j := fun e2 => c (t.mpr (by rw [← h2, ← e2]; exact h1))
        omega
omit WA WB in
theorem QI.row {i : Nat} {Q : List (Nat × Nat)} (hQ : QI A B i (B.length + 1) Q) : QI A B (i + 1) 0 Q := ⟨fun x => by
  rw [hQ.mem]
  refine and_congr_right fun p => ?_
  have := p.jb
  omega, hQ.asc⟩
omit WA WB in
theorem QI.zero : QI A B 0 0 [] := ⟨fun x => ⟨(fun m => nomatch m), fun ⟨_, h⟩ => by omega⟩, List.Pairwise.nil⟩

theorem loopJ {i : Nat} (hi : i ≤ A.length) : ∀ (k j : Nat) (Q : List (Nat × Nat)) (ρ : Rho), j + k = B.length + 1 → QI A B i j Q → Is6 ρ i (MN A) (MN B) (FNs A B) ((Q.map cdOf).map intD) (Q.map (rowN A B)) →
    ∃ ρ' Q', forL fPn.scope (XP 8 pnJ.2) pnJ.1 ((List.range' j k).map fun (n : Nat) => PyData.int (n : Int)) ρ = some (.next, ρ') ∧ QI A B i (B.length + 1) Q' ∧ Is6 ρ' i (MN A) (MN B) (FNs A B) ((Q'.map cdOf).map intD) (Q'.map (rowN A B))
  | 0, j, Q, ρ, e, hQ, hρ => by
    have : j = B.length + 1 := by omega
    subst this
    exact ⟨ρ, Q, rfl, hQ, hρ⟩
  | k + 1, j, Q, ρ, e, hQ, hρ => by
    have few := hQ.few WA WB
    obtain ⟨ρ', r, s⟩ := pn_turn WA WB hi (j := j) (by omega) (S := Q.map cdOf) (R := Q.map (rowN A B)) (by rw [List.length_map]; omega) (by rw [List.length_map]; omega) (hρ.j (j : Int))
    rw [List.range'_succ, List.map_cons, forL_next (pn_bindJ _) (pn_ownJ _) r]
    have st := hQ.step WA WB hi (j := j) (by omega)
    have e1 : (if testN A B (Q.map cdOf) i j then Q.map cdOf ++ [codeN i j] else Q.map cdOf) = (if testN A B (Q.map cdOf) i j then Q ++ [(i, j)] else Q).map cdOf := by split <;> simp [cdOf]
    have e2 : (if testN A B (Q.map cdOf) i j then Q.map (rowN A B) ++ [rowN A B (i, j)] else Q.map (rowN A B)) = (if testN A B (Q.map cdOf) i j then Q ++ [(i, j)] else Q).map (rowN A B) := by split <;> simp
    rw [e1, e2] at s
    exact loopJ hi k (j + 1) _ ρ' (by omega) st s
/-- between the rows -/
structure IsI (A B : List Deed) (ρ : Rho) (Q : List (Nat × Nat)) : Prop where
  i : ∀ i' : Int, nzP (stAt pnI.2 0) (ρ.set "i" (.val (.int i'))) = nzP (stAt pnI.2 0) ((c5 (MN A) (MN B) (FNs A B) ((Q.map cdOf).map intD) (Q.map (rowN A B))).set "i" (.val (.int i')))
  ret : nzP (stAt fPn.body 5) ρ = nzP (stAt fPn.body 5) (c5 (MN A) (MN B) (FNs A B) ((Q.map cdOf).map intD) (Q.map (rowN A B)))
theorem loopI : ∀ (k i : Nat) (Q : List (Nat × Nat)) (ρ : Rho), i + k = A.length + 1 → QI A B i 0 Q → IsI A B ρ Q →
    ∃ ρ' Q', forL fPn.scope (XP 9 pnI.2) pnI.1 ((List.range' i k).map fun (n : Nat) => PyData.int (n : Int)) ρ = some (.next, ρ') ∧ QI A B (A.length + 1) 0 Q' ∧ IsI A B ρ' Q'
  | 0, i, Q, ρ, e, hQ, hρ => by
    have : i = A.length + 1 := by omega
    subst this
    exact ⟨ρ, Q, rfl, hQ, hρ⟩
  | k + 1, i, Q, ρ, e, hQ, hρ => by
    have f := pn_for' (i : Int) (MN A) (MN B) (FNs A B) ((Q.map cdOf).map intD) (Q.map (rowN A B)) (hρ.i (i : Int))
    rw [rangeM WB, Option.bind_some, List.range_eq_range'] at f
    obtain ⟨ρ', Q', r, q, s⟩ := loopJ WA WB (i := i) (by omega) (B.length + 1) 0 Q _ (by omega) hQ (is6_a _ _ _ _ _ _)
    have t : XP 9 pnI.2 (ρ.set "i" (.val (.int (i : Int)))) = some (.next, ρ') := by
      show exLS _ _ _ _ _ _ pnI.2 _ = _
      rw [pn_i, exLS_next (f.trans r)]
      rfl
    rw [List.range'_succ, List.map_cons, forL_next (pn_bindI _) (pn_ownI _) t]
    exact loopI k (i + 1) Q' ρ' (by omega) q.row ⟨s.i, s.ret⟩
end
/-- the holds of a hand, as _law_plane gets them -/
theorem ho_fn {t : List Str} (ht : t ∈ L3) : FN4 "_law_holds" [deedsD (deedsN t)] = some (holdsD (holdsN (deedsN t))) := (if_neg (by decide +kernel)).trans ((if_pos (by rfl)).trans (of_map_eq ho_run t ht))
theorem hold_HL : L3.all (fun t => (holdsN (deedsN t)).all (HL.contains ·)) = true := by decide +kernel
theorem pn_run {t u : List Str} (ht : t ∈ L3) (hu : u ∈ L3) {A B : List Deed} (eA : A = deedsN t) (eB : B = deedsN u) :
    ∃ Q : List (Nat × Nat), runB (XP 10 fPn.body) ["both"] [bothD (A.map deedD) (B.map deedD)] = some (.list (Q.map (rowN A B))) ∧ (∀ x, x ∈ Q ↔ Pl A B x.1 x.2) ∧ Q.Pairwise fun a b => codeN a.1 a.2 < codeN b.1 b.2 := by
  have WA : Wf A := by rw [eA]; exact wf_of (wf_all t ht)
  have WB : Wf B := by rw [eB]; exact wf_of (wf_all u hu)
  have mA : ∀ X ∈ holdsN A, X ∈ HL := fun X hX => List.contains_iff_mem.mp (List.all_eq_true.mp (List.all_eq_true.mp hold_HL t ht) X (eA ▸ hX))
  have mB : ∀ X ∈ holdsN B, X ∈ HL := fun X hX => List.contains_iff_mem.mp (List.all_eq_true.mp (List.all_eq_true.mp hold_HL u hu) X (eB ▸ hX))
  have s0 := pn_s0 [.list (A.map deedD), .list (B.map deedD)]
  have g0 := evG_flat (r := R4 39) (scope := mLC.2.2) (sc := relabelS mLC.2.2 fPn.scope) (elt := mLC.1) (g := gAt mLC.2.1) (ρ := []) (φ := fun d => FN4 "_law_holds" [d]) (ds := [.list (A.map deedD), .list (B.map deedD)]) (fun d hd => by
    rw [m_item]
    rcases List.mem_cons.mp hd with rfl | hd
    · have := ho_fn ht; rw [← eA] at this
      rw [show PyData.list (A.map deedD) = deedsD A from rfl, this]; rfl
    · rw [List.mem_singleton.mp hd]
      have := ho_fn hu; rw [← eB] at this
      rw [show PyData.list (B.map deedD) = deedsD B from rfl, this]; rfl)
  have fA := ho_fn ht
  have fB := ho_fn hu
  rw [← eA] at fA
  rw [← eB] at fB
  have e0 : [PyData.list (A.map deedD), .list (B.map deedD)].filterMap (fun d => FN4 "_law_holds" [d]) = [.list (MN A), .list (MN B)] := by
    rw [List.filterMap_cons_some (b := .list (MN A)) fA, List.filterMap_cons_some (b := .list (MN B)) fB, List.filterMap_nil]
  rw [m_lc, g0, e0, Option.bind_some, mkList_ok (by show 2 ≤ 1000; omega), Option.bind_some, pn_s0s] at s0
  have lA : (MN A).length ≤ 7 := by unfold MN; rw [List.length_map, WA.hlen]; have := WA.len; omega
  have lB : (MN B).length ≤ 7 := by unfold MN; rw [List.length_map, WB.hlen]; have := WB.len; omega
  have s1 := pn_s1 (MN A) (MN B) (.list [.list (A.map deedD), .list (B.map deedD)])
  let txL : PyData → List Str := fun d => match d with | .list ds => ds.filterMap strOfD | _ => []
  have txL_h : ∀ X, txL (hD X) = X := fun X => by
    show (X.map PyData.str).filterMap strOfD = X
    rw [List.filterMap_map]
    induction X with
    | nil => rfl
    | cons x X ih => rw [List.filterMap_cons]; exact congrArg (x :: ·) ih
  have inner : ∀ X ∈ HL, evG (R4 38) bLC.2.2 (relabelS bLC.2.2 (relabelS aLC.2.2 fPn.scope)) bLC.1 bLC.2.1 [("a", .val (hD X))] (some (MN B)) = some ((holdsN B).map fun Y => .bool (dj X Y)) := fun X hX => by
    rw [b_lc, evG_flat (φ := fun d => some (.bool (dj X (txL d)))) (fun d hd => by
      obtain ⟨Y, hY, rfl⟩ := List.mem_map.mp hd
      rw [txL_h]
      exact of_map_eq (of_map_eq b_item X hX) Y (mB Y hY))]
    unfold MN
    rw [List.filterMap_map]
    congr 1
    rw [← List.filterMap_eq_map]
    congr 1
    funext Y
    show some _ = some _
    rw [txL_h]
  have outer : evG (R4 39) aLC.2.2 (relabelS aLC.2.2 fPn.scope) aLC.1 aLC.2.1 [("yours", .val (.list (MN B)))] (some (MN A)) = some (FNs A B) := by
    rw [a_lc, evG_flat (φ := fun d => some (.list ((holdsN B).map fun Y => .bool (dj (txL d) Y)))) (fun d hd => by
      obtain ⟨X, hX, rfl⟩ := List.mem_map.mp hd
      rw [a_item, inner X (mA X hX), Option.bind_some, mkList_ok (by rw [List.length_map, WB.hlen]; have := WB.len; omega), txL_h]
      rfl)]
    unfold MN FNs
    rw [List.filterMap_map]
    congr 1
    rw [← List.filterMap_eq_map]
    congr 1
    funext X
    show some _ = some _
    rw [txL_h]
  rw [outer, Option.bind_some, mkList_ok (by unfold FNs; rw [List.length_map, WA.hlen]; have := WA.len; omega), Option.bind_some] at s1
  have s2 := pn_s2 (MN A) (MN B) (FNs A B) (.list [.list (A.map deedD), .list (B.map deedD)])
  have s3 := pn_s3 (MN A) (MN B) (FNs A B) (.list [.list (A.map deedD), .list (B.map deedD)])
  have s4 := pn_s4 (MN A) (MN B) (FNs A B) (.list [.list (A.map deedD), .list (B.map deedD)])
  rw [rangeM WA, Option.bind_some, List.range_eq_range'] at s4
  obtain ⟨ρ', Q, r, q, s⟩ := loopI WA WB (A.length + 1) 0 [] ((((c2 (.list (MN A)) (.list (MN B)) (.list [.list (A.map deedD), .list (B.map deedD)])).set "free" (.val (.list (FNs A B)))).set "seen" (.own [])).set "rows" (.own [])) (by omega) QI.zero ⟨fun i' => is6_0 _ _ _ _ i', by kernel_rfl⟩
  have s5 := (exSt_congr s.ret).trans (pn_ret (MN A) (MN B) (FNs A B) ((Q.map cdOf).map intD) (Q.map (rowN A B)))
  refine ⟨Q, ?_, fun x => ?_, q.asc⟩
  · refine (if_pos rfl).trans ?_
    have e : XP 10 fPn.body (rho0 ["both"] [bothD (A.map deedD) (B.map deedD)]) = some (.ret (.list (Q.map (rowN A B))), freeze (c5 (MN A) (MN B) (FNs A B) ((Q.map cdOf).map intD) (Q.map (rowN A B)))) := by
      show exLS _ _ _ _ _ _ fPn.body (rho0 ["both"] [.list [.list (A.map deedD), .list (B.map deedD)]]) = _
      rw [pn_body, exLS_next s0, exLS_next s1, exLS_next s2, exLS_next s3, exLS_next (s4.trans r), exLS_ret s5]
    rw [e]
  · rw [q.mem]
    constructor
    · exact fun h => h.1
    · intro p
      exact ⟨p, .inl (by have := p.ia; omega)⟩
/-- both give the same rows -/
theorem same_rows {t u : List Str} (ht : t ∈ L3) (hu : u ∈ L3) : ∃ d, runB (XR 10 fRe.body) ["both"] [bothD ((deedsN t).map deedD) ((deedsN u).map deedD)] = some d ∧ runB (XP 10 fPn.body) ["both"] [bothD ((deedsN t).map deedD) ((deedsN u).map deedD)] = some d := by
  obtain ⟨Q, h1, h2, h3⟩ := pn_run ht hu rfl rfl
  exact ⟨_, re_run (wf_of (wf_all t ht)) (wf_of (wf_all u hu)) h2 h3, h1⟩
end Mine

namespace Mine
open PySem PySem.Calls PySem.Spec PyProof.Rows PySem.W PySem.SeqAt

/-! law -/
noncomputable def FN5 (f : Str) (args : List PyData) : Option PyData :=
  if f == ("_law_deeds" : Str) then runB (XD 10 fDe.body) ["numbers"] args
  else if f == ("_law_reached" : Str) then runB (XR 10 fRe.body) ["both"] args
  else if f == ("_law_plane" : Str) then runB (XP 10 fPn.body) ["both"] args
  else none
noncomputable abbrev R5 (n : Nat) := ev ⟨FN5, HE⟩ noSrt n
noncomputable abbrev fLaw := topFn pw "law"
noncomputable abbrev drLC := lcOf (rhsOf (stAt fLaw.body 0))
theorem lw_body : fLaw.body = [stAt fLaw.body 0, stAt fLaw.body 1, stAt fLaw.body 2, stAt fLaw.body 3] := by kernel_rfl
theorem dr_lc : drLC.2.1 = [gAt drLC.2.1] := by kernel_rfl
theorem dr_item (x : Int) : evG1 (R5 39) drLC.2.2 (relabelS drLC.2.2 fLaw.scope) drLC.1 (gAt drLC.2.1) [] (.int x) = some (some (.int (x.fmod 1000000))) := by kernel_rfl
/-- the same for any table of functions: the kernel shall not look into it -/
noncomputable abbrev Rf (fn : Str → List PyData → Option PyData) (n : Nat) := ev ⟨fn, HE⟩ noSrt n
noncomputable abbrev SLf (fn : Str → List PyData → Option PyData) (st : Stmt) (ρ : Rho) := (HS (Rf fn 40) fLaw.scope ρ st).or (ex1 (Rf fn 40) [] fLaw.scope (exs (Rf fn 40) [] fLaw.scope HS 9) ρ st)
noncomputable abbrev SL (st : Stmt) (ρ : Rho) := SLf FN5 st ρ
theorem lw_s0 (ds : List PyData) : SL (stAt fLaw.body 0) (rho0 ["script"] [.list ds]) =
    ((evG (R5 39) drLC.2.2 (relabelS drLC.2.2 fLaw.scope) drLC.1 drLC.2.1 [] ((cutD (.list ds) none (some 6) none).bind listOf)).bind mkList).bind fun d => some (.next, (rho0 ["script"] [.list ds]).set "drawn" (.val d)) := by kernel_rfl
noncomputable def lw1 (sc : PyData) (D : List PyData) : Rho := [("drawn", .val (.list D)), ("script", .val sc)]
noncomputable def lw2 (sc : PyData) (D : List PyData) (N : PyData) : Rho := [("numbers", .val N), ("drawn", .val (.list D)), ("script", .val sc)]
noncomputable def N6 (a b c d e f : Int) : PyData := .list [.int a, .int b, .int c, .int d, .int e, .int f]
noncomputable def N3 (a b c : Int) : PyData := .list [.int a, .int b, .int c]
noncomputable abbrev S1At (sc : PyData) (D : List PyData) := SL (stAt fLaw.body 1) (lw1 sc D)
theorem lw_s1_0 (sc : PyData) : S1At sc [] = some (.next, lw2 sc [] (N6 0 1 0 1 0 2)) := by kernel_rfl
theorem lw_s1_1 (sc : PyData) (a : Int) : S1At sc [.int a] = some (.next, lw2 sc [.int a] (N6 a 1 0 1 0 2)) := by kernel_rfl
theorem lw_s1_2 (sc : PyData) (a b : Int) : S1At sc [.int a, .int b] = some (.next, lw2 sc [.int a, .int b] (N6 a b 0 1 0 2)) := by kernel_rfl
theorem lw_s1_3 (sc : PyData) (a b c : Int) : S1At sc [.int a, .int b, .int c] = some (.next, lw2 sc [.int a, .int b, .int c] (N6 a b c 1 0 2)) := by kernel_rfl
theorem lw_s1_4 (sc : PyData) (a b c d : Int) : S1At sc [.int a, .int b, .int c, .int d] = some (.next, lw2 sc [.int a, .int b, .int c, .int d] (N6 a b c d 0 2)) := by kernel_rfl
theorem lw_s1_5 (sc : PyData) (a b c d e : Int) : S1At sc [.int a, .int b, .int c, .int d, .int e] = some (.next, lw2 sc [.int a, .int b, .int c, .int d, .int e] (N6 a b c d e 2)) := by kernel_rfl
theorem lw_s1_6 (sc : PyData) (a b c d e f : Int) : S1At sc [.int a, .int b, .int c, .int d, .int e, .int f] = some (.next, lw2 sc [.int a, .int b, .int c, .int d, .int e, .int f] (N6 a b c d e f)) := by kernel_rfl
noncomputable def lw3 (sc : PyData) (D : List PyData) (N b : PyData) : Rho := ("both", .val b) :: lw2 sc D N
theorem lf_s2 (fn : Str → List PyData → Option PyData) (sc : PyData) (D : List PyData) (a b c d e f : Int) : SLf fn (stAt fLaw.body 2) (lw2 sc D (N6 a b c d e f)) =
    (((fn "_law_deeds" [N3 a b c]).bind fun x => ((fn "_law_deeds" [N3 d e f]).bind fun y => some [y]).bind fun ds => some (x :: ds)).bind mkList).bind fun d' => some (.next, lw3 sc D (N6 a b c d e f) d') := by kernel_rfl
theorem lf_s3 (fn : Str → List PyData → Option PyData) (sc : PyData) (D : List PyData) (N b : PyData) : SLf fn (stAt fLaw.body 3) (lw3 sc D N b) = ((fn "_law_reached" [b]).bind fun x => (fn "_law_plane" [b]).bind fun y => cmpD .Eq x y).bind fun d => some (.ret d, freeze (lw3 sc D N b)) := by kernel_rfl
theorem fn_de (args : List PyData) : FN5 "_law_deeds" args = runB (XD 10 fDe.body) ["numbers"] args := if_pos (by rfl)
theorem fn_re (args : List PyData) : FN5 "_law_reached" args = runB (XR 10 fRe.body) ["both"] args := (if_neg (by decide +kernel)).trans (if_pos (by rfl))
theorem fn_pn (args : List PyData) : FN5 "_law_plane" args = runB (XP 10 fPn.body) ["both"] args := (if_neg (by decide +kernel)).trans ((if_neg (by decide +kernel)).trans (if_pos (by rfl)))
theorem lw_numbers (sc : PyData) (ns : List Int) (h : ns.length ≤ 6) : ∃ x1 x2 x3 x4 x5 x6, S1At sc (ns.map .int) = some (.next, lw2 sc (ns.map .int) (N6 x1 x2 x3 x4 x5 x6)) := by
  match ns, h with
  | [], _ => exact ⟨_, _, _, _, _, _, lw_s1_0 sc⟩
  | [a], _ => exact ⟨_, _, _, _, _, _, lw_s1_1 sc a⟩
  | [a, b], _ => exact ⟨_, _, _, _, _, _, lw_s1_2 sc a b⟩
  | [a, b, c], _ => exact ⟨_, _, _, _, _, _, lw_s1_3 sc a b c⟩
  | [a, b, c, d], _ => exact ⟨_, _, _, _, _, _, lw_s1_4 sc a b c d⟩
  | [a, b, c, d, e], _ => exact ⟨_, _, _, _, _, _, lw_s1_5 sc a b c d e⟩
  | [a, b, c, d, e, f], _ => exact ⟨_, _, _, _, _, _, lw_s1_6 sc a b c d e f⟩

/-! the rows may be compared -/
theorem blk_any (h : Nat) (D : List Deed) (p : Nat) (Y : List Str) : blk h D p Y = "" ∨ blk h D p Y = vOf h := by
  rw [blk_eq]
  split
  · exact .inr rfl
  · exact .inl rfl
theorem waits_ok (A B : List Deed) (i j : Nat) : PyData.strOk (waitsN A B i j) = true := by
  unfold waitsN
  rcases blk_any 0 A i (Hd B j) with e | e <;> rcases blk_any 1 B j (Hd A i) with f | f <;> rw [e, f] <;> decide +kernel
theorem row_can {A B : List Deed} (WA : Wf A) (WB : Wf B) {q : Nat × Nat} (p : Pl A B q.1 q.2) : (rowN A B q).canLay0 = true ∧ (rowN A B q).depth ≤ 10 := by
  have h0 : (0 : Nat) ∈ List.range 2 := List.mem_range.mpr (by omega)
  have h1 : (1 : Nat) ∈ List.range 2 := List.mem_range.mpr (by omega)
  have hX : ∀ x ∈ Hd A q.1, x ∈ LL := fun x hx => WA.mem hx
  have hY : ∀ x ∈ Hd B q.2, x ∈ LL := fun x hx => WB.mem hx
  have l0 : (canH 0 (Hd A q.1)).length ≤ 3 := by unfold canH; rw [List.length_map]; exact WA.le
  have l1 : (canH 1 (Hd B q.2)).length ≤ 3 := by unfold canH; rw [List.length_map]; exact WB.le
  obtain ⟨zs, z1, _, z2⟩ := srt_list (ps := canH 0 (Hd A q.1) ++ canH 1 (Hd B q.2)) (fun d hd => by
    rcases List.mem_append.mp hd with m | m
    · exact canH_PL h0 hX d m
    · exact canH_PL h1 hY d m) (can_nd hX hY WA.nd WB.nd p.fr) (by rw [List.length_append]; omega)
  have hs : sortedN A B q.1 q.2 = .list zs := by unfold sortedN; rw [z1]; rfl
  have hd : PyData.depthAll zs ≤ 4 := depthAll_le fun d hd => (PL_small (z2 d hd)).2.2
  unfold rowN
  rw [hs]
  refine ⟨?_, ?_⟩
  · unfold PyData.canLay0 PyData.canLayAll0 PyData.canLayAll0 PyData.canLayAll0 PyData.canLayAll0 PyData.canLayAll0
    have c1 : (PyData.str (waitsN A B q.1 q.2)).canLay0 = true := by unfold PyData.canLay0; exact waits_ok A B q.1 q.2
    have c2 : (PyData.list zs).canLay0 = true := by unfold PyData.canLay0; exact canLayAll_all fun d hd => (PL_small (z2 d hd)).1
    rw [c1, c2]
    rfl
  · simp only [PyData.depth, PyData.depthAll]
    omega
theorem L3_mem (a b c : Int) : [letOf a, letOf b, letOf c] ∈ L3 := List.mem_flatMap.mpr ⟨_, letOf_LL a, List.mem_flatMap.mpr ⟨_, letOf_LL b, List.mem_map.mpr ⟨_, letOf_LL c, rfl⟩⟩⟩
theorem law_run (ns : List Int) (h : ns.length ≤ 63) : runF (R5 40) HS [] 10 ["script"] fLaw.body fLaw.scope [.list (ns.map .int)] = some (.bool true) := by
  have b0 := lw_s0 (ns.map .int)
  have hc : cutD (.list (ns.map PyData.int)) none (some 6) none = some (.list ((ns.take 6).map PyData.int)) := by
    show (if (ns.map PyData.int).length ≤ top then some (PyData.list (cutL (ns.map PyData.int) none (some 6))) else none) = _
    rw [if_pos (by rw [List.length_map]; unfold top; omega)]
    have e : cutL (ns.map PyData.int) none (some 6) = (ns.take 6).map PyData.int := by
      show ((ns.map PyData.int).drop 0).take (clipAt (ns.map PyData.int).length 6 - 0) = _
      rw [List.drop_zero, List.map_take]
      have hc : clipAt (ns.map PyData.int).length 6 = min 6 (ns.map PyData.int).length := by
        have := clipAt_cast (ns.map PyData.int).length 6
        rw [if_neg (by omega)] at this
        omega
      rw [hc, Nat.sub_zero]
      exact (List.take_eq_take_min).symm
    rw [e]
  rw [hc, Option.bind_some] at b0
  have hl : listOf (.list ((ns.take 6).map PyData.int)) = some ((ns.take 6).map PyData.int) := rfl
  rw [hl, dr_lc] at b0
  have hg : evG (R5 39) drLC.2.2 (relabelS drLC.2.2 fLaw.scope) drLC.1 [gAt drLC.2.1] [] (some ((ns.take 6).map PyData.int)) = some ((((ns.take 6).map fun x => x.fmod 1000000)).map PyData.int) := by
    rw [evG_flat (φ := fun d => match d with | .int x => some (.int (x.fmod 1000000)) | _ => none) fun d hd => ?_]
    · rw [List.filterMap_map, List.map_map]
      congr 1
      induction ns.take 6 with
      | nil => rfl
      | cons x l ih => rw [List.filterMap_cons, List.map_cons, ih]; rfl
    · obtain ⟨x, _, rfl⟩ := List.mem_map.mp hd
      exact dr_item x
  have hlen : ((ns.take 6).map fun x => x.fmod 1000000).length ≤ 6 := by rw [List.length_map, List.length_take]; omega
  rw [hg, Option.bind_some, mkList_ok (by rw [List.length_map]; omega), Option.bind_some] at b0
  obtain ⟨x1, x2, x3, x4, x5, x6, b1⟩ := lw_numbers (.list (ns.map .int)) ((ns.take 6).map fun x => x.fmod 1000000) hlen
  generalize ((ns.take 6).map fun x => x.fmod 1000000).map PyData.int = D at *
  have hA := L3_mem x1 x2 x3
  have hB := L3_mem x4 x5 x6
  have b2 := lf_s2 FN5 (.list (ns.map .int)) D x1 x2 x3 x4 x5 x6
  have dA : FN5 "_law_deeds" [N3 x1 x2 x3] = _ := (fn_de _).trans (de_run x1 x2 x3)
  have dB : FN5 "_law_deeds" [N3 x4 x5 x6] = _ := (fn_de _).trans (de_run x4 x5 x6)
  rw [dA, dB, Option.bind_some, Option.bind_some, Option.bind_some, Option.bind_some, mkList_ok (by show 2 ≤ 1000; omega), Option.bind_some] at b2
  generalize hT : [letOf x1, letOf x2, letOf x3] = t at *
  generalize hU : [letOf x4, letOf x5, letOf x6] = u at *
  obtain ⟨Q, h1, h2, h3⟩ := pn_run hA hB rfl rfl
  have WA := wf_of (wf_all t hA)
  have WB := wf_of (wf_all u hB)
  have b3 := lf_s3 FN5 (.list (ns.map .int)) D (N6 x1 x2 x3 x4 x5 x6) (bothD ((deedsN t).map deedD) ((deedsN u).map deedD))
  have sm : ∀ d ∈ Q.map (rowN (deedsN t) (deedsN u)), d.canLay0 = true ∧ d.depth ≤ 10 := fun d hd => by
    obtain ⟨q, hq, rfl⟩ := List.mem_map.mp hd
    exact row_can WA WB ((h2 q).mp hq)
  have s1 := smallD_list (fun d hd => (sm d hd).1) (fun d hd => (sm d hd).2) (by omega)
  have hrefl : PyData.eqv (.list (Q.map (rowN (deedsN t) (deedsN u)))) (.list (Q.map (rowN (deedsN t) (deedsN u)))) = true := PySem.SeqAt.eqv_refl _ (Bool.and_eq_true_iff.mp s1).1
  rw [fn_re, fn_pn, re_run WA WB h2 h3, h1, Option.bind_some, Option.bind_some, cmpEq s1 s1, hrefl, Option.bind_some] at b3
  refine (if_pos rfl).trans ?_
  show (match exL (R5 40) [] fLaw.scope HS (exs (R5 40) [] fLaw.scope HS 9) fLaw.body (rho0 ["script"] [.list (ns.map .int)]) with | some (.ret d, _) => some d | some (.next, _) => some .none | _ => none) = _
  have e0 : (rho0 ["script"] [.list (ns.map PyData.int)]).set "drawn" (.val (.list D)) = lw1 (.list (ns.map .int)) D := by rfl
  have b3' : SL (stAt fLaw.body 3) (lw3 (.list (ns.map .int)) D (N6 x1 x2 x3 x4 x5 x6) (.list [deedsD (deedsN t), deedsD (deedsN u)])) = some (.ret (.bool true), freeze (lw3 (.list (ns.map .int)) D (N6 x1 x2 x3 x4 x5 x6) (.list [deedsD (deedsN t), deedsD (deedsN u)]))) := b3
  rw [lw_body, exL_next b0, e0, exL_next b1, exL_next b2, exL_ret b3']
end Mine

namespace Mine
open PySem PySem.Calls PySem.Spec PyProof.Rows PySem.W PySem.SeqAt

/-! the text's shapes that the contracts ask for -/
noncomputable abbrev fConv := methFn pw "_convert_string_type"
theorem conv_bodyF : ConvBody fConv.body := ⟨_, _, _, _, _, _, _, _, _, _, _, _, _, _, _, _, _, _, _, _, _, by rfl, rfl⟩
theorem init_bodyF0 : ∃ lp, InitBody lp fInit.body := ⟨_, _, _, _, _, _, _, _, _, _, _, _, _, _, _, _, _, _, _, _, _, _, _, _, rfl⟩
theorem init_bodyF : InitBody initLoop fInit.body := by
  obtain ⟨lp, h⟩ := init_bodyF0
  have e : initLoop = lp := by
    obtain ⟨_, _, _, _, _, _, _, _, _, _, _, _, _, _, _, _, _, _, _, _, _, _, _, hb⟩ := h
    show stAt (thenOf (stAt fInit.body 3)) 0 = lp
    rw [hb]; rfl
  rw [e]
  exact h

section
variable {prog : Program} {w : World} {mg mb : Str → Option Value} {K : Frag} {H0 : Heap} {Ca : Addr}
theorem vals1 {vals : List Value} {a : Str} (h : vals.length = [a].length) : ∃ v, vals = [v] := by
  exact List.length_eq_one_iff.mp h
theorem vals4 {vals : List Value} {a b c d : Str} (h : vals.length = [a, b, c, d].length) : ∃ x y z u, vals = [x, y, z, u] := by
  rcases vals with _ | ⟨x, v⟩
  · cases h
  · obtain ⟨y, z, u, rfl⟩ := len3 (Nat.succ.inj h)
    exact ⟨x, y, z, u, rfl⟩
theorem heOkK (t : TopH mg mb K H0 Ca) {fn : Str → List PyData → Option PyData} {k : Nat} (hk : 3 ≤ k) : HookOk prog w H0 (C1 Ca) ⟨fn, HE⟩ k := hkE_ok ((cl2 t).mono hk)
theorem hsOkK (t : TopH mg mb K H0 Ca) {k : Nat} (hk : 3 ≤ k) : StmtOk prog w (C1 Ca) H0 k HS := StmtOk.or (hkS_ok ((cl2 t).mono hk)) (hkNew_ok t.g1.toGround0 t.cls t.keep t.head ((new2 t).mono hk))
theorem fns4 (t : TopH mg mb K H0 Ca) (dS : DefAt mg H0 "_law_step" fSt.params fSt.body fSt.scope) (dH : DefAt mg H0 "_law_holds" fHo.params fHo.body fHo.scope) : FnsOk prog w mg H0 ⟨FN4, HE⟩ 4 := by
  have PS : SpecOk prog w mg H0 (C1 Ca) ⟨noFnT, HE⟩ 3 := ⟨(fun _ _ _ e => nomatch e), heOk t⟩
  intro f args d e
  have e : FN4 f args = some d := e
  unfold FN4 at e
  split at e
  · rename_i hf
    rw [beq_iff_eq.mp hf]
    exact fun_ok (k := 3) PS noSrt_ok t.g1.toGround0 (hsOk t) dS (by decide +kernel) (by decide +kernel) (by decide +kernel) (fun pm code doc vals h => by
      obtain ⟨a, b, c, d, rfl⟩ := vals4 h
      kernel_rfl) e
  · split at e
    · rename_i hf
      rw [beq_iff_eq.mp hf]
      exact fun_ok (k := 3) PS noSrt_ok t.g1.toGround0 (hsOk t) dH (by decide +kernel) (by decide +kernel) (by decide +kernel) (fun pm code doc vals h => by obtain ⟨v, rfl⟩ := vals1 h; kernel_rfl) e
    · cases e
theorem fns5 (t : TopH mg mb K H0 Ca) (dS : DefAt mg H0 "_law_step" fSt.params fSt.body fSt.scope) (dH : DefAt mg H0 "_law_holds" fHo.params fHo.body fHo.scope)
    (dD : DefAt mg H0 "_law_deeds" fDe.params fDe.body fDe.scope) (dR : DefAt mg H0 "_law_reached" fRe.params fRe.body fRe.scope) (dP : DefAt mg H0 "_law_plane" fPn.params fPn.body fPn.scope) : FnsOk prog w mg H0 ⟨FN5, HE⟩ 5 := by
  have P3 : SpecOk prog w mg H0 (C1 Ca) ⟨noFnT, HE⟩ 3 := ⟨(fun _ _ _ e => nomatch e), heOk t⟩
  have P4 : SpecOk prog w mg H0 (C1 Ca) ⟨FN4, HE⟩ 4 := ⟨fns4 t dS dH, heOkK t (by omega)⟩
  intro f args d e
  have e : FN5 f args = some d := e
  unfold FN5 at e
  split at e
  · rename_i hf
    rw [beq_iff_eq.mp hf]
    exact FnOk.mono (fun_okB (k := 3) t.g1.toGround0 dD (fun A P env es rm => exsN_blk P3 noSrt_ok t.g1.toGround0 (hsOk t) (nzAt_drops _) A P env es rm) (by decide +kernel) (by decide +kernel) (by decide +kernel) (fun pm code doc vals h => by obtain ⟨v, rfl⟩ := vals1 h; kernel_rfl) e) (by omega)
  · split at e
    · rename_i hf
      rw [beq_iff_eq.mp hf]
      exact fun_okB (k := 4) t.g1.toGround0 dR (fun A P env es rm => exsS_blk P4 srtT_ok t.g1.toGround0 (hsOkK t (by omega)) (nzS_drops _) A P env es rm) (by decide +kernel) (by decide +kernel) (by decide +kernel) (fun pm code doc vals h => by obtain ⟨v, rfl⟩ := vals1 h; kernel_rfl) e
    · split at e
      · rename_i hf
        rw [beq_iff_eq.mp hf]
        exact fun_okB (k := 4) t.g1.toGround0 dP (fun A P env es rm => exsS_blk P4 srtT_ok t.g1.toGround0 (hsOkK t (by omega)) (nzS_drops _) A P env es rm) (by decide +kernel) (by decide +kernel) (by decide +kernel) (fun pm code doc vals h => by obtain ⟨v, rfl⟩ := vals1 h; kernel_rfl) e
      · cases e
theorem law_fn (t : TopH mg mb K H0 Ca) (dS : DefAt mg H0 "_law_step" fSt.params fSt.body fSt.scope) (dH : DefAt mg H0 "_law_holds" fHo.params fHo.body fHo.scope)
    (dD : DefAt mg H0 "_law_deeds" fDe.params fDe.body fDe.scope) (dR : DefAt mg H0 "_law_reached" fRe.params fRe.body fRe.scope) (dP : DefAt mg H0 "_law_plane" fPn.params fPn.body fPn.scope)
    (dL : DefAt mg H0 "law" fLaw.params fLaw.body fLaw.scope) (ns : List Int) (h : ns.length ≤ 63) :
    ∃ a o fd, mg "law" = some (.ref a) ∧ H0.get? a = some o ∧ o.data = .func fd ∧ ∀ (A : Around) (s : Shared) (vs : List Value) (as : List Addr) (R : Result → Shared → Prop), Room A 6 → Stays H0 s.heap → ReadsAll s.heap vs [.list (ns.map .int)] as →
      (∀ r h' tk bs, Stays s.heap h' → Reads h' r (.bool true) bs → (∀ b ∈ bs, b ∈ as ∨ s.heap.get? b = none) → R (.ok (.ret r)) { s with heap := h', toks := tk }) → codeAny (model prog w) A (.call (.ref a) ⟨vs, []⟩) R s :=
  fun_code (C := C1 Ca) (Φ := ⟨FN5, HE⟩) (srt := noSrt) (k := 5) ⟨fns5 t dS dH dD dR dP, heOkK t (by omega)⟩ noSrt_ok t.g1.toGround0 (hsOkK t (by omega)) dL (by decide +kernel) (by decide +kernel) (by decide +kernel) (fun pm code doc vals h => by
    obtain ⟨v, rfl⟩ := vals1 h
    kernel_rfl) (law_run ns h)
end
end Mine

namespace Mine
open PySem PySem.Calls PySem.Spec PyProof.Rows PySem.W PySem.SeqAt

/-! what the written heap must say -/
structure FunK (K : Frag) (f : Addr) (F : Fn) : Prop where
  isf : (fdIn K f).isSome = true
  code : codeIn K (fdOf K f).code (fdOf K f).qualname = true
  gl : (fdOf K f).globals = mainGlobals
  bl : (fdOf K f).builtins = builtinsNs
  cl : (fdOf K f).closure = []
  sc : (fdOf K f).scope = F.scope
  body : (fdOf K f).body = .stmts F.body
structure MethK (K : Frag) (Ca : Addr) (m : Str) (f : Addr) (F : Fn) : Prop where
  find : findIn K (.ref Ca) m = some (some (.ref f))
  ty : typeIn K (.ref f) = some (.type "function")
  fn : FunK K f F
theorem FunK.plain {K : Frag} {f : Addr} {F : Fn} (x : FunK K f F) (h : plainSc F.scope = true) : PlainIn K f F := ⟨x.isf, x.code, x.gl, x.bl, x.cl, x.sc, x.body, h⟩
theorem MethK.at_ {K : Frag} {Ca f : Addr} {m : Str} {F : Fn} {H0 : Heap} (x : MethK K Ca m f F) (X : K.In H0) (h : (m == ("_headers" : Str)) = false) : MethAt K H0 Ca m f := methAt_K X x.find x.ty h x.fn.isf x.fn.code
structure DefK (K : Frag) (n : Str) (a : Addr) (F : Fn) : Prop where
  at_ : nsIn K mainGlobals n = some (some (.ref a))
  isf : (fdIn K a).isSome = true
  eq : fdOf K a = docDef n F.params F.body F.scope (fdOf K a).pyModule (fdOf K a).code (fdOf K a).doc
  code : codeIn K (fdOf K a).code n = true
theorem DefK.def_ {K : Frag} {n : Str} {a : Addr} {F : Fn} {H0 : Heap} {mg : Str → Option Value} (x : DefK K n a F) (X : K.In H0) (g : H0.Ns mainGlobals mg) : DefAt mg H0 n F.params F.body F.scope := defAt_K X g x.at_ x.isf x.eq x.code

structure NamesK (K : Frag) (pn pv : Addr) : Prop where
  len : nsIn K mainGlobals "len" = some none
  list : nsIn K mainGlobals "list" = some none
  sorted : nsIn K mainGlobals "sorted" = some none
  range : nsIn K mainGlobals "range" = some none
  type_ : nsIn K mainGlobals "type" = some none
  str_ : nsIn K mainGlobals "str" = some none
  n1 : nsIn K mainGlobals "_name_disallowed_re" = some (some (.ref pn))
  n2 : nsIn K mainGlobals "_value_disallowed_re" = some (some (.ref pv))
  p1 : patIn K pn = some nameCode
  p2 : patIn K pv = some valCode
theorem g1_of {K : Frag} {H0 : Heap} {mg mb : Str → Option Value} {pn pv : Addr} (k : NamesK K pn pv) (X : K.In H0) (gns : H0.Ns mainGlobals mg) (bns : H0.Ns builtinsNs mb) (nl : H0.NoLimit) (hb : ∀ x : Str, x ≠ "__name__" → mb x = bootBuiltins x) : Ground1 mg mb H0 where
  g := gns
  b := bns
  nolimit := nl
  len := ⟨ns_none_of X gns k.len, (hb _ (by decide +kernel)).trans (by kernel_rfl)⟩
  list := ⟨ns_none_of X gns k.list, (hb _ (by decide +kernel)).trans (by kernel_rfl)⟩
  sorted := ⟨ns_none_of X gns k.sorted, (hb _ (by decide +kernel)).trans (by kernel_rfl)⟩
  range := ⟨ns_none_of X gns k.range, (hb _ (by decide +kernel)).trans (by kernel_rfl)⟩
  type_ := ⟨ns_none_of X gns k.type_, (hb _ (by decide +kernel)).trans (by kernel_rfl)⟩
  str_ := ⟨ns_none_of X gns k.str_, (hb _ (by decide +kernel)).trans (by kernel_rfl)⟩
  pats := ⟨pn, pv, mg_of X gns k.n1, mg_of X gns k.n2, patAt_K X k.p1, patAt_K X k.p2⟩

structure ClassK (K : Frag) (Ca fc fi T : Addr) : Prop where
  ga : findIn K (.ref Ca) "__getattribute__" = some (some (.builtin "object.__getattribute__"))
  gattr : findIn K (.ref Ca) "__getattr__" = some none
  noseq : noSeq K Ca = true
  has1 : clsIn K Ca = some ((clsIn K Ca).getD default)
  has2 : ((clsIn K Ca).getD default).hasDict = true
  nofield : findIn K (.ref Ca) "_headers" = some none
  conv : MethK K Ca "_convert_string_type" fc fConv
  convB : ∀ self v b, bindArgs (fdOf K fc) ⟨[self, v], [("name", .bool b)]⟩ = pure [(("self" : Str), self), (("value" : Str), v), (("name" : Str), .bool b)]
  makes : makesIn K Ca = true
  init : findIn K (.ref Ca) "__init__" = some (some (.ref fi))
  ity : typeIn K (.ref fi) = some (.type "function")
  plain : plainOver K Ca = true
  taker : takerIn K Ca "_headers" = some none
  has : (clsIn K Ca).any (·.hasDict) = true
  setattr : findIn K (.ref Ca) "__setattr__" = some (some (.builtin "object.__setattr__"))
  initF : FunK K fi fInit
  dflt : (fdOf K fi).defaults = .ref T
  dat : K.lookup T = some { cls := .type "tuple", data := .seq #[.none] }
  initB1 : ∀ self v, ∃ k : Option (Array Value) → Sem (List (Str × Value)), bindArgs (fdOf K fi) ⟨[self, v], []⟩ = seqItems? (fdOf K fi).defaults >>= k ∧ k (some #[.none]) = pure [(("self" : Str), self), (("headers" : Str), v)]
  keep : keepIn K (.ref Ca) = true
  head : nsIn K mainGlobals "Headers" = some (some (.ref Ca))
structure MethsK (K : Frag) (Ca fd fg ft fs Tg : Addr) : Prop where
  del : MethK K Ca "__delitem__" fd fDel
  delB : ∀ v u, bindArgs (fdOf K fd) ⟨[v, u], []⟩ = pure [(("self" : Str), v), (("name" : Str), u)]
  get : MethK K Ca "get" fg fGet
  getD : (fdOf K fg).defaults = .ref Tg
  getT : K.lookup Tg = some { cls := .type "tuple", data := .seq #[.none] }
  getB : ∀ self v, ∃ k : Option (Array Value) → Sem (List (Str × Value)), bindArgs (fdOf K fg) ⟨[self, v], []⟩ = seqItems? (fdOf K fg).defaults >>= k ∧ k (some #[.none]) = pure [(("self" : Str), self), (("name" : Str), v), (("default" : Str), .none)]
  items : MethK K Ca "items" ft fItems
  itemsB : ∀ v, bindArgs (fdOf K ft) ⟨[v], []⟩ = pure [(("self" : Str), v)]
  sd : MethK K Ca "setdefault" fs fDef
  sdB : ∀ v u t, bindArgs (fdOf K fs) ⟨[v, u, t], []⟩ = pure [(("self" : Str), v), (("name" : Str), u), (("value" : Str), t)]

theorem topH_of {K : Frag} {H0 : Heap} {mg mb : Str → Option Value} {pn pv Ca fc fi T fd fg ft fs Tg : Addr} (kn : NamesK K pn pv) (kc : ClassK K Ca fc fi T) (km : MethsK K Ca fd fg ft fs Tg)
    (X : K.In H0) (gns : H0.Ns mainGlobals mg) (bns : H0.Ns builtinsNs mb) (nl : H0.NoLimit) (hb : ∀ x : Str, x ≠ "__name__" → mb x = bootBuiltins x) : TopH mg mb K H0 Ca where
  g1 := g1_of kn X gns bns nl hb
  cls := ⟨X, kc.ga, kc.gattr, kc.noseq⟩
  field := ⟨_, kc.has1, kc.has2⟩
  nofield := kc.nofield
  conv := by
    exact ⟨fc, kc.conv.at_ X (by decide +kernel), ⟨⟨fdOf K fc, funAt_K X kc.conv.fn.isf kc.conv.fn.code, (kc.conv.fn.plain (by decide +kernel)).fd, kc.conv.fn.sc.trans (by kernel_rfl), ⟨_, kc.conv.fn.body, conv_bodyF⟩, kc.convB⟩⟩⟩
  del := ⟨fd, km.del.at_ X (by decide +kernel), methFn1 X (km.del.fn.plain (by decide +kernel)) km.delB (by decide +kernel) (by decide +kernel) (by decide +kernel)⟩
  get := ⟨fg, km.get.at_ X (by decide +kernel), ⟨⟨fdOf K fg, funAt_K X km.get.fn.isf km.get.fn.code, (km.get.fn.plain (by decide +kernel)).fd, km.get.fn.sc, km.get.fn.body, fun s hst self vals h => by
    obtain ⟨v, rfl⟩ := List.length_eq_one_iff.mp h
    obtain ⟨k, h1, h2⟩ := km.getB self v
    exact binds_K (T := Tg) (o := { cls := .type "tuple", data := .seq #[.none] }) (items := #[.none]) (n := 0) (X.keeps hst) km.getD km.getT rfl h1 h2⟩, by decide +kernel, by decide +kernel, by decide +kernel⟩⟩
  items := ⟨ft, km.items.at_ X (by decide +kernel), methFn0 X (km.items.fn.plain (by decide +kernel)) km.itemsB (by decide +kernel) (by decide +kernel) (by decide +kernel)⟩
  sd := ⟨fs, km.sd.at_ X (by decide +kernel), methFn2 X (km.sd.fn.plain (by decide +kernel)) km.sdB (by decide +kernel) (by decide +kernel) (by decide +kernel)⟩
  init := by
    refine ⟨fi, ⟨kc.makes, kc.init, kc.ity, kc.plain, kc.taker, kc.has, kc.setattr⟩, ⟨⟨fdOf K fi, funAt_K X kc.initF.isf kc.initF.code, (kc.initF.plain (by decide +kernel)).fd, kc.initF.sc, ⟨_, kc.initF.body, init_bodyF⟩, fun s hst self v => ?_⟩, by decide +kernel, by decide +kernel, by decide +kernel, by kernel_rfl, by kernel_rfl⟩⟩
    obtain ⟨k, h1, h2⟩ := kc.initB1 self v
    exact binds_K (T := T) (o := { cls := .type "tuple", data := .seq #[.none] }) (items := #[.none]) (n := 0) (X.keeps hst) kc.dflt kc.dat rfl h1 h2
  keep := kc.keep
  head := mg_of X gns kc.head
end Mine

namespace Mine
open PySem PySem.Calls PySem.Spec PyProof.Rows PySem.W PySem.SeqAt

structure DefsK (K : Frag) (a1 a2 a3 a4 a5 a6 : Addr) : Prop where
  st : DefK K "_law_step" a1 fSt
  ho : DefK K "_law_holds" a2 fHo
  de : DefK K "_law_deeds" a3 fDe
  re : DefK K "_law_reached" a4 fRe
  pn : DefK K "_law_plane" a5 fPn
  law : DefK K "law" a6 fLaw
theorem law2_call {prog : Program} {w : World} {mg mb : Str → Option Value} {H0 : Heap} {K : Frag} {pn pv Ca fc fi T fd fg ft fs Tg a1 a2 a3 a4 a5 a6 : Addr} (X : K.In H0) (kn : NamesK K pn pv) (kc : ClassK K Ca fc fi T) (km : MethsK K Ca fd fg ft fs Tg) (kd : DefsK K a1 a2 a3 a4 a5 a6)
    (gns : H0.Ns mainGlobals mg) (bns : H0.Ns builtinsNs mb) (nl : H0.NoLimit) (hb : ∀ x : Str, x ≠ "__name__" → mb x = bootBuiltins x)
    {fa a : Addr} {ns : List Int} {as : List Addr} {s : Shared} {R : Result → Shared → Prop} (hmg : mg ("law" : Str) = some (.ref fa)) (hs : s.heap = H0) (hr : Reads s.heap (.ref a) (.list (ns.map .int)) as) (hn : ns.length ≤ 63) (q : ∀ h' tk, Stays s.heap h' → R (.ok (.ret (.bool true))) { s with heap := h', toks := tk }) :
    codeAny (model prog w) callerA (.call (.ref fa) ⟨[.ref a], []⟩) R s := by
  have t := topH_of kn kc km X gns bns nl hb
  obtain ⟨a', o, fd, e1, e2, e3, g⟩ := law_fn (prog := prog) (w := w) t (kd.st.def_ X gns) (kd.ho.def_ X gns) (kd.de.def_ X gns) (kd.re.def_ X gns) (kd.pn.def_ X gns) (kd.law.def_ X gns) ns hn
  rw [hmg] at e1
  cases e1
  refine g callerA s [.ref a] (as ++ []) R ⟨rfl, by decide +kernel, by decide +kernel⟩ (hs ▸ Stays.refl _) (.cons hr .nil) fun r h' tk bs st rd _ => ?_
  cases rd
  exact q h' tk st
end Mine

open PySem PySem.W PyProof.Rows
set_option maxRecDepth 100000 in
set_option maxHeartbeats 8000000 in
theorem PySem.Challenge.cw_pe0170_02_holds : PySem.Challenge.rw_pe0170_02.Holds := by
  w_on
  o_law
  k_head
  (case hw => w_witness2)
  w_strict (
    k_fill
    intro w s₀ s₁ mg mb G Y fa o pm cd doc dV kV ho hd hcd hD hmg hg args vals as hpre hlay hrd hwl hlo
    have KX := kIn_of Y
    refine Ground.open G ?_
    intro T B D TE TW
    wrow_args hpre hlay hrd hwl hlo
    all_goals (first | refine callC_kw (enter_call ?_) | refine enter_call ?_ | refine callC_kw (enter_callW ?_) | refine enter_callW ?_ )
    w_top on
    rename_i hlen _
    refine Mine.law2_call (pn := 43) (pv := 48) (Ca := 171) (fc := 70) (fi := 63) (T := 56) (fd := 89) (fg := 118) (ft := 135) (fs := 161) (Tg := 111) (a1 := 192) (a2 := 185) (a3 := 180) (a4 := 199) (a5 := 204) (a6 := 209) KX ?k1 ?k2 ?k3 ?k4 (Top.g T) (Top.b T) (Top.nolimit T) (Top.builtins T) hmg rfl (by assumption) (by omega) ?kq
    case k1 => exact ⟨by kernel_rfl, by kernel_rfl, by kernel_rfl, by kernel_rfl, by kernel_rfl, by kernel_rfl, by kernel_rfl, by kernel_rfl, by kernel_rfl, by kernel_rfl⟩
    case k2 =>
      exact ⟨by kernel_rfl, by kernel_rfl, by kernel_rfl, by kernel_rfl, by kernel_rfl, by kernel_rfl, ⟨by kernel_rfl, by kernel_rfl, ⟨by kernel_rfl, by kernel_rfl, by kernel_rfl, by kernel_rfl, by kernel_rfl, by kernel_rfl, by kernel_rfl⟩⟩, fun _ _ _ => by kernel_rfl,
        by kernel_rfl, by kernel_rfl, by kernel_rfl, by kernel_rfl, by kernel_rfl, by kernel_rfl, by kernel_rfl, ⟨by kernel_rfl, by kernel_rfl, by kernel_rfl, by kernel_rfl, by kernel_rfl, by kernel_rfl, by kernel_rfl⟩, by kernel_rfl, by kernel_rfl, fun _ _ => ⟨_, rfl, rfl⟩, by kernel_rfl, by kernel_rfl⟩
    case k3 =>
      exact ⟨⟨by kernel_rfl, by kernel_rfl, ⟨by kernel_rfl, by kernel_rfl, by kernel_rfl, by kernel_rfl, by kernel_rfl, by kernel_rfl, by kernel_rfl⟩⟩, fun _ _ => by kernel_rfl,
        ⟨by kernel_rfl, by kernel_rfl, ⟨by kernel_rfl, by kernel_rfl, by kernel_rfl, by kernel_rfl, by kernel_rfl, by kernel_rfl, by kernel_rfl⟩⟩, by kernel_rfl, by kernel_rfl, fun _ _ => ⟨_, rfl, rfl⟩,
        ⟨by kernel_rfl, by kernel_rfl, ⟨by kernel_rfl, by kernel_rfl, by kernel_rfl, by kernel_rfl, by kernel_rfl, by kernel_rfl, by kernel_rfl⟩⟩, fun _ => by kernel_rfl,
        ⟨by kernel_rfl, by kernel_rfl, ⟨by kernel_rfl, by kernel_rfl, by kernel_rfl, by kernel_rfl, by kernel_rfl, by kernel_rfl, by kernel_rfl⟩⟩, fun _ _ _ => by kernel_rfl⟩
    case k4 => exact ⟨⟨by kernel_rfl, by kernel_rfl, by kernel_rfl, by kernel_rfl⟩, ⟨by kernel_rfl, by kernel_rfl, by kernel_rfl, by kernel_rfl⟩, ⟨by kernel_rfl, by kernel_rfl, by kernel_rfl, by kernel_rfl⟩, ⟨by kernel_rfl, by kernel_rfl, by kernel_rfl, by kernel_rfl⟩, ⟨by kernel_rfl, by kernel_rfl, by kernel_rfl, by kernel_rfl⟩, ⟨by kernel_rfl, by kernel_rfl, by kernel_rfl, by kernel_rfl⟩⟩
    case kq =>
      intro h' tk st
      refine ⟨.inl ⟨.bool true, .bool true, [], rfl, ?_, .bool true, ?_, fun _ => ⟨.nil, fun _ m => nomatch m⟩⟩, .of_keep st, rfl, .of_eq hg⟩
      · exact fun _ => rfl
      · first | rfl | kernel_rfl)
