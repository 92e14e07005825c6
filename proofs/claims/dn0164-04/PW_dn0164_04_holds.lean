import PyProof.Rows.All
import Wide.All
import OpenK.AllK
import Wide.FinOn
import PySem.Challenge.RW_dn0164_04
open PySem PySem.W PyProof.Rows
set_option Elab.async false
set_option maxRecDepth 100000
set_option maxHeartbeats 1000000
section
open PySem PySem.W PyProof.Rows
namespace Mine

noncomputable abbrev Cel := Obj → Prop
noncomputable def Pt (h : Heap) (a : Addr) (c : Cel) : Prop := ∃ o, h.get? a = some o ∧ c o
noncomputable abbrev Cels := List (Addr × Cel)

theorem Pt.keep {h h' : Heap} {a : Addr} {c : Cel} (p : Pt h a c) (k : ∀ o, h.get? a = some o → h'.get? a = some o) : Pt h' a c :=
  let ⟨o, e, q⟩ := p; ⟨o, k o e, q⟩
theorem Pt.lt {h : Heap} {a : Addr} {c : Cel} (p : Pt h a c) : a < h.objs.size := let ⟨_, e, _⟩ := p; Heap.lt_size e

/-- a list object -/
noncomputable def lstP (vs : List Value) : Cel := fun o => ∃ n, o = ⟨.type "list", none, .seq vs.toArray n, #[]⟩
/-- a tuple object -/
noncomputable def tupP (vs : List Value) : Cel := fun o => ∃ n, o = ⟨.type "tuple", none, .seq vs.toArray n, #[]⟩
/-- a namespace -/
noncomputable def nsP (m : Str → Option Value) : Cel := fun o => ∃ es ep, o.data = .dict es ep ∧ StrKeys es ∧ ∀ name, nsFind es name = m name
/-- a list iterator at place i -/
noncomputable def litP (l : Addr) (i : Nat) : Cel := fun o => o.cls = .type "list_iterator" ∧ o.data = .fields #[.ref l, .int i 0]
/-- a list iterator that is used up -/
noncomputable def lendP : Cel := fun o => o.cls = .type "list_iterator" ∧ ∃ v, o.data = .fields #[.none, v]
/-- a generator object with the number g -/
noncomputable def genP (g : Nat) : Cel := fun o => ∃ nm qn, o.cls = .type "generator" ∧ o.data = .fields #[.int g 0, nm, qn] ∧ o.slots = #[]
/-- an exactly known object -/
noncomputable def isP (o₀ : Obj) : Cel := fun o => o = o₀

theorem Pt.lst {h : Heap} {a : Addr} {vs : List Value} (p : Pt h a (lstP vs)) : h.IsList a vs.toArray := let ⟨o, e, n, q⟩ := p; ⟨o, e, by rw [q], n, by rw [q]⟩
theorem Pt.lstN {h : Heap} {a : Addr} {vs : List Value} (p : Pt h a (lstP vs)) : h.NoDictAt (.ref a) := let ⟨o, e, n, q⟩ := p; ⟨o, e, by rw [q]⟩
theorem Pt.tup {h : Heap} {a : Addr} {vs : List Value} (p : Pt h a (tupP vs)) : h.IsTuple a vs.toArray := let ⟨o, e, n, q⟩ := p; ⟨o, e, by rw [q], n, by rw [q]⟩
theorem Pt.ns {h : Heap} {a : Addr} {m : Str → Option Value} (p : Pt h a (nsP m)) : h.Ns a m :=
  let ⟨o, e, es, ep, q⟩ := p; ⟨o, es, ep, e, q⟩
theorem Pt.ofNs {h : Heap} {a : Addr} {m : Str → Option Value} (p : h.Ns a m) : Pt h a (nsP m) :=
  let ⟨o, es, ep, e, q⟩ := p; ⟨o, e, es, ep, q⟩
theorem Pt.lit {h : Heap} {a l : Addr} {i : Nat} (p : Pt h a (litP l i)) : h.IsListIter a l i := p
theorem Pt.gen {h : Heap} {a : Addr} {g : Nat} (p : Pt h a (genP g)) : h.IsGen a g :=
  let ⟨o, e, nm, qn, q⟩ := p; ⟨o, nm, qn, e, q⟩
theorem Pt.is {h : Heap} {a : Addr} {o : Obj} (p : Pt h a (isP o)) : h.get? a = some o := let ⟨_, e, q⟩ := p; q ▸ e

/-- the heap: what stood at first stands; the cells are as said, each at its own place -/
structure Hp (h₁ : Heap) (cs : Cels) (h : Heap) : Prop where
  old : ∀ b o, h₁.get? b = some o → h.get? b = some o
  cel : ∀ p ∈ cs, Pt h p.1 p.2 ∧ h₁.get? p.1 = none
  nod : (cs.map (·.1)).Nodup

theorem Hp.get {h₁ h : Heap} {cs : Cels} {a : Addr} {c : Cel} (H : Hp h₁ cs h) (m : (a, c) ∈ cs) : Pt h a c := (H.cel _ m).1
theorem Hp.isNew {h₁ h : Heap} {cs : Cels} {a : Addr} {c : Cel} (H : Hp h₁ cs h) (m : (a, c) ∈ cs) : h₁.get? a = none := (H.cel _ m).2
theorem Hp.old_ne {h₁ h : Heap} {cs : Cels} {a b : Addr} {c : Cel} {o : Obj} (H : Hp h₁ cs h) (m : (a, c) ∈ cs) (e : h₁.get? b = some o) : b ≠ a := by
  rintro rfl; rw [H.isNew m] at e; cases e

theorem Hp.start {h₁ : Heap} : Hp h₁ [] h₁ := ⟨fun _ _ e => e, fun _ m => (nomatch m), .nil⟩

/-- objects are only added -/
theorem Hp.grow {h₁ h h' : Heap} {cs : Cels} (H : Hp h₁ cs h) (k : ∀ b o, h.get? b = some o → h'.get? b = some o) : Hp h₁ cs h' :=
  ⟨fun b o e => k b o (H.old b o e), fun p m => ⟨(H.cel p m).1.keep fun o e => k _ o e, (H.cel p m).2⟩, H.nod⟩

/-- a new cell -/
theorem Hp.newN {h₁ h h' : Heap} {cs : Cels} {a : Addr} {c : Cel} (H : Hp h₁ cs h) (k : ∀ b o, h.get? b = some o → h'.get? b = some o) (hp : Pt h' a c) (hn : h.get? a = none) : Hp h₁ ((a, c) :: cs) h' := by
  have H' := H.grow k
  refine ⟨H'.old, fun p m => ?_, ?_⟩
  · rcases List.mem_cons.mp m with rfl | m
    · refine ⟨hp, ?_⟩
      cases q : h₁.get? a with
      | none => rfl
      | some o => rw [H.old _ _ q] at hn; cases hn
    · exact H'.cel p m
  · rw [List.map_cons, List.nodup_cons]
    refine ⟨fun m => ?_, H.nod⟩
    obtain ⟨p, mp, e⟩ := List.mem_map.mp m
    obtain ⟨o, ho, _⟩ := (H.cel p mp).1
    have e' : p.1 = a := e
    rw [e', hn] at ho; cases ho
theorem Hp.new {h₁ h h' : Heap} {cs : Cels} {a : Addr} {c : Cel} (H : Hp h₁ cs h) (k : ∀ b o, h.get? b = some o → h'.get? b = some o) (hp : Pt h' a c) (hn : h.objs.size ≤ a) : Hp h₁ ((a, c) :: cs) h' :=
  H.newN k hp (Heap.get?_none_of_le hn)
theorem Hp.push {h₁ h : Heap} {cs : Cels} {c : Cel} {o : Obj} (H : Hp h₁ cs h) (hf : o.isFreed = false) (hc : c o) : Hp h₁ ((h.objs.size, c) :: cs) (h.push o) :=
  H.new (fun _ _ e => Heap.get?_push_of_some _ e) ⟨o, Heap.get?_push_size _ hf, hc⟩ (Nat.le_refl _)

/-- one cell is replaced -/
inductive Upd (a : Addr) (c c' : Cel) : Cels → Cels → Prop
  | here {r} : Upd a c c' ((a, c) :: r) ((a, c') :: r)
  | there {p r r'} : Upd a c c' r r' → Upd a c c' (p :: r) (p :: r')
theorem Upd.map {a : Addr} {c c' : Cel} {l l' : Cels} (u : Upd a c c' l l') : l'.map (·.1) = l.map (·.1) := by
  induction u with
  | here => rfl
  | there _ ih => simp only [List.map_cons, ih]
theorem Upd.mem {a : Addr} {c c' : Cel} {l l' : Cels} (u : Upd a c c' l l') : (a, c) ∈ l := by
  induction u with
  | here => exact .head _
  | there _ ih => exact .tail _ ih
theorem Upd.keep {a : Addr} {c c' : Cel} {l l' : Cels} (u : Upd a c c' l l') {p : Addr × Cel} (m : p ∈ l) (hn : p.1 ≠ a) : p ∈ l' := by
  induction u with
  | here => rcases List.mem_cons.mp m with rfl | m; exact absurd rfl hn; exact .tail _ m
  | there _ ih => rcases List.mem_cons.mp m with rfl | m; exact .head _; exact .tail _ (ih m)
theorem Upd.from {a : Addr} {c c' : Cel} {l l' : Cels} (u : Upd a c c' l l') (nd : (l.map (·.1)).Nodup) {p : Addr × Cel} (m : p ∈ l') : p = (a, c') ∨ (p ∈ l ∧ p.1 ≠ a) := by
  induction u with
  | here =>
    rcases List.mem_cons.mp m with rfl | m
    · exact .inl rfl
    · refine .inr ⟨.tail _ m, fun e => ?_⟩
      rw [List.map_cons, List.nodup_cons] at nd
      exact nd.1 (List.mem_map.mpr ⟨p, m, e⟩)
  | @there q r r' u' ih =>
    rw [List.map_cons, List.nodup_cons] at nd
    rcases List.mem_cons.mp m with rfl | m
    · refine .inr ⟨.head _, fun e => nd.1 (List.mem_map.mpr ⟨(a, c), u'.mem, e.symm⟩)⟩
    · rcases ih nd.2 m with h | ⟨h, g⟩
      · exact .inl h
      · exact .inr ⟨.tail _ h, g⟩
theorem Hp.chg {h₁ h h' : Heap} {cs cs' : Cels} {a : Addr} {c c' : Cel} (H : Hp h₁ cs h) (u : Upd a c c' cs cs') (k : ∀ b o, b ≠ a → h.get? b = some o → h'.get? b = some o) (hp : Pt h' a c') : Hp h₁ cs' h' := by
  refine ⟨fun b o e => k b o (H.old_ne u.mem e) (H.old b o e), fun p m => ?_, by rw [u.map]; exact H.nod⟩
  rcases u.from H.nod m with rfl | ⟨m, hn⟩
  · exact ⟨hp, H.isNew u.mem⟩
  · exact ⟨(H.cel p m).1.keep fun o e => k _ o hn e, (H.cel p m).2⟩
theorem Hp.chgS {h₁ h h' : Heap} {cs cs' : Cels} {a : Addr} {c c' : Cel} (H : Hp h₁ cs h) (u : Upd a c c' cs cs') (k : Heap.SameBut a h h') (hp : Pt h' a c') : Hp h₁ cs' h' :=
  H.chg u (fun b o hb e => k.extBut b o hb e) hp
/-- cells may be forgotten, and told in another order -/
theorem Hp.sub {h₁ h : Heap} {cs cs' : Cels} (H : Hp h₁ cs h) (s : cs'.Sublist cs) : Hp h₁ cs' h :=
  ⟨H.old, fun p m => H.cel p (s.subset m), (s.map _).nodup H.nod⟩
theorem Hp.drop {h₁ h : Heap} {cs : Cels} {p : Addr × Cel} (H : Hp h₁ (p :: cs) h) : Hp h₁ cs h := H.sub (List.sublist_cons_self ..)
theorem Hp.perm {h₁ h : Heap} {cs cs' : Cels} (H : Hp h₁ cs h) (s : cs.Perm cs') : Hp h₁ cs' h :=
  ⟨H.old, fun p m => H.cel p (s.mem_iff.mpr m), (s.map (·.1)).nodup H.nod⟩
/-- another word for a cell -/
theorem Hp.weak {h₁ h : Heap} {cs cs' : Cels} {a : Addr} {c c' : Cel} (H : Hp h₁ cs h) (u : Upd a c c' cs cs') (i : ∀ o, c o → c' o) : Hp h₁ cs' h :=
  H.chg u (fun _ _ _ e => e) (let ⟨o, e, q⟩ := H.get u.mem; ⟨o, e, i o q⟩)

/-- the whole state -/
structure Sh (h₁ : Heap) (os : OsState) (cs : Cels) (G : Array GenState) (s : Shared) : Prop where
  hp : Hp h₁ cs s.heap
  gens : s.gens = G
  os : s.os = os

section
variable {h₁ : Heap} {os : OsState} {cs cs' : Cels} {G : Array GenState} {s : Shared}
theorem Sh.toks (B : Sh h₁ os cs G s) (t : Nat) : Sh h₁ os cs G { s with toks := t } := ⟨B.hp, B.gens, B.os⟩
theorem Sh.heap {h : Heap} (B : Sh h₁ os cs G s) (H : Hp h₁ cs' h) (t : Nat) : Sh h₁ os cs' G { s with heap := h, toks := t } := ⟨H, B.gens, B.os⟩
theorem Sh.heap' {h : Heap} (B : Sh h₁ os cs G s) (H : Hp h₁ cs' h) : Sh h₁ os cs' G { s with heap := h } := ⟨H, B.gens, B.os⟩
theorem Sh.sub (B : Sh h₁ os cs G s) (u : cs'.Sublist cs) : Sh h₁ os cs' G s := ⟨B.hp.sub u, B.gens, B.os⟩
theorem Sh.drop {p : Addr × Cel} (B : Sh h₁ os (p :: cs) G s) : Sh h₁ os cs G s := ⟨B.hp.drop, B.gens, B.os⟩
theorem Sh.perm (B : Sh h₁ os cs G s) (u : cs.Perm cs') : Sh h₁ os cs' G s := ⟨B.hp.perm u, B.gens, B.os⟩
theorem Sh.get {a : Addr} {c : Cel} (B : Sh h₁ os cs G s) (m : (a, c) ∈ cs) : Pt s.heap a c := B.hp.get m
end

end Mine
end
section
open PySem PySem.W PyProof.Rows
namespace Mine

section
variable {prog : Program} {w : World} {A : Around} {E : Value → Shared → Prop} {s : Shared} {h₁ : Heap} {os : OsState} {cs r r' : Cels} {G : Array GenState}
  {name : Str} {sc : Scope} {L f : Addr} {cd : Value} {m m' mg mb : Str → Option Value}

/-- a local name -/
theorem r_ld {M : Model} {x : Str} {pos : Pos} {v : Value} {Q : Value → Shared → Prop} (B : Sh h₁ os ((L, nsP m) :: r) G s) (hv : m x = some v) (h : Q v s)
    (hk : sc.kind = .function := by first | rfl | decide +kernel) (hl : sc.names.lookup x = some .local := by first | rfl | decide +kernel) (hd : (x == ("__debug__" : Str)) = false := by decide +kernel) :
    wpAny M A (eval (.Name x pos) (envOf name sc L f cd)) Q E s :=
  wpAny_Name (wpAny_loadName_local hk hl (B.get (.head _)).ns hv h) hd
/-- a name of the module -/
theorem r_gl {M : Model} {x : Str} {pos : Pos} {v : Value} {Q : Value → Shared → Prop} (B : Sh h₁ os cs G s) (hg : h₁.Ns mainGlobals mg) (hv : mg x = some v) (h : Q v s)
    (hk : sc.kind = .function := by first | rfl | decide +kernel) (hl : sc.names.lookup x = some .globalImplicit := by first | rfl | decide +kernel) (hd : (x == ("__debug__" : Str)) = false := by decide +kernel) :
    wpAny M A (eval (.Name x pos) (envOf name sc L f cd)) Q E s :=
  Calls.Name_function_global hk hl (Calls.loadGlobal_global (env := envOf name sc L f cd) (hg.keeps B.hp.old) hv h) hd
/-- a built-in's name -/
theorem r_bi {M : Model} {x : Str} {pos : Pos} {v : Value} {Q : Value → Shared → Prop} (B : Sh h₁ os cs G s) (hg : h₁.Ns mainGlobals mg) (hn : mg x = none) (hb : h₁.Ns builtinsNs mb) (hv : mb x = some v) (h : Q v s)
    (hk : sc.kind = .function := by first | rfl | decide +kernel) (hl : sc.names.lookup x = some .globalImplicit := by first | rfl | decide +kernel) (hd : (x == ("__debug__" : Str)) = false := by decide +kernel) :
    wpAny M A (eval (.Name x pos) (envOf name sc L f cd)) Q E s :=
  Calls.Name_function_global hk hl (Calls.loadGlobal_builtin (env := envOf name sc L f cd) (hg.keeps B.hp.old) hn (hb.keeps B.hp.old) hv h) hd
/-- a local name is stored -/
theorem r_st {M : Model} {x : Str} {v : Value} {Q : Unit → Shared → Prop} (B : Sh h₁ os ((L, nsP m) :: r) G s) (hm : (fun y => if y = x then some v else m y) = m')
    (h : ∀ s', Sh h₁ os ((L, nsP m') :: r) G s' → Q () s')
    (hk : sc.kind = .function := by first | rfl | decide +kernel) (hl : sc.names.lookup x = some .local := by first | rfl | decide +kernel) :
    wpAny M A (storeName (envOf name sc L f cd) x v) Q E s :=
  wpAny_storeName_local hl (B.get (.head _)).ns (fun h' hn hs => h _ (B.heap (B.hp.chgS .here hs (hm ▸ Pt.ofNs hn)) _))
    (by show (sc.kind == .class || (sc.kind == .module && L != mainGlobals)) = false; rw [hk]; rfl)

theorem r_int {M : Model} {env : Env} {i : Int} {k : Nat} {pos : Pos} {Q : Value → Shared → Prop} (B : Sh h₁ os cs G s) (h : ∀ t s', Sh h₁ os cs G s' → Q (.int i t) s') :
    wpAny M A (eval (.Constant (.int i) k pos) env) Q E s := wpAny_Constant_int (h _ _ (B.toks _))
theorem r_str {M : Model} {env : Env} {x : Str} {k : Nat} {pos : Pos} {Q : Value → Shared → Prop} (B : Sh h₁ os cs G s) (h : ∀ t s', Sh h₁ os cs G s' → Q (.str x t) s') :
    wpAny M A (eval (.Constant (.str x) k pos) env) Q E s := Calls.Constant_str (h _ _ (B.toks _))
theorem r_bool {M : Model} {env : Env} {b : Bool} {k : Nat} {pos : Pos} {Q : Value → Shared → Prop} (h : Q (.bool b) s) : wpAny M A (eval (.Constant (.bool b) k pos) env) Q E s := fun _ _ _ => h
theorem r_none {M : Model} {env : Env} {k : Nat} {pos : Pos} {Q : Value → Shared → Prop} (h : Q .none s) : wpAny M A (eval (.Constant .none k pos) env) Q E s := fun _ _ _ => h

theorem r_add {a b : Int} {t u : Tok} {Q : Value → Shared → Prop} (B : Sh h₁ os cs G s) (h : ∀ t s', Sh h₁ os cs G s' → Q (.int (a + b) t) s') :
    wpAny (model prog w) A (binaryOp .Add (.int a t) (.int b u)) Q E s := add_int (h _ _ (B.toks _))
theorem r_sub {a b : Int} {t u : Tok} {Q : Value → Shared → Prop} (B : Sh h₁ os cs G s) (h : ∀ t s', Sh h₁ os cs G s' → Q (.int (a - b) t) s') :
    wpAny (model prog w) A (binaryOp .Sub (.int a t) (.int b u)) Q E s := sub_int (h _ _ (B.toks _))
theorem r_mod {a b : Int} {t u : Tok} {Q : Value → Shared → Prop} (B : Sh h₁ os cs G s) (hb : b ≠ 0) (h : ∀ t s', Sh h₁ os cs G s' → Q (.int (a.fmod b) t) s') :
    wpAny (model prog w) A (binaryOp .Mod (.int a t) (.int b u)) Q E s := mod_int' hb (h _ _ (B.toks _))
theorem r_abs {a : Int} {t : Tok} {Q : Value → Shared → Prop} (B : Sh h₁ os cs G s) (h : ∀ t s', Sh h₁ os cs G s' → Q (.int (if a < 0 then -a else a) t) s') :
    wpAny (model prog w) A (call (.builtin "abs") [.int a t]) Q E s := call_abs_int fun u tk => h u _ (B.toks tk)
theorem r_len {a : Addr} {vs : List Value} {Q : Value → Shared → Prop} (B : Sh h₁ os cs G s) (i : (a, lstP vs) ∈ cs) (hz : vs.length < 2 ^ 63) (h : ∀ t s', Sh h₁ os cs G s' → Q (.int vs.length t) s') :
    wpAny (model prog w) A (call (.builtin "len") [.ref a]) Q E s :=
  len_list (B.get i).lst (by simpa using (by exact_mod_cast hz : ((vs.length : Nat) : Int) < 2 ^ 63)) (by rw [List.size_toArray]; exact h _ _ (B.toks _))
theorem r_newList {M : Model} {vs : List Value} {Q : Value → Shared → Prop} (B : Sh h₁ os ((L, nsP m) :: r) G s) (h : ∀ a s', Sh h₁ os ((L, nsP m) :: (a, lstP vs) :: r) G s' → Q (.ref a) s') (hz : vs.length ≤ sizeLine := by size_fits) :
    wpAny M A (newList vs) Q E s :=
  wpAny_newList (h _ _ ((B.heap' (B.hp.push rfl ⟨0, rfl⟩)).perm (.swap ..))) hz
theorem r_newTuple {M : Model} {vs : List Value} {Q : Value → Shared → Prop} (B : Sh h₁ os ((L, nsP m) :: r) G s) (h : ∀ a s', Sh h₁ os ((L, nsP m) :: (a, tupP vs) :: r) G s' → Q (.ref a) s') (hz : vs.length ≤ sizeLine := by size_fits) :
    wpAny M A (newTuple vs) Q E s :=
  wpAny_newTuple (h _ _ ((B.heap' (B.hp.push rfl ⟨0, rfl⟩)).perm (.swap ..))) hz
theorem r_getItem {a : Addr} {vs : List Value} {k : Int} {t : Tok} {x : Value} {Q : Value → Shared → Prop} (B : Sh h₁ os cs G s) (i : (a, lstP vs) ∈ cs) (h0 : 0 ≤ k) (hk : k < 2 ^ 63) (hx : vs[k.toNat]? = some x) (h : Q x s) :
    wpAny (model prog w) A (getItem (.ref a) (.int k t)) Q E s := getItem_listL (B.get i).lst h0 hk hx h
theorem r_item {value slice : PySem.Expr} {a : Addr} {vs : List Value} {k : Int} {t : Tok} {x : Value} {Q : Value → Shared → Prop} (B : Sh h₁ os cs G s) (i : (a, lstP vs) ∈ cs) (h0 : 0 ≤ k) (hk : k < 2 ^ 63) (hx : vs[k.toNat]? = some x) (h : Q x s)
    (hs : subscripted slice false (.ref a) (.int k t) = operate [.ref a, .int k t] (getItem (.ref a) (.int k t)) := by with_unfolding_all rfl) :
    wpAny (model prog w) A (subscriptTail value slice (.ref a) (.int k t)) Q E s :=
  tail_any (B.get i).lst.typeIs slot_list_getitem.lookup (r_getItem B i h0 hk hx h) hs
theorem r_append {a : Addr} {vs : List Value} {x : Value} {Q : Value → Shared → Prop} (B : Sh h₁ os cs G s) (u : Upd a (lstP vs) (lstP (vs ++ [x])) cs r) (hz : vs.length ≤ sizeLine) (h : ∀ s', Sh h₁ os r G s' → Q .none s') :
    wpAny (model prog w) A (call (.builtin "list.append") [.ref a, x]) Q E s := by
  have hl := (B.get u.mem).lst
  obtain ⟨o, ho, n, rfl⟩ := B.get u.mem
  refine wpAny_call_entry slot_list_append hl.typeIs entry_list_append ?_ (args_list_append _ _)
  show wpAny _ _ (updateSeq a (·.push x) >>= fun _ => ret .none) _ _ s
  refine wpAny_bind (wpAny_updateSeq ho rfl (wpAny_pure ⟨.none, rfl, h _ (B.heap' (B.hp.chgS u (Heap.SameBut.update ..) ⟨_, Heap.get?_update_self _ ho rfl, ?_⟩))⟩) (by simpa using hz) (by simp; omega))
  exact ⟨_, by simp only [Obj.mapSeq, List.push_toArray]; rfl⟩
theorem r_setItem {a : Addr} {vs : List Value} {k : Int} {t : Tok} {x : Value} {Q : Unit → Shared → Prop} (B : Sh h₁ os cs G s) (u : Upd a (lstP vs) (lstP (vs.set k.toNat x)) cs r) (h0 : 0 ≤ k) (hk : k < 2 ^ 63) (hz : k < vs.length)
    (h : ∀ s', Sh h₁ os r G s' → Q () s') : wpAny (model prog w) A (setItem (.ref a) (.int k t) x) Q E s := by
  have hl := (B.get u.mem).lst
  obtain ⟨o, ho, n, rfl⟩ := B.get u.mem
  unfold setItem
  try with_reducible refine wpAny_holding ?_
  first | refine wpAny_bind (wpAny_pure ?_) | skip
  refine wpAny_bind (wpAny_sequenceKey hl.typeIs (by decide) ?_)
  refine wpAny_bind (wpAny_callSpecial?_slot (name := Str.ofString "__setitem__") hl.typeIs slot_list_setitem
    (wpAny_call_entry slot_list_setitem hl.typeIs entry_list_setitem ?_ (args_list_setitem _ _ _)))
  show wpAny _ _ (Builtin.List.listSubscript? (.int k t) >>= _) _ _ s
  refine wpAny_bind (wpAny_listSubscript_int (fitsIndex_of h0 hk) ?_)
  obtain ⟨j, rfl⟩ := Int.eq_ofNat_of_zero_le h0
  have hj : j < vs.length := by omega
  show wpAny _ _ ((seqItemAt a j >>= fun r => pure (r.map (j, ·))) >>= _) _ _ s
  refine wpAny_bind (wpAny_bind (wpAny_seqItemAt ho rfl (wpAny_pure ?_)))
  rw [show vs.toArray[j]? = some vs[j] by simp [hj]]
  show wpAny _ _ (setSeqItemAt a j x >>= _) _ _ s
  refine wpAny_bind (wpAny_setSeqItemAt ho rfl ?_)
  have fin : Q () { s with heap := s.heap.update a (Obj.mapSeq (·.setIfInBounds j x)) } :=
    h _ (B.heap' (B.hp.chgS u (Heap.SameBut.update ..) ⟨_, Heap.get?_update_self _ ho rfl, _, by simp only [Obj.mapSeq, List.setIfInBounds_toArray]; rfl⟩))
  first
    | exact wpAny_bind (wpAny_pure (wpAny_pure ⟨.none, rfl, wpAny_pure fin⟩))
    | exact wpAny_pure ⟨.none, rfl, wpAny_pure fin⟩
end

/-- a plain def of the module -/
structure Fn (h₁ : Heap) (f : Addr) (name : Str) (pr : Arguments) (bd : List Stmt) (sc : Scope) (cd : Value) : Prop where
  ex : ∃ o pm doc, h₁.get? f = some o ∧ o.data = .func (Calls.docDef name pr bd sc pm cd doc)
  code : h₁.CodeRec cd name
  lim : h₁.NoLimit

theorem call_fn {prog : Program} {w : World} {A : Around} {R : Result → Shared → Prop} {s : Shared} {h₁ : Heap} {os : OsState} {cs : Cels} {G : Array GenState} {name : Str} {pr : Arguments} {bd : List Stmt} {sc : Scope} {f : Addr} {cd : Value}
    {args : List Value} {binds : List (Str × Value)} {m : Str → Option Value}
    (F : Fn h₁ f name pr bd sc cd) (B : Sh h₁ os cs G s) (hroom : A.depth < recursionLimit)
    (hbind : ∀ pm doc, bindArgs (Calls.docDef name pr bd sc pm cd doc) ⟨args, []⟩ = pure binds)
    (hloc : ∀ x ∈ binds, sc.names.lookup x.1 = some .local)
    (hm : (fun x => binds.reverse.lookup x) = m)
    (h : ∀ L s', Sh h₁ os ((L, nsP m) :: cs) G s' → wpAny (model prog w) (A.deeper (envOf name sc L f cd)) (execs bd (envOf name sc L f cd))
      (fun fl s'' => R (.ok (.ret (match fl with | .ret v => v | _ => .none))) s'')
      (fun e s'' => wpAny (model prog w) (A.deeper (envOf name sc L f cd)) (leaving (envOf name sc L f cd) e) (fun _ s₃ => R (.error e) s₃) (fun e' s₃ => R (.error e') s₃) s'') s')
    (hco : sc.isCoroutine = false) (hgen : sc.isGenerator = false) (hk : sc.kind = .function)
    (hcell : ∀ x ∈ sc.names, x.2 ≠ .cell) :
    codeAny (model prog w) A (.call (.ref f) ⟨args, []⟩) R s := by
  obtain ⟨o, pm, doc, ho, hd⟩ := F.ex
  refine call_plain hroom (B.hp.old _ _ ho) hd (F.lim.keeps B.hp.old) (F.code.keeps B.hp.old) (hbind pm doc) hloc (fun h' F' => h _ _ ?_) hco hgen hk hcell
  exact B.heap (B.hp.new F'.keep (hm ▸ Pt.ofNs F'.ns) (Nat.le_refl _)) _
end Mine
end
section
open PySem PySem.W PyProof.Rows
namespace Mine
/-- a frame's names, the newest first -/
noncomputable def frm (l : List (Str × Value)) : Str → Option Value := fun y => l.lookup y
theorem frm_put (l : List (Str × Value)) (x : Str) (v : Value) : (fun y => if y = x then some v else frm l y) = frm ((x, v) :: l) := by
  funext y
  unfold frm
  rw [List.lookup_cons]
  by_cases h : y = x
  · subst h; simp
  · have : (y == x) = false := by simpa using h
    simp [h, this]
section
variable {prog : Program} {w : World} {A : Around} {E : Value → Shared → Prop} {s : Shared} {h₁ : Heap} {os : OsState} {cs r r' : Cels} {G : Array GenState}
  {name : Str} {sc : Scope} {L f : Addr} {cd : Value} {l : List (Str × Value)}
theorem r_set {M : Model} {x : Str} {v : Value} {Q : Unit → Shared → Prop} (B : Sh h₁ os ((L, nsP (frm l)) :: r) G s)
    (h : ∀ s', Sh h₁ os ((L, nsP (frm ((x, v) :: l))) :: r) G s' → Q () s')
    (hk : sc.kind = .function := by first | rfl | decide +kernel) (hl : sc.names.lookup x = some .local := by first | rfl | decide +kernel) :
    wpAny M A (storeName (envOf name sc L f cd) x v) Q E s := r_st B (frm_put ..) h hk hl
end
end Mine
namespace Mine
section
variable {prog : Program} {w : World} {A : Around} {E : Value → Shared → Prop} {s : Shared} {h₁ : Heap} {os : OsState} {cs r r' : Cels} {G : Array GenState}
  {L f : Addr} {cd : Value}
theorem Fn.fn {name : Str} {pr : Arguments} {bd : List Stmt} {sc : Scope} (F : Fn h₁ f name pr bd sc cd) : ∃ o fd, h₁.get? f = some o ∧ o.data = .func fd := let ⟨o, _, _, a, b⟩ := F.ex; ⟨o, _, a, b⟩
/-- a call of a def by its name -/
theorem r_callFn {M : Model} {env : Env} {pos : Pos} {e : PySem.Expr} {rest : List PySem.Expr} {Q : Value → Shared → Prop} (F : ∃ o fd, h₁.get? f = some o ∧ o.data = .func fd)
    (h : wpAny M A (spliced (backTo pos (starEach (e :: rest) env))) (fun vs s₁ => (∃ os cs G, Sh h₁ os cs G s₁) ∧ wpAny M A (call (.ref f) vs) Q E s₁) E s)
    (he : starEach (e :: rest) env = (false, eval e env) :: starEach rest env := by rfl) (hplain : (backTo pos (starEach rest env)).any (·.1) = false := by rfl) :
    wpAny M A (callWith pos (.ref f) [] (backTo pos (starEach (e :: rest) env)) []) Q E s := by
  obtain ⟨⟨c, d, dt, sl⟩, fd, ho, hd⟩ := F
  dsimp only at hd
  subst hd
  rw [he] at h ⊢
  refine callWith_of (P := fun h => h.get? f = some ⟨c, d, .func fd, sl⟩) (by show ((false || (backTo pos (starEach rest env)).any (·.1)) || false) = false; rw [hplain]; rfl)
    (fun h X => ⟨.frame, .inl rfl, (Looks.ld (part := none) X).andThen .now⟩) (PySem.Calls.evalArgs_plain (wpAny_mono h (fun vs s₁ h₁ => ?_) fun _ _ x => x))
  obtain ⟨⟨_, _, _, B⟩, h₁⟩ := h₁
  exact ⟨B.hp.old _ _ ho, h₁⟩
theorem r_strInt {a : Int} {t : Tok} {Q : Value → Shared → Prop} (B : Sh h₁ os cs G s) (ha : a.natAbs.log2 < 1920) (h : ∀ t s', Sh h₁ os cs G s' → Q (.str (toString a) t) s') :
    wpAny (model prog w) A (call (.type "str") [.int a t]) Q E s := P.str_of_int ha (h _ _ (B.toks _))
theorem r_neg {a : Int} {t : Tok} {Q : Value → Shared → Prop} (B : Sh h₁ os cs G s) (h : ∀ t s', Sh h₁ os cs G s' → Q (.int (-a) t) s') :
    wpAny (model prog w) A (unaryOp .USub (.int a t)) Q E s := neg_int (h _ _ (B.toks _))
end
/-- what the law's top has -/
structure Tp (glV biV : List (Str × Value)) (h₁ : Heap) (mg mb : Str → Option Value) : Prop where
  g : h₁.Ns mainGlobals mg
  b : h₁.Ns builtinsNs mb
  lim : h₁.NoLimit
  gl : ∀ x v, glV.lookup x = some v → mg x = some v
  bi : ∀ x v, biV.lookup x = some v → mg x = none ∧ mb x = some v
section
variable {M : Model} {A : Around} {E : Value → Shared → Prop} {s : Shared} {h₁ : Heap} {os : OsState} {cs : Cels} {G : Array GenState}
  {L f : Addr} {cd : Value} {name : Str} {sc : Scope} {glV biV : List (Str × Value)} {mg mb : Str → Option Value} {x : Str} {pos : Pos} {v : Value} {Q : Value → Shared → Prop}
theorem t_gl (T : Tp glV biV h₁ mg mb) (B : Sh h₁ os cs G s) (hv : glV.lookup x = some v) (hl : sc.names.lookup x = some .globalImplicit) (hk : sc.kind = .function) (hd : (x == ("__debug__" : Str)) = false) (h : Q v s) :
    wpAny M A (eval (.Name x pos) (envOf name sc L f cd)) Q E s := r_gl B T.g (T.gl x v hv) h hk hl hd
theorem t_bi (T : Tp glV biV h₁ mg mb) (B : Sh h₁ os cs G s) (hv : biV.lookup x = some v) (hl : sc.names.lookup x = some .globalImplicit) (hk : sc.kind = .function) (hd : (x == ("__debug__" : Str)) = false) (h : Q v s) :
    wpAny M A (eval (.Name x pos) (envOf name sc L f cd)) Q E s := r_bi B T.g (T.bi x v hv).1 T.b (T.bi x v hv).2 h hk hl hd
theorem t_ld {m : Str → Option Value} {r : Cels} (B : Sh h₁ os ((L, nsP m) :: r) G s) (hv : m x = some v) (hl : sc.names.lookup x = some .local) (hk : sc.kind = .function) (hd : (x == ("__debug__" : Str)) = false) (h : Q v s) :
    wpAny M A (eval (.Name x pos) (envOf name sc L f cd)) Q E s := r_ld B hv h hk hl hd
end
end Mine
end
section
open PySem PySem.W PyProof.Rows
open PySem.Sem (wp)
namespace Mine
variable {M : Model}

/-- a stretch of a generator's run, from a tree over frames to its next end -/
noncomputable def Sg (M : Model) (A : Around) (Φ : End → Shared → Prop) (c : Code) (t : Sem PySem.Fin) (fs : List Frame) (s : Shared) : Prop :=
  ∀ Γ p, Γ.code = c → Γ.Woken A → ∃ e s', Runs M Γ p t fs s e s' ∧ Φ e s'

section
variable {A : Around} {Φ : End → Shared → Prop} {c : Code} {fs : List Frame} {s : Shared}
theorem sg_wrap {α : Type} {m : Sem α} {K : α → Sem PySem.Fin} {H : Value → Sem PySem.Fin} {gd lv}
    (h : wpAny M (A.over c fs) m (fun a s' => Sg M A Φ c (K a) fs s') (fun x s' => Sg M A Φ c (H x) fs s') s) : Sg M A Φ c (m.wrap K H gd lv) fs s := by
  rintro Γ p rfl hΓ
  exact runs_wrap_of_wp K H gd lv m (h (Γ.over fs) p (hΓ.over fs)) (fun a p' s' h' => h' Γ p' rfl hΓ) (fun x p' s' h' => h' Γ p' rfl hΓ)
theorem sg_bw {α β : Type} {m : Sem α} {k : α → Sem β} {K : β → Sem PySem.Fin} {H : Value → Sem PySem.Fin} {gd lv}
    (h : wpAny M (A.over c fs) m (fun a s' => Sg M A Φ c ((k a).wrap K H gd lv) fs s') (fun x s' => Sg M A Φ c (H x) fs s') s) : Sg M A Φ c ((m >>= k).wrap K H gd lv) fs s := by
  rw [Sem.bind_eq_wrap', Sem.wrap_wrap]; exact sg_wrap h
theorem sg_bind {α : Type} {m : Sem α} {K : α → Sem PySem.Fin}
    (h : wpAny M (A.over c fs) m (fun a s' => Sg M A Φ c (K a) fs s') (fun x s' => Sg M A Φ c (.raise x) fs s') s) : Sg M A Φ c (m >>= K) fs s := by
  rw [Sem.bind_eq_wrap']; exact sg_wrap h
theorem sg_at {p' : Pos} {k : Unit → Sem PySem.Fin} (h : Sg M A Φ c (k ()) fs s) : Sg M A Φ c (.at p' k) fs s :=
  sg_wrap (m := standAt p') (K := k) (H := .raise) (gd := id) (lv := id) (wpAny_standAt h)
theorem sg_point {l : List Value} {k : Unit → Sem PySem.Fin} (h : Sg M A Φ c (k ()) fs s) : Sg M A Φ c (.point l k) fs s :=
  sg_wrap (m := point) (K := k) (H := .raise) (gd := id) (lv := fun _ => l) (wpAny_point h)
theorem sg_call {c' : Code} {h g l} {k : Result → Sem PySem.Fin} (hc : ∀ p, Sg M A Φ c' (M.den c') (.ret k h g l c p [] :: fs) s) : Sg M A Φ c (.call c' h g l k) fs s := by
  rintro Γ p rfl hΓ
  obtain ⟨e, s', hr, he⟩ := hc p (Γ.goto c') p rfl (hΓ.goto c')
  exact ⟨e, s', runs_call_seg hr, he⟩
theorem sg_leaf {k h g l c₁ p₁ kp} (r : Result) (hk : Sg M A Φ c₁ (k r) fs s) : Sg M A Φ c (leafOf r) (.ret k h g l c₁ p₁ kp :: fs) s := by
  rintro Γ p rfl hΓ
  obtain ⟨e, s', hr, he⟩ := hk (Γ.goto c₁) p₁ rfl (hΓ.goto c₁)
  exact ⟨e, s', Runs.pop r hr, he⟩
theorem sg_again {c' : Code} (hq : c'.quiet = true) (hc : Sg M A Φ c' (M.den c') fs s) : Sg M A Φ c (.pure (.again c')) fs s := by
  rintro Γ p rfl hΓ
  obtain ⟨e, s', hr, he⟩ := hc (Γ.goto c') p rfl (hΓ.goto c')
  exact ⟨e, s', Runs.head (c₁ := c') (fun _ _ x => .again hq x) hr, he⟩
theorem sg_end (r : Result) (h : Φ (.ret r) s) : Sg M A Φ c (leafOf r) [] s := by
  rintro Γ p rfl _
  exact ⟨.ret r, s, Runs.leaf r, h⟩
theorem sg_yield {v g l} {k : Resume → Sem PySem.Fin} (hfs : splitAtGen fs = none) (h : ∀ p, Φ (.susp v g l k c p fs) s) : Sg M A Φ c (.yield v g l k) fs s := by
  rintro Γ p rfl _
  exact ⟨_, s, Runs.yield' fs hfs, h p⟩
end

/-- a generator's state that will go on as the code c over the frames fs -/
noncomputable def Ready (M : Model) (c : Code) (fs : List Frame) (gs : GenState) : Prop :=
  ∃ k l p, gs = .suspended k l c p fs false ∧ ∀ A Φ s, Sg M A Φ c (M.den c) fs s → Sg M A Φ c (k (.send .none)) fs s

/-- what wakes it -/
noncomputable def Wk (M : Model) (A : Around) (Φ : End → Shared → Prop) (gs : GenState) (s : Shared) : Prop :=
  match gs with
  | .fresh c => Sg M A Φ c (M.den c) [] s
  | .suspended k _ c _ fs _ => Sg M A Φ c (k (.send .none)) fs s
  | _ => False
theorem Ready.wk {A : Around} {Φ : End → Shared → Prop} {c : Code} {fs : List Frame} {gs : GenState} {s : Shared} (R : Ready M c fs gs) (h : Sg M A Φ c (M.den c) fs s) : Wk M A Φ gs s := by
  obtain ⟨k, l, p, rfl, i⟩ := R
  exact i A Φ s h

theorem resume_wk {A : Around} {Φ : End → Shared → Prop} {E : Value → Shared → Prop} {s : Shared} {g : Nat} {gs : GenState} {l : List Value} {α : Type} {k : GenResult → Sem α} {Q : α → Shared → Prop} (hg : s.gens[g]? = some gs)
    (hw : Wk M A Φ gs (s.setGen g .running))
    (hΦ : ∀ e s₁, Φ e s₁ → e.quiet = true ∧ wpAny M A (k e.result) Q E (s₁.setGen g e.genState)) :
    wpAny M A (.resume g (.send .none) l k) Q E s := by
  intro Γ p hΓ
  rw [Sem.wp_resume]
  have hB : ∀ c, (Γ.wake c p).Woken A := fun c => hΓ.wake c p
  cases gs with
  | fresh c =>
    obtain ⟨e, s₁, hr, he⟩ := hw (Γ.wake c p) p rfl (hB c)
    exact ⟨_, _, by unfold Wakes; rw [hg]; exact ⟨e, s₁, hr, (hΦ e s₁ he).1, rfl, rfl⟩, (hΦ e s₁ he).2 Γ p hΓ⟩
  | suspended k₀ l₀ c₀ p₀ fs₀ cl =>
    obtain ⟨e, s₁, hr, he⟩ := hw (Γ.wake c₀ p) p₀ rfl (hB c₀)
    exact ⟨_, _, by unfold Wakes; rw [hg]; exact ⟨e, s₁, hr, (hΦ e s₁ he).1, rfl, rfl⟩, (hΦ e s₁ he).2 Γ p hΓ⟩
  | running => exact hw.elim
  | finished => exact hw.elim

end Mine
end
section
open PySem PySem.W PyProof.Rows
namespace Mine

section
variable {prog : Program} {w : World} {A : Around} {Φ : End → Shared → Prop} {fs : List Frame} {s : Shared} {env : Env} {c : Code}
  {K : Flow → Sem PySem.Fin} {H : Value → Sem PySem.Fin} {gd : Bool → Bool} {lv : List Value → List Value}

theorem sg_execs_cons {M : Model} {st : Stmt} {rest : List Stmt}
    (h : Sg M A Φ c ((exec st env).wrap (fun f => match f with | .next => (execs rest env).wrap K H gd lv | f => K f) H gd lv) fs s) :
    Sg M A Φ c ((execs (st :: rest) env).wrap K H gd lv) fs s := by rw [execs_cons_wrap]; exact h

/-- what an error does on its way out of a loop of the frame -/
noncomputable def outLoop (env : Env) (e : Value) : Sem PySem.Fin := Sem.bind (do noteFrame e env; theTreesLotGoes e : Sem Unit) fun _ => .raise e
/-- the frame that a loop's call leaves behind -/
noncomputable def loopK (env : Env) (K : Flow → Sem PySem.Fin) (H : Value → Sem PySem.Fin) (gd : Bool → Bool) (lv : List Value → List Value) : Result → Sem PySem.Fin := fun r =>
  ((match r with | .ok f => (.pure f : Sem Flow) | .error e => .raise e).onRaise fun (x : Value) => do
    if (← field x 1) == Value.none then unsupported "frame.own-activation:exception-without-traceback"
    setFlight x env.frame).wrap K H gd lv

theorem sg_For {M : Model} {target iter : PySem.Expr} {body orelse : List Stmt} {pos : Pos}
    (h : wpAny M (A.over c fs) (eval iter env) (fun x s₁ => wpAny M (A.over c fs) (pyIter x) (fun it s₂ =>
      ∀ p, Sg M A Φ (.forLoop target it body orelse env) (M.den (.forLoop target it body orelse env)) (.ret (loopK env K H gd lv) none (gd false) (lv []) c p [] :: fs) s₂)
      (fun e s₂ => Sg M A Φ c (H e) fs s₂) s₁) (fun e s₁ => Sg M A Φ c (H e) fs s₁) s)
    (hs : ∀ x, foldedSetIterable iter env x = pure x := by intro _; rfl) :
    Sg M A Φ c ((exec (.For target iter body orelse pos) env).wrap K H gd lv) fs s := by
  rw [exec_For]
  refine sg_bw (wpAny_standAt (sg_bw (wpAny_mono h (fun x s₁ h₁ => sg_bw (wpAny_of_eq (hs x) (sg_bw (wpAny_standAt (sg_bw (wpAny_holding (wpAny_mono h₁ (fun it s₂ h₂ => ?_) fun _ _ e => e))))))) fun _ _ e => e)))
  exact sg_call h₂

theorem sg_forLoop {x : Str} {px : Pos} {it : Value} {body orelse : List Stmt}
    (h : wpAny (model prog w) (A.over (.forLoop (.Name x px) it body orelse env) fs) (pyNext it) (fun r s₁ => match r with
      | none => Sg (model prog w) A Φ (.forLoop (.Name x px) it body orelse env) (.pure (.again (.block orelse env))) fs s₁
      | some v => wpAny (model prog w) (A.over (.forLoop (.Name x px) it body orelse env) fs) (storeName env x v) (fun _ s₂ =>
          Sg (model prog w) A Φ (.forLoop (.Name x px) it body orelse env) ((execs body env).wrap (fun f => match f with
            | .next | .cont => .pure (.again (.forLoop (.Name x px) it body orelse env))
            | .brk => .pure (.done .next)
            | .ret v => .pure (.done (.ret v))) (outLoop env) id id) fs s₂)
          (fun e s₂ => Sg (model prog w) A Φ (.forLoop (.Name x px) it body orelse env) (outLoop env e) fs s₂) s₁)
      (fun e s₁ => Sg (model prog w) A Φ (.forLoop (.Name x px) it body orelse env) (outLoop env e) fs s₁) s) :
    Sg (model prog w) A Φ (.forLoop (.Name x px) it body orelse env) ((model prog w).den (.forLoop (.Name x px) it body orelse env)) fs s := by
  show Sg _ A Φ _ ((forTurn (.Name x px) it body orelse env).onRaise (fun x => do noteFrame x env; theTreesLotGoes x)) fs s
  unfold forTurn
  rw [Sem.onRaise_eq_wrap]
  refine sg_bw (wpAny_standAt (sg_bw (wpAny_onRaise (wpAny_mono h (fun r s₁ h₁ => ?_) fun e s₁ h₁ => wpAny_standAt h₁))))
  cases r with
  | none => exact h₁
  | some v =>
    refine sg_bw (wpAny_of_eq (a := ()) rfl (sg_bw (wpAny_assign_Name (wpAny_mono h₁ (fun _ s₂ h₂ => ?_) fun _ _ e => e))))
    rw [Sem.bind_eq_wrap', Sem.wrap_wrap]
    refine (Sem.wrap_congr (execs body env) _ _ (fun f => ?_) fun e => rfl) ▸ h₂
    cases f <;> rfl

theorem sg_func {body : List Stmt}
    (h : Sg (model prog w) A Φ (.func body env) ((execs body env).wrap (fun f => .pure (.done (.ret (match f with | .ret v => v | _ => .none))))
      (fun e => (leaving env e).wrap (fun _ => .raise e) .raise id id) id id) fs s) :
    Sg (model prog w) A Φ (.func body env) ((model prog w).den (.func body env)) fs s := by
  show Sg _ A Φ _ (.point [] fun _ => ((execs body env).onRaise (leaving env)) >>= _) fs s
  refine sg_point ?_
  rw [Sem.onRaise_eq_wrap, Sem.bind_eq_wrap', Sem.wrap_wrap]
  rw [Sem.wrap_congr (execs body env) _ _ (K' := fun f => .pure (.done (.ret (match f with | .ret v => v | _ => .none))))
    (H' := fun e => (leaving env e).wrap (fun _ => .raise e) .raise id id) (fun f => by cases f <;> rfl)
    (fun e => by rw [Sem.bind_eq_wrap, Sem.wrap_wrap]; rfl)]
  exact h

/-- a yield as a statement, at the end of the loop's body -/
theorem sg_Yield {M : Model} {e : PySem.Expr} {ypos pos : Pos} (hfs : splitAtGen fs = none) (hgd : gd false = false)
    (h : wpAny M (A.over c fs) (eval e env) (fun v s' => ∀ l k p, (∀ A Φ s'', Sg M A Φ c (K .next) fs s'' → Sg M A Φ c (k (.send .none)) fs s'') → Φ (.susp v false l k c p fs) s')
      (fun x s' => Sg M A Φ c (H x) fs s') s) (hco : env.scope.isCoroutine = false := by rfl) (hi : interactive env = false := by rfl) :
    Sg M A Φ c ((exec (.Expr (.Yield (some e) ypos) pos) env).wrap K H gd lv) fs s := by
  rw [exec_Expr env _ pos hi rfl]
  have hy : ∀ v, yieldOut env v = yieldValue v := fun v => by simp only [yieldOut, hco, Bool.false_eq_true, if_false]
  show Sg M A Φ c (.at pos fun _ => ((eval e env >>= fun v => (standAt ypos >>= fun _ => yieldOut env v)) >>= fun x =>
    dropValue (.Yield (some e) ypos) pos x).wrap K H gd lv) fs s
  simp only [hy]
  refine sg_at ?_
  rw [Sem.bind_eq_wrap', Sem.bind_eq_wrap', Sem.wrap_wrap, Sem.wrap_wrap]
  refine sg_wrap (wpAny_mono h (fun v s' h' => ?_) fun _ _ x => x)
  refine sg_at (sg_yield hfs fun p => ?_)
  rw [show ((fun g => gd (id g)) false) = false from hgd]
  exact h' _ _ _ fun A Φ s'' h'' => h''
end
end Mine
end
section
open PySem PySem.W PyProof.Rows
namespace Mine

/-- an exception's object: its class, its arguments, its newest traceback entry -/
noncomputable def excP (C v0 tb : Value) : Cel := fun o => o.cls = C ∧ o.data = .fields #[v0, tb, .none, .none, .bool false, .none]
/-- a traceback entry, with what flies -/
noncomputable def tbP (fl : Value) : Cel := fun o => ∃ vs, o.data = .fields vs ∧ vs[3]? = some fl

/-- the frames on the stack are cells -/
noncomputable def FramesIn (l : List Env) (cs : Cels) : Prop := ∀ env ∈ l, env.scope.kind ≠ .module ∧ ∃ L m, env.frame = some L ∧ (L, nsP m) ∈ cs
theorem FramesIn.nil {cs : Cels} : FramesIn [] cs := fun _ m => (nomatch m)
theorem FramesIn.sub {l : List Env} {cs cs' : Cels} (F : FramesIn l cs) (i : ∀ p ∈ cs, p ∈ cs') : FramesIn l cs' := fun env m =>
  let ⟨a, L, x, b, c⟩ := F env m; ⟨a, L, x, b, i _ c⟩
theorem FramesIn.tail {l : List Env} {cs : Cels} {p : Addr × Cel} (F : FramesIn l cs) : FramesIn l (p :: cs) := F.sub fun _ m => .tail _ m
theorem FramesIn.cons {l : List Env} {cs : Cels} {env : Env} {L : Addr} {m : Str → Option Value} (F : FramesIn l cs) (hk : env.scope.kind ≠ .module) (hf : env.frame = some L) (hm : (L, nsP m) ∈ cs) : FramesIn (env :: l) cs := fun e i => by
  rcases List.mem_cons.mp i with rfl | i
  · exact ⟨hk, L, m, hf, hm⟩
  · exact F e i
theorem nodup_same : ∀ {cs : Cels} {a : Addr} {c c' : Cel}, (cs.map (·.1)).Nodup → (a, c) ∈ cs → (a, c') ∈ cs → c = c'
  | p :: r, a, c, c', nd, m, m' => by
    rw [List.map_cons, List.nodup_cons] at nd
    rcases List.mem_cons.mp m with e | n <;> rcases List.mem_cons.mp m' with e' | n'
    · subst e; cases e'; rfl
    · subst e; exact (nd.1 (List.mem_map.mpr ⟨(a, c'), n', rfl⟩)).elim
    · subst e'; exact (nd.1 (List.mem_map.mpr ⟨(a, c), n, rfl⟩)).elim
    · exact nodup_same nd.2 n n'

theorem FramesIn.fun {l : List Env} {h₁ h : Heap} {cs : Cels} (F : FramesIn l cs) (H : Hp h₁ cs h) : h.FunFrames h₁ l := by
  induction l with
  | nil => trivial
  | cons env r ih =>
    obtain ⟨k, L, m, hf, hm⟩ := F env (.head _)
    obtain ⟨o, ho, es, ep, hd, _⟩ := H.get hm
    exact ⟨k, ⟨L, o, hf, H.isNew hm, ho, fun vs e => by rw [hd] at e; cases e⟩, ih fun e i => F e (.tail _ i)⟩

/-- frames that are made ready stay what they are -/
theorem Hp.ready {l : List Env} {h₁ h h' : Heap} {cs : Cels} (H : Hp h₁ cs h) (F : FramesIn l cs) (S : Heap.SlotsOnly (l.filterMap (·.frame)) h h') : Hp h₁ cs h' := by
  have key : ∀ b, b ∈ l.filterMap (·.frame) → ∃ m, (b, nsP m) ∈ cs := fun b hb => by
    obtain ⟨env, he, hf⟩ := List.mem_filterMap.mp hb
    obtain ⟨_, L, m, hf', hm⟩ := F env he
    rw [hf] at hf'; cases hf'; exact ⟨m, hm⟩
  refine ⟨fun b o e => ?_, fun p m => ⟨?_, (H.cel p m).2⟩, H.nod⟩
  · rw [S.2.1 b fun hb => ?_]
    · exact H.old b o e
    · obtain ⟨m, hm⟩ := key b hb
      rw [H.isNew hm] at e; cases e
  · by_cases hb : p.1 ∈ l.filterMap (·.frame)
    · obtain ⟨x, hm⟩ := key _ hb
      have : p.2 = nsP x := nodup_same H.nod (c := p.2) m hm
      rw [this]
      obtain ⟨o, ho, es, ep, hd, q⟩ := H.get hm
      obtain ⟨sl, e⟩ := S.2.2 _ _ ho
      exact ⟨_, e, es, ep, hd, q⟩
    · obtain ⟨o, ho, q⟩ := (H.cel p m).1
      exact ⟨o, by rw [S.2.1 _ hb]; exact ho, q⟩

section
variable {M : Model} {A : Around} {E : Value → Shared → Prop} {s : Shared} {h₁ : Heap} {os : OsState} {cs : Cels} {G : Array GenState} {env : Env} {outer : List Env} {L e : Addr} {C v0 : Value}

/-- an exception in flight: fl tells its newest entry's word -/
noncomputable def Fly (h₁ : Heap) (os : OsState) (cs : Cels) (G : Array GenState) (e : Addr) (C v0 : Value) (fl : Option Value) (s : Shared) : Prop := match fl with
  | none => Sh h₁ os ((e, excP C v0 .none) :: cs) G s
  | some v => ∃ tb, Sh h₁ os ((e, excP C v0 (.ref tb)) :: (tb, tbP v) :: cs) G s

theorem Fly.sh {fl : Option Value} (F : Fly h₁ os cs G e C v0 fl s) : Sh h₁ os cs G s := by
  cases fl with
  | none => exact Sh.drop F
  | some v => obtain ⟨tb, B⟩ := F; exact B.drop.drop
theorem Fly.exc {fl : Option Value} (F : Fly h₁ os cs G e C v0 fl s) : ∃ tb, Sh h₁ os ((e, excP C v0 tb) :: cs) G s := by
  cases fl with
  | none => exact ⟨_, F⟩
  | some v => obtain ⟨tb, B⟩ := F; exact ⟨_, B.sub (.cons_cons _ (.cons _ (.refl _)))⟩

theorem entry_new {hadNext : Bool} {head : Value} {Q : Unit → Shared → Prop} {tb : Value} (B : Sh h₁ os ((e, excP C v0 tb) :: cs) G s) (hfr : A.frames = some (env :: outer)) (hF : FramesIn (env :: outer) cs) (hf : env.frame = some L)
    (h : ∀ s', Fly h₁ os cs G e C v0 (some (rawInt L)) s' → Q () s') :
    wpAny M A (do let a ← frameOf env; let pl ← entryPlaceOf L hadNext; let b ← EntryCells.newEntry head a .none (rawInt L) .none pl; setField (.ref e) 1 b) Q E s := by
  refine wpAny_bind (wpAny_frameOf_fun hfr (hF.tail.fun B.hp) hf fun h' S => ?_)
  have H' := B.hp.ready hF.tail S
  refine wpAny_bind (wpAny_entryPlaceOf fun pl hpl => ?_)
  unfold EntryCells.newEntry newFields
  refine wpAny_bind (wpAny_newObj_type ?_ (hpl.sizeOk5 _ _ _ _ _))
  have H2 : Hp h₁ ((e, excP C v0 tb) :: (h'.objs.size, tbP (rawInt L)) :: cs) (h'.push _) := (H'.push (c := tbP (rawInt L)) (o := { cls := .type "traceback", data := .fields ([head, .ref L, .none, rawInt L, .none] ++ (if pl.isEmpty then List.replicate 6 Value.none else pl)).toArray }) rfl ⟨_, rfl, by simp⟩).perm (.swap ..)
  obtain ⟨oe, he, hcl, hd⟩ := H2.get (.head _)
  refine wpAny_setField he hd (by simp) (h _ ⟨_, B.heap' (H2.chgS .here (Heap.SameBut.update ..) ⟨_, Heap.get?_update_self _ he (Obj.isFreed_of_fields (Obj.data_mapFields hd _)), (Obj.cls_mapFields ..).trans hcl, ?_⟩)⟩)
  rw [Obj.data_mapFields hd]; rfl

/-- the first entry -/
theorem n_first {Q : Unit → Shared → Prop} (F : Fly h₁ os cs G e C v0 none s) (hfr : A.frames = some (env :: outer)) (hF : FramesIn (env :: outer) cs) (hf : env.frame = some L)
    (h : ∀ s', Fly h₁ os cs G e C v0 (some (rawInt L)) s' → Q () s') : wpAny M A (noteFrame (.ref e) env) Q E s := by
  obtain ⟨oe, he, hcl, hd⟩ := (show Sh h₁ os ((e, excP C v0 .none) :: cs) G s from F).get (.head _)
  unfold noteFrame
  simp only [hf]
  refine wpAny_bind (wpAny_field he hd (x := .none) rfl ?_)
  rw [if_neg (by decide)]
  exact entry_new F hfr hF hf h
/-- an entry of this very frame stands -/
theorem n_here {Q : Unit → Shared → Prop} (F : Fly h₁ os cs G e C v0 (some (rawInt L)) s) (hf : env.frame = some L)
    (h : Q () s) : wpAny M A (noteFrame (.ref e) env) Q E s := by
  obtain ⟨tb, B⟩ := F
  obtain ⟨oe, he, hcl, hd⟩ := B.get (.head _)
  obtain ⟨ot, ht, ts, hdt, h3⟩ := B.get (.tail _ (.head _))
  exact wpAny_noteFrame_inFlight hf he hd rfl ht hdt h3 h
/-- the next frame's entry -/
theorem n_next {Q : Unit → Shared → Prop} (F : Fly h₁ os cs G e C v0 (some .none) s) (hfr : A.frames = some (env :: outer)) (hF : FramesIn (env :: outer) cs) (hf : env.frame = some L)
    (h : ∀ s', Fly h₁ os cs G e C v0 (some (rawInt L)) s' → Q () s') : wpAny M A (noteFrame (.ref e) env) Q E s := by
  obtain ⟨tb, B⟩ := F
  obtain ⟨oe, he, hcl, hd⟩ := B.get (.head _)
  obtain ⟨ot, ht, ts, hdt, h3⟩ := B.get (.tail _ (.head _))
  unfold noteFrame
  simp only [hf]
  refine wpAny_bind (wpAny_field he hd (x := .ref tb) rfl ?_)
  rw [if_pos (show (Value.ref tb != Value.none) = true from by simp)]
  refine wpAny_bind (wpAny_field ht hdt h3 ?_)
  rw [if_neg (show ¬ ((Value.none == rawInt L) = true) from by simp [rawInt])]
  refine wpAny_bind (wpAny_setField ht hdt (Array.getElem?_eq_some_iff.mp h3).1 ?_)
  have B2 : Sh h₁ os ((e, excP C v0 (.ref tb)) :: (tb, tbP .none) :: cs) G { s with heap := s.heap.update tb (Obj.mapFields (·.setIfInBounds 3 .none)) } :=
    B.heap' (B.hp.chgS (.there .here) (Heap.SameBut.update ..) ⟨_, Heap.get?_update_self _ ht (Obj.isFreed_of_fields (Obj.data_mapFields hdt _)), _, Obj.data_mapFields hdt _, by
      simp [(Array.getElem?_eq_some_iff.mp h3).1]⟩)
  exact entry_new (B2.sub (.cons_cons _ (.cons _ (.refl _)))) hfr hF hf h
/-- what the newest entry says is turned -/
theorem f_set {v : Value} {fr : Option Addr} {Q : Unit → Shared → Prop} (F : Fly h₁ os cs G e C v0 (some v) s)
    (h : ∀ s', Fly h₁ os cs G e C v0 (some (fr.elim .none fun f => rawInt f)) s' → Q () s') : wpAny M A (setFlight (.ref e) fr) Q E s := by
  obtain ⟨tb, B⟩ := F
  obtain ⟨oe, he, hcl, hd⟩ := B.get (.head _)
  obtain ⟨ot, ht, ts, hdt, h3⟩ := B.get (.tail _ (.head _))
  unfold setFlight
  refine wpAny_bind (wpAny_field he hd (x := .ref tb) rfl ?_)
  rw [if_pos (show (Value.ref tb != Value.none) = true from by simp)]
  refine wpAny_setField ht hdt (Array.getElem?_eq_some_iff.mp h3).1 (h _ ⟨tb, B.heap' (B.hp.chgS (.there .here) (Heap.SameBut.update ..) ⟨_, Heap.get?_update_self _ ht (Obj.isFreed_of_fields (Obj.data_mapFields hdt _)), _, Obj.data_mapFields hdt _, ?_⟩)⟩)
  simp [(Array.getElem?_eq_some_iff.mp h3).1]
/-- it comes back to the frame that a part of its own has left -/
theorem f_back {v : Value} (F : Fly h₁ os cs G e C v0 (some v) s) (hf : env.frame = some L)
    (h : ∀ s', Fly h₁ os cs G e C v0 (some (rawInt L)) s' → E (.ref e) s') : cameBackBy M A env E (.ref e) s := by
  unfold cameBackBy
  obtain ⟨tb, B⟩ := id F
  obtain ⟨oe, he, hcl, hd⟩ := B.get (.head _)
  refine wpAny_bind (wpAny_field he hd (x := .ref tb) rfl ?_)
  rw [if_neg (show ¬ ((Value.ref tb == Value.none) = true) from by simp)]
  rw [hf]
  exact f_set F fun s' F' => h s' F'
/-- it leaves the frame -/
theorem f_leave {Q : Unit → Shared → Prop} (F : Fly h₁ os cs G e C v0 (some (rawInt L)) s) (hf : env.frame = some L)
    (h : ∀ s', Fly h₁ os cs G e C v0 (some .none) s' → Q () s') : wpAny M A (leaving env (.ref e)) Q E s := by
  unfold leaving
  exact wpAny_bind (n_here F hf (f_set F fun s' F' => h s' F'))
end
end Mine
end
section
open PySem PySem.W PyProof.Rows
namespace Mine
section
variable {prog : Program} {w : World} {A : Around} {E : Value → Shared → Prop} {s : Shared} {h₁ : Heap} {os : OsState} {cs r : Cels} {G : Array GenState} {L f C N : Addr} {m mg mb : Str → Option Value} {cd : Value} {name : Str} {sc : Scope}

noncomputable def veMro : List Value := [.type "ValueError", .type "Exception", .type "BaseException", .type "object"]
/-- the class StatisticsError -/
structure Er (h₁ : Heap) (C N : Addr) : Prop where
  cls : ∃ nm q bs hdct sn sub ab col dd k0 k1 k2 k3 k5, h₁.get? C = some (excClassObj nm q C N bs veMro hdct sn sub ab col dd k0 k1 k2 k3 k5 "ValueError.__new__")
  ns : ∃ mN, h₁.Ns N mN ∧ mN (Str.ofString "__init__") = none ∧ mN (Str.ofString "__str__") = none

/-- raise StatisticsError(errmsg) -/
theorem r_raise {glV biV : List (Str × Value)} {x y : Str} {np cpos pos ap : Pos} {v : Value} {Q : Flow → Shared → Prop} (T : Tp glV biV h₁ mg mb) (X : Er h₁ C N) (hh : A.handled = none) (B : Sh h₁ os ((L, nsP m) :: r) G s)
    (hx : glV.lookup x = some (.ref C)) (hy : m y = some v)
    (hk : sc.kind = .function) (hxl : sc.names.lookup x = some .globalImplicit) (hyl : sc.names.lookup y = some .local) (hxd : (x == ("__debug__" : Str)) = false) (hyd : (y == ("__debug__" : Str)) = false)
    (h : ∀ e t s', Fly h₁ os ((t, tupP [v]) :: (L, nsP m) :: r) G e (.ref C) (.ref t) none s' → E (.ref e) s') :
    wpAny (model prog w) A (exec (.Raise (some (.Call (.Name x np) [.Name y ap] [] cpos)) none pos) (envOf name sc L f cd)) Q E s := by
  obtain ⟨nm, q, bs, hdct, sn, sub, ab, col, dd, k0, k1, k2, k3, k5, hC⟩ := X.cls
  obtain ⟨mN, hN, hi, _⟩ := X.ns
  refine wpAny_Raise_call_sub (nm := nm) (q := q) (N := N) (bs := bs) (hdct := hdct) (sn := sn) (sub := sub) (ab := ab) (col := col) (dd := dd) (k0 := k0) (k1 := k1) (k2 := k2) (k3 := k3) (k5 := k5) PySem.F.excBase_ValueError hh rfl hi (t_gl T B hx hxl hk hxd ⟨rfl, ?_⟩)
  refine Calls.evalArgs_plain (spliced_more (env := envOf name sc L f cd) (t_ld B hy hyl hk hyd (spliced_none ⟨rfl, by size_fits, B.hp.old _ _ hC, hN.keeps B.hp.old, fun h' e M => ?_⟩)))
  obtain ⟨t, he, htn, ht⟩ := M.there
  refine h e t _ ?_
  have H1 : Hp h₁ ((t, tupP [v]) :: (L, nsP m) :: r) h' := B.hp.newN M.keeps ⟨_, ht, 0, rfl⟩ htn
  have hte : e ≠ t := fun q => by rw [q, ht] at he; cases he
  refine B.heap' ⟨H1.old, fun p i => ?_, ?_⟩
  · rcases List.mem_cons.mp i with rfl | i
    · refine ⟨⟨_, he, rfl, rfl⟩, ?_⟩
      cases q : h₁.get? e with
      | none => rfl
      | some o => have := B.hp.old _ _ q; rw [M.new] at this; cases this
    · exact H1.cel p i
  · rw [List.map_cons, List.nodup_cons]
    refine ⟨fun i => ?_, H1.nod⟩
    rw [List.map_cons] at i
    rcases List.mem_cons.mp i with q | i
    · exact hte q
    · obtain ⟨p, mp, q⟩ := List.mem_map.mp i
      obtain ⟨o, ho, _⟩ := (B.hp.cel p mp).1
      have q' : p.1 = e := q
      rw [q', M.new] at ho; cases ho

theorem fly_new {cls : String} {h' : Heap} {tk : Nat} {e : Addr} (B : Sh h₁ os cs G s) (M : Heap.NewExc s.heap h' e cls) : ∃ v0, Fly h₁ os cs G e (.type cls) v0 none { s with heap := h', toks := tk } := by
  obtain ⟨ob, t, he, hc, hd⟩ := M.there
  exact ⟨t, B.heap (B.hp.newN M.keeps ⟨ob, he, hc, hd⟩ M.new) tk⟩

theorem isSubtype_int_str : isSubtype (.type "int") (.type "str") = pure false := by
  rw [isSubtype_type]; kernel_rfl
theorem r_lt_str_int {i : Int} {t : Tok} {x : Str} {u : Tok} {Q : Value → Shared → Prop} (hh : A.handled = none) (B : Sh h₁ os cs G s)
    (h : ∀ e v0 s', Fly h₁ os cs G e (.type "TypeError") v0 none s' → E (.ref e) s') :
    wpAny (model prog w) A (compareOp .Lt (.str x u) (.int i t)) Q E s := by
  show wpAny _ _ (richCompare .Lt (.str x u) (.int i t)) Q E s
  refine wpAny_richCompare_lt_declined hh (fun s' => typeIs_str s' x u) (fun s' => typeIs_int s' i t) (by decide) isSubtype_int_str PySem.F.slot_str_lt PySem.F.slot_int_gt_refl (by decide) (by decide) ?_
  refine wpAny_call_entry PySem.F.slot_str_lt (typeIs_str s x u) PySem.F.entry_str_lt
    (show wpAny _ _ (do rule "str.__lt__.not-a-str"; ret .notImplemented) _ _ s from wpAny_bind (wpAny_rule (wpAny_pure ⟨_, rfl, rfl, ?_⟩))) (PySem.F.args_str_lt_2 _ _)
  refine wpAny_call_entry PySem.F.slot_int_gt_refl (typeIs_int s i t) PySem.F.entry_int_gt
    (show wpAny _ _ (do rule "int.binary.not-an-int"; ret .notImplemented) _ _ s from wpAny_bind (wpAny_rule (wpAny_pure ⟨_, rfl, rfl, fun h' tk e M => ?_⟩))) (PySem.F.args_int_gt_2 _ _)
  obtain ⟨v0, F⟩ := fly_new (tk := tk) B M
  exact h e v0 _ F
end
end Mine
end
section
open PySem PySem.W PyProof.Rows
namespace Mine
section
variable {prog : Program} {w : World} {A : Around} {E : Value → Shared → Prop} {s : Shared} {h₁ : Heap} {os : OsState} {cs r : Cels} {G : Array GenState} {a C N : Addr} {g : Nat} {gs : GenState} {Φ : End → Shared → Prop}

theorem Sh.setGen (B : Sh h₁ os cs G s) (g : Nat) (x : GenState) : Sh h₁ os cs (G.setIfInBounds g x) (s.setGen g x) := ⟨B.hp, by show s.gens.setIfInBounds g x = _; rw [B.gens], B.os⟩
theorem Fly.setGen {e : Addr} {Cx v0 : Value} {fl : Option Value} (F : Fly h₁ os cs G e Cx v0 fl s) (g : Nat) (x : GenState) : Fly h₁ os cs (G.setIfInBounds g x) e Cx v0 fl (s.setGen g x) := by
  cases fl with
  | none => exact Sh.setGen F g x
  | some v => obtain ⟨tb, B⟩ := F; exact ⟨tb, B.setGen g x⟩

/-- a class that is no StopIteration -/
noncomputable def NoStop (h₁ : Heap) (Cx : Value) : Prop := ∀ (M : Model) (A : Around) (s : Shared) (E : Value → Shared → Prop) (Q : Bool → Shared → Prop), (∀ b o, h₁.get? b = some o → s.heap.get? b = some o) → Q false s → wpAny M A (isSubtype Cx (.type "StopIteration")) Q E s
theorem Er.noStop (X : Er h₁ C N) : NoStop h₁ (.ref C) := by
  obtain ⟨nm, q, bs, hdct, sn, sub, ab, col, dd, k0, k1, k2, k3, k5, hC⟩ := X.cls
  intro M A s E Q k h
  obtain ⟨hp, g, d, t, os⟩ := s
  refine wpAny_isSubtype_exc (k _ _ hC) ?_
  have e : (Value.ref C :: veMro).contains (.type "StopIteration") = false := by
    show (Value.type "StopIteration" == Value.ref C || veMro.contains (.type "StopIteration")) = false
    rw [show (Value.type "StopIteration" == Value.ref C) = false from by rfl]; decide +kernel
  rw [e]; exact h
theorem isInst_noStop {M : Model} {e : Addr} {Cx v0 : Value} {fl : Option Value} {Q : Bool → Shared → Prop} (F : Fly h₁ os cs G e Cx v0 fl s) (n : NoStop h₁ Cx) (h : Q false s) : wpAny M A (isInstance (.ref e) (.type "StopIteration")) Q E s := by
  obtain ⟨tb, B⟩ := F.exc
  obtain ⟨oe, he, hcl, hd⟩ := B.get (.head _)
  unfold isInstance
  refine wpAny_bind (wpAny_typeOf_ref he ?_)
  rw [hcl]
  exact n _ _ _ _ _ B.hp.old h

/-- a guard that is asked for its next -/
theorem gen_next {Q : Option Value → Shared → Prop} (hh : A.handled = none) (hg : s.heap.IsGen a g) (hgs : s.gens[g]? = some gs) (hl : s.heap.NoLimit) (hroom : A.depth < recursionLimit)
    (hw : Wk (model prog w) A.in1 Φ gs (s.setGen g .running))
    (hΦ : ∀ e s₁, Φ e s₁ → e.quiet = true ∧ (match e with
      | .susp v .. => Q (some v) (s₁.setGen g e.genState)
      | .ret (.ok f) => f = .ret .none ∧ ∃ os cs G, Sh h₁ os cs G (s₁.setGen g .finished) ∧ ∀ x v0 s', Fly h₁ os cs G x (.type "StopIteration") v0 none s' → E (.ref x) s'
      | .ret (.error x) => ∃ os cs G e Cx v0 fl, x = .ref e ∧ Fly h₁ os cs G e Cx v0 fl (s₁.setGen g .finished) ∧ NoStop h₁ Cx ∧ (s₁.heap.IsGen a g) ∧ E x (s₁.setGen g .finished))) :
    wpAny (model prog w) A (callSpecial? (.ref a) (Str.ofString "__next__")) Q E s := by
  refine wpAny_callSpecial?_slot (name := Str.ofString "__next__") hg.typeIs slot_gen_next
    (wpAny_call_entry slot_gen_next hg.typeIs entry_gen_next ?_ (args_gen_next _))
  show wpAny _ _ (Builtin.Generator.genWake (.ref a) (.send .none)) _ _ s
  unfold Builtin.Generator.genWake
  refine wpAny_bind (wpAny_holding (wpAny_genNumber hg (wpAny_bind (wpAny_genState hgs ?_))))
  cases gs with
  | running => exact hw.elim
  | finished => exact hw.elim
  | _ =>
    refine wpAny_bind (wpAny_roomToWake hl hroom ?_)
    show wpAny _ _ (.resume g (.send .none) [] _) _ _ s
    refine resume_wk hgs hw fun e s₁ he => ?_
    obtain ⟨hq, he⟩ := hΦ e s₁ he
    refine ⟨hq, ?_⟩
    match e, hq, he with
    | .susp v gd l k c p fs, _, he => exact wpAny_pure ⟨v, rfl, he⟩
    | .ret (.ok f), _, he =>
      obtain ⟨rfl, os, cs, G, B, hE⟩ := he
      show wpAny _ _ (newExc (.type "StopIteration") [] >>= _) _ _ _
      refine wpAny_bind ?_
      simp only [newExc, newTuple]
      refine wpAny_bind (wpAny_newObj_type ?_ (by size_fits))
      refine wpAny_bind (m := firstArgMember _ _) (wpAny_of_eq (a := Value.none) (by first | rfl | (simp only [firstArgMember]; rfl)) ?_)
      refine wpAny_newObj_type ?_ (by size_fits)
      simp only [raiseNew]
      refine wpAny_bind (wpAny_bind (wpAny_handled ?_))
      rw [show A.in1.handled = none from hh]
      refine wpAny_throw (hE _ (.ref (s₁.setGen g .finished).heap.objs.size) _ ?_)
      have B2 := B.heap' (B.hp.grow fun b o e => Heap.get?_push_of_some (h := (s₁.setGen g .finished).heap) { cls := .type "tuple", data := .seq ([] : List Value).toArray } e)
      exact B2.heap' (B2.hp.push rfl ⟨rfl, rfl⟩)
    | .ret (.error x), _, he =>
      obtain ⟨os, cs, G, e, Cx, v0, fl, rfl, F, hN, hG, hE⟩ := he
      obtain ⟨o, nm, qn, ho, hc, hd, hs⟩ := hG
      show wpAny _ _ (Builtin.Generator.genLeft (.ref a) (.ref e)) _ _ _
      unfold Builtin.Generator.genLeft
      have hlam : ∀ (Q : Bool → Shared → Prop), Q false (s₁.setGen g .finished) → wpAny (model prog w) A.in1 (Builtin.Generator.madeByALambda (.ref a)) Q E (s₁.setGen g .finished) := by
        intro Q hQ
        unfold Builtin.Generator.madeByALambda
        refine wpAny_bind (wpAny_load (o := o) ho ?_)
        rw [hd, hc]
        exact wpAny_pure hQ
      refine wpAny_bind (hlam _ ?_)
      refine wpAny_bind (isInst_noStop F hN ?_)
      show wpAny _ _ (Builtin.Generator.genEscaped (.ref e)) _ _ _
      unfold Builtin.Generator.genEscaped
      refine wpAny_bind (isInst_noStop F hN ?_)
      exact wpAny_throw hE

/-- next in a for: an end, an item, or an error -/
theorem gen_pyNext {Q : Option Value → Shared → Prop} (hh : A.handled = none) (hg : s.heap.IsGen a g) (hgs : s.gens[g]? = some gs) (hl : s.heap.NoLimit) (hroom : A.depth < recursionLimit)
    (hw : Wk (model prog w) A.in1 Φ gs (s.setGen g .running))
    (hΦ : ∀ e s₁, Φ e s₁ → e.quiet = true ∧ (match e with
      | .susp v .. => Q (some v) (s₁.setGen g e.genState)
      | .ret (.ok f) => f = .ret .none ∧ ∃ os cs G, Sh h₁ os cs G (s₁.setGen g .finished) ∧ ∀ s', Sh h₁ os cs G s' → Q none s'
      | .ret (.error x) => ∃ os cs G e Cx v0 fl, x = .ref e ∧ Fly h₁ os cs G e Cx v0 fl (s₁.setGen g .finished) ∧ NoStop h₁ Cx ∧ (s₁.heap.IsGen a g) ∧ E x (s₁.setGen g .finished))) :
    wpAny (model prog w) A (pyNext (.ref a)) Q E s := by
  unfold pyNext
  refine wpAny_bind (wpAny_attempt ?_)
  refine gen_next (h₁ := h₁) hh hg hgs hl hroom hw fun e s₁ he => ?_
  obtain ⟨hq, he⟩ := hΦ e s₁ he
  refine ⟨hq, ?_⟩
  match e, hq, he with
  | .susp v gd l k c p fs, _, he => exact wpAny_pure he
  | .ret (.ok f), _, he =>
    obtain ⟨rfl, os, cs, G, B, hQ⟩ := he
    refine ⟨rfl, os, cs, G, B, fun x v0 s' F => ?_⟩
    obtain ⟨oe, he, hcl, hd⟩ := (show Sh h₁ os ((x, excP (.type "StopIteration") v0 .none) :: cs) G s' from F).get (.head _)
    refine wpAny_bind (wpAny_isInstance (T := "StopIteration") (b := true) ⟨_, he, hcl⟩ isSubtype_stop ?_)
    exact wpAny_pure (hQ s' F.sh)
  | .ret (.error x), _, he =>
    obtain ⟨os, cs, G, e, Cx, v0, fl, rfl, F, hN, hG, hE⟩ := he
    refine ⟨os, cs, G, e, Cx, v0, fl, rfl, F, hN, hG, ?_⟩
    refine wpAny_bind (isInst_noStop F hN ?_)
    exact wpAny_throw hE

end
end Mine
end
section
open PySem PySem.W PyProof.Rows
namespace Mine
section
variable {prog : Program} {w : World} {A : Around} {E : Value → Shared → Prop} {s : Shared} {h₁ : Heap} {os : OsState} {cs r : Cels} {G : Array GenState} {it l : Addr} {i : Nat}

theorem i_list {vs : List Value} {Q : Value → Shared → Prop} (B : Sh h₁ os cs G s) (hl : s.heap.IsList l vs.toArray) (h : ∀ it s', Sh h₁ os ((it, litP l 0) :: cs) G s' → Q (.ref it) s') :
    wpAny (model prog w) A (pyIter (.ref l)) Q E s :=
  wpAny_pyIter_list hl (h _ _ (B.heap' (B.hp.push rfl ⟨rfl, rfl⟩)))
theorem i_lit {Q : Value → Shared → Prop} (hit : s.heap.IsListIter it l i) (h : Q (.ref it) s) : wpAny (model prog w) A (pyIter (.ref it)) Q E s := wpAny_pyIter_listiter hit h

theorem Pt.litT {h : Heap} {a : Addr} {g d t o} (p : Pt h a (litP l i)) : (⟨h, g, d, t, o⟩ : Shared).TypeIs (.ref a) "list_iterator" := p.lit.typeIs
theorem Pt.lendT {s : Shared} {a : Addr} (p : Pt s.heap a lendP) : s.TypeIs (.ref a) "list_iterator" := let ⟨o, e, c, _⟩ := p; ⟨o, e, c⟩

theorem x_lit_item {vs : List Value} {x : Value} {Q : Option Value → Shared → Prop} (B : Sh h₁ os cs G s) (u : Upd it (litP l i) (litP l (i + 1)) cs r) (hl : s.heap.IsList l vs.toArray) (hx : vs[i]? = some x)
    (h : ∀ s', Sh h₁ os r G s' → Q (some x) s') : wpAny (model prog w) A (pyNext (.ref it)) Q E s :=
  wpAny_pyNext_list_item (B.get u.mem).lit hl (by simpa using hx) fun h' hi hs => h _ (B.heap' (B.hp.chgS u hs hi))

theorem stop_raise {α : Type} {Q : α → Shared → Prop} (hh : A.handled = none) (B : Sh h₁ os cs G s) (h : ∀ x v0 s', Fly h₁ os cs G x (.type "StopIteration") v0 none s' → E (.ref x) s') :
    wpAny (model prog w) A (do raiseNew (← newExc (.type "StopIteration") []) : Sem α) Q E s := by
  refine wpAny_bind ?_
  simp only [newExc, newTuple]
  refine wpAny_bind (wpAny_newObj_type ?_ (by size_fits))
  refine wpAny_bind (m := firstArgMember _ _) (wpAny_of_eq (a := Value.none) (by first | rfl | (simp only [firstArgMember]; rfl)) ?_)
  refine wpAny_newObj_type ?_ (by size_fits)
  simp only [raiseNew]
  refine wpAny_bind (wpAny_handled ?_)
  rw [hh]
  have B2 := B.heap' (B.hp.grow fun b o e => Heap.get?_push_of_some (h := s.heap) { cls := .type "tuple", data := .seq ([] : List Value).toArray } e)
  first
    | exact wpAny_throw (h _ (.ref s.heap.objs.size) _ (B2.heap' (B2.hp.push rfl ⟨rfl, rfl⟩)))
    | exact wpAny_bind (wpAny_pure (wpAny_throw (h _ (.ref s.heap.objs.size) _ (B2.heap' (B2.hp.push rfl ⟨rfl, rfl⟩)))))

theorem caught_stop {Q : Option Value → Shared → Prop} {x : Addr} {v0 : Value} (F : Fly h₁ os cs G x (.type "StopIteration") v0 none s) (h : Q none s) :
    wpAny (model prog w) A (do if ← isInstance (.ref x) (.type "StopIteration") then pure none else throw (.ref x) : Sem (Option Value)) Q E s := by
  obtain ⟨oe, he, hcl, hd⟩ := (show Sh h₁ os ((x, excP (.type "StopIteration") v0 .none) :: cs) G s from F).get (.head _)
  refine wpAny_bind (wpAny_isInstance (T := "StopIteration") (b := true) ⟨_, he, hcl⟩ isSubtype_stop ?_)
  exact wpAny_pure h

theorem x_lit_end {vs : List Value} {Q : Option Value → Shared → Prop} (hh : A.handled = none) (B : Sh h₁ os cs G s) (u : Upd it (litP l i) lendP cs r) (hl : s.heap.IsList l vs.toArray) (hx : vs[i]? = none)
    (h : ∀ s', Sh h₁ os r G s' → Q none s') : wpAny (model prog w) A (pyNext (.ref it)) Q E s := by
  have hit := (B.get u.mem).lit
  obtain ⟨o, ho, hc, hd⟩ := B.get u.mem
  obtain ⟨ol, hol, _, nl, hdl⟩ := hl
  unfold pyNext
  refine wpAny_bind (wpAny_attempt (wpAny_callSpecial?_slot (name := Str.ofString "__next__") hit.typeIs slot_listiter_next
    (wpAny_call_entry slot_listiter_next hit.typeIs entry_listiter_next ?_ (args_listiter_next _))))
  show wpAny _ _ (field (.ref it) 0 >>= _) _ _ s
  refine wpAny_bind (wpAny_field ho hd (x := .ref l) rfl ?_)
  show wpAny _ _ (if (Value.ref l == Value.none) = true then _ else _) _ _ s
  rw [if_neg (show ¬ ((Value.ref l == Value.none) = true) from Bool.false_ne_true)]
  show wpAny _ _ (field (.ref it) 1 >>= _) _ _ s
  refine wpAny_bind (wpAny_field ho hd (x := .int i 0) rfl ?_)
  show wpAny _ _ (seqItems? (.ref l) >>= _) _ _ s
  refine wpAny_bind (wpAny_seqItems hol hdl ?_)
  simp only [Int.toNat_natCast, List.getElem?_toArray, hx]
  refine wpAny_bind (wpAny_rule (wpAny_bind (wpAny_setField ho hd (by simp) ?_)))
  have B2 : Sh h₁ os r G { s with heap := s.heap.update it (Obj.mapFields (·.setIfInBounds 0 .none)) } :=
    B.heap' (B.hp.chgS u (Heap.SameBut.update ..) ⟨_, Heap.get?_update_self _ ho (Obj.isFreed_of_fields (Obj.data_mapFields hd _)), (Obj.cls_mapFields ..).trans hc, _, Obj.data_mapFields hd _⟩)
  refine stop_raise hh B2 fun x v0 s' F => ?_
  exact caught_stop F (h s' F.sh)
theorem i_gen {a : Addr} {g : Nat} {Q : Value → Shared → Prop} (hg : s.heap.IsGen a g) (h : Q (.ref a) s) : wpAny (model prog w) A (pyIter (.ref a)) Q E s := wpAny_pyIter_gen hg h
theorem i_lend {Q : Value → Shared → Prop} (p : Pt s.heap it lendP) (h : Q (.ref it) s) : wpAny (model prog w) A (pyIter (.ref it)) Q E s := by
  refine wpAny_pyIter_slot p.lendT slot_listiter_iter (wpAny_call_entry slot_listiter_iter p.lendT entry_listiter_iter ?_ (args_listiter_iter _))
  show wpAny _ _ (ret (.ref it)) _ _ s
  exact wpAny_pure ⟨_, rfl, "list_iterator", _, p.lendT, slot_listiter_next.lookup, h⟩
end
end Mine
end
section
open PySem PySem.W PyProof.Rows
namespace Mine
section
variable {prog : Program} {w : World} {A : Around} {E : Value → Shared → Prop} {s : Shared} {h₁ : Heap} {os : OsState} {cs r : Cels} {G : Array GenState} {it l : Addr} {i : Nat}

theorem r_assignT {env : Env} {elts : List PySem.Expr} {k : Nat} {pos : Pos} {vs : List Value} {Q : Unit → Shared → Prop} (hh : A.handled = none) (B : Sh h₁ os cs G s) (i : (l, tupP vs) ∈ cs)
    (hn : (assignEach elts env).length = vs.length) (hstar : (assignEach elts env).findIdx? (·.1) = none)
    (h : ∀ s', Sh h₁ os cs G s' → wpAny (model prog w) A (assignInOrder ((assignEach elts env).map (·.2)) vs) Q E s') :
    wpAny (model prog w) A (assign (.Tuple elts k pos) env (.ref l)) Q E s := by
  refine wpAny_assign_Tuple hh (B.get i).tup (by simpa using hn) hstar fun h' x => h _ (B.heap' (B.hp.grow fun b o e => x b o (Nat.ne_of_lt (Heap.lt_size e)) e))
end
end Mine
end
section
open PySem PySem.W PyProof.Rows
namespace Mine
end Mine
end
section
open PySem PySem.W PyProof.Rows
open Builtin Builtin.Str Builtin.BaseException Builtin.Exceptions
set_option maxRecDepth 100000
namespace Mine
section
variable {prog : Program} {w : World} {A : Around} {E : Value → Shared → Prop} {h : Heap} {g : Array GenState} {d : Drawn} {t : Nat} {os : OsState}
variable {nm q : Str} {C N : Addr} {bs : List Value} {hdct : Bool} {sn : List Str} {sub : List Value} {ab : Bool} {col : Option Bool} {dd : Option Addr} {k0 k1 k2 k3 k5 : Option Value} {newId : String}

theorem check_str_own {M : Model} {a : Addr} {o : Obj} {Q : Unit → Shared → Prop} (hC : h.get? C = some (excClassObj nm q C N bs veMro hdct sn sub ab col dd k0 k1 k2 k3 k5 newId))
    (hx : h.get? a = some o) (hc : o.cls = .ref C) (hq : Q () ⟨h, g, d, t, os⟩) : wpAny M A (checkBuiltinCall "BaseException.__str__" ⟨[.ref a], []⟩) Q E ⟨h, g, d, t, os⟩ := by
  have hk : builtinKind "BaseException.__str__" = some .slot := by decide +kernel
  have hsplit : splitId "BaseException.__str__" = some ("BaseException", "__str__") := by decide +kernel
  have hcB : (Value.ref C :: veMro).contains (.type "BaseException") = true := by rw [List.contains_cons]; rfl
  have ha := F.args_bexc_str (.ref a)
  simp only [checkBuiltinCall, hk, hsplit]
  refine wpAny_bind ?_
  · unfold isInstance
    repeat (first | (with_reducible refine wpAny_loadPart_at hx ?_; rw [hc]) | (with_reducible refine wpAny_isSubtype_exc hC ?_; rw [hcB]) | wp_step)
    exact hq
theorem bexcArgs_at {M : Model} {e t0 : Addr} {o ot : Obj} {vs : Array Value} {items : List Value} {k : Nat} {Q : Value × List Value → Shared → Prop} (ho : h.get? e = some o) (hd : o.data = .fields vs) (h0 : vs[0]? = some (.ref t0)) (hto : h.get? t0 = some ot) (htd : ot.data = .seq items.toArray k) (hq : Q (.ref t0, items) ⟨h, g, d, t, os⟩) :
    wpAny M A (bexcArgs (.ref e)) Q E ⟨h, g, d, t, os⟩ := by
  unfold bexcArgs
  refine wpAny_bind (wpAny_field ho hd h0 (wpAny_bind (wpAny_seqItems hto htd ?_)))
  have : items.toArray.toList = items := by simp
  show wpAny M A (pure (Value.ref t0, items.toArray.toList)) Q E _
  rw [this]; exact wpAny_pure hq
theorem strOf_own {mN : Str → Option Value} {e t0 : Addr} {o ot : Obj} {vs : Array Value} {x : Str} {tk : Tok} {k : Nat} {Q : Value → Shared → Prop} (hC : h.get? C = some (excClassObj nm q C N bs veMro hdct sn sub ab col dd k0 k1 k2 k3 k5 newId))
    (hn : h.Ns N mN) (hm : mN (Str.ofString "__str__") = none) (ho : h.get? e = some o) (hcl : o.cls = .ref C) (hd : o.data = .fields vs) (h0 : vs[0]? = some (.ref t0)) (hto : h.get? t0 = some ot) (htd : ot.data = .seq [Value.str x tk].toArray k)
    (hu : A.units < cLine) (hq : Q (.str x tk) ⟨h, g, d, t, os⟩) : wpAny (model prog w) A (Builtin.Str.strOf (.ref e)) Q E ⟨h, g, d, t, os⟩ := by
  have f3 := F.excStr_ValueError.str.bind (.ref e)
  unfold Builtin.Str.strOf
  repeat (first | with_reducible refine wpAny_cRoomFor hu ?_ | (with_reducible refine wpAny_loadPart_at ho ?_; rw [hcl]) | (with_reducible refine wpAny_typeLookup_exc hC hn PySem.F.excBase_ValueError.mroIs F.excStr_ValueError.str.lookup ?_; rw [hm]) | wp_step)
  refine codeAny_call_builtin F.excStr_ValueError.str.plain F.entry_bexc_str (check_str_own hC ho hcl ?_)
  unfold Builtin.«BaseException.__str__»
  repeat (first | with_reducible refine bexcArgs_at ho hd h0 hto htd ?_ | wp_step)
  exact hq
end

section
variable {prog : Program} {w : World} {A : Around} {E : Value → Shared → Prop} {s : Shared} {h₁ : Heap} {os : OsState} {cs r : Cels} {G : Array GenState} {C N e te : Addr} {tb : Value} {env : Env}

/-- str of an error of the own class -/
theorem r_strExc {x : Str} {tk : Tok} {Q : Value → Shared → Prop} (X : Er h₁ C N) (hu : A.units + 2 < cLine) (B : Sh h₁ os cs G s) (i : (e, excP (.ref C) (.ref te) tb) ∈ cs) (j : (te, tupP [.str x tk]) ∈ cs) (h : Q (.str x tk) s) :
    wpAny (model prog w) A (call (.type "str") [.ref e]) Q E s := by
  refine callType_new F.called_str (by decide) (F.typeCall_str_1 _) (F.newCall_str_1 _) (fun obj => F.args_object_init_2 obj _) F.entry_str_new
    (meets_str_new (S := fun A' R s' => A'.units + 1 < cLine ∧ Sh h₁ os cs G s' ∧ R (.ok (.ret (.str x tk))) s') fun _ _ A' _ s' hq => ?_) ⟨(show A.units + 1 + 1 < cLine from hu), B, typeIs_str _ _ _, h⟩
  obtain ⟨nm, q, bs, hdct, sn, sub, ab, col, dd, k0, k1, k2, k3, k5, hC⟩ := X.cls
  obtain ⟨mN, hN, _, hs⟩ := X.ns
  obtain ⟨o, ho, hcl, hd⟩ := hq.2.1.get i
  obtain ⟨ot, hto, n, hod⟩ := hq.2.1.get j
  obtain ⟨hp, g, d, t, os⟩ := s'
  exact strOf_own (A := A'.in1) (hq.2.1.hp.old _ _ hC) (hN.keeps hq.2.1.hp.old) hs ho hcl hd rfl hto (by rw [hod]) hq.1 hq.2.2
theorem m_self {M : Model} {v0 : Value} {Q : Bool → Shared → Prop} (X : Er h₁ C N) (B : Sh h₁ os cs G s) (i : (e, excP (.ref C) v0 tb) ∈ cs)
    (h : Q true s) : wpAny M A (excMatches (.ref e) (.ref C)) Q E s := by
  obtain ⟨nm, q, bs, hdct, sn, sub, ab, col, dd, k0, k1, k2, k3, k5, hC⟩ := X.cls
  obtain ⟨o, ho, hcl, hd⟩ := B.get i
  have hC' := B.hp.old _ _ hC
  obtain ⟨hp, g, d, t, os⟩ := s
  exact wpAny_excMatches_sub_self hC' ho hcl rfl h
theorem h_yesAs {t : PySem.Expr} {n : Str} {b₀ : Stmt} {suite : List Stmt} {pos : Pos} {rest : List ExceptHandler} {Q : Flow → Shared → Prop}
    (h : wpAny (model prog w) (A.mark (some (.ref e))) (eval t env) (fun c s₁ => wpAny (model prog w) (A.mark (some (.ref e))) (excMatches (.ref e) c) (fun b s₂ => b = true ∧
        wpAny (model prog w) (A.mark (some (.ref e))) (setFlight (.ref e) none) (fun _ s₂ =>
          wpAny (model prog w) (A.mark (some (.ref e))) (storeName env n (.ref e)) (fun _ s₃ =>
            wpAny (model prog w) (A.mark (some (.ref e))) (execs (b₀ :: suite) env)
              (fun f s₄ => wpAny (model prog w) A (do bindName env n .none; unbindBehindTheSuite env n pos) (fun _ s₅ => Q f s₅) E s₄)
              (fun _ _ => False) s₃) (fun _ _ => False) s₂) (fun _ _ => False) s₂) (notedBy (model prog w) (A.mark (some (.ref e))) env (cameBackBy (model prog w) A env E)) s₁) (notedBy (model prog w) (A.mark (some (.ref e))) env (cameBackBy (model prog w) A env E)) s) :
    wpAny (model prog w) A (handleBy (.ref e) env (.ExceptHandler (some t) (some n) (b₀ :: suite) pos :: rest)) Q E s := by
  refine wpAny_handleBy_cons (codeAny_handlers_test (wpAny_mono h (fun c s₁ h₁ => ?_) fun _ _ x => x)) (by intro q; cases q)
  refine wpAny_mono h₁ (fun b s₂ h₂ => ?_) fun _ _ x => x
  obtain ⟨rfl, h₂⟩ := h₂
  refine codeAny_handlers_suite_as ?_
  refine wpAny_mono h₂ (fun _ s₃ h₃ => ?_) fun _ _ x => x.elim
  refine wpAny_mono h₃ (fun _ s₄ h₄ => ?_) fun _ _ x => x.elim
  exact wpAny_mono h₄ (fun _ s₅ h₅ => h₅) fun _ _ x => x.elim

/-- the error's name goes -/
theorem n_goes {name n : Str} {sc : Scope} {L f : Addr} {cd : Value} {m : Str → Option Value} {pos : Pos} {Q : Unit → Shared → Prop} {M : Model} (B : Sh h₁ os ((L, nsP m) :: r) G s) (hl : sc.names.lookup n = some .local) (hk : sc.kind = .function)
    (h : ∀ m' s', Sh h₁ os ((L, nsP m') :: r) G s' → Q () s') : wpAny M A (do bindName (envOf name sc L f cd) n .none; unbindBehindTheSuite (envOf name sc L f cd) n pos) Q E s :=
  wpAny_nameGoes hl (B.get (.head _)).ns (by show (sc.kind == .class || (sc.kind == .module && L != mainGlobals)) = false; rw [hk]; rfl) fun h' m' hn hs => h m' _ (B.heap (B.hp.chgS .here hs (Pt.ofNs hn)) _)

theorem r_iter {v : Value} {Q : Value → Shared → Prop} (h : wpAny (model prog w) A.in1 (pyIter v) Q E s) : wpAny (model prog w) A (call (.builtin "iter") [v]) Q E s := by
  refine Calls.call_function_entry (by decide +kernel) (by decide +kernel) kdk_entry_iter (kdk_args_iter _) ?_
  unfold Builtin.«iter»
  refine wpAny_bind (m := someArgs "iter" 1 2 _) (wpAny_of_eq (a := [v]) (by first | rfl | kernel_rfl!) ?_)
  show wpAny _ _ (pyIter v >>= _) _ _ _
  exact wpAny_bind (wpAny_mono h (fun v s' h' => wpAny_pure ⟨_, rfl, h'⟩) fun _ _ x => x)
end
end Mine
end
section
open PySem PySem.W PyProof.Rows
namespace Mine
section
variable {α : Type}
noncomputable def bagS (α : Type) : Setoid (List α) := ⟨List.Perm, List.Perm.refl, List.Perm.symm, List.Perm.trans⟩
/-- lists up to order -/
noncomputable def Bag (α : Type) := Quotient (bagS α)
noncomputable def Bag.mk (l : List α) : Bag α := Quotient.mk (bagS α) l
theorem perm_of_mk {a b : List α} (h : Bag.mk a = Bag.mk b) : a.Perm b := Quotient.exact (s := bagS α) h
noncomputable def Bag.add (a b : Bag α) : Bag α := Quotient.lift₂ (s₁ := bagS α) (s₂ := bagS α) (fun x y => Bag.mk (x ++ y)) (fun _ _ _ _ h k => Quotient.sound (s := bagS α) (List.Perm.append h k)) a b
theorem Bag.mk_append (a b : List α) : Bag.mk (a ++ b) = (Bag.mk a).add (Bag.mk b) := rfl
theorem Bag.add_comm (a b : Bag α) : a.add b = b.add a := by
  induction a using Quotient.ind; induction b using Quotient.ind
  exact Quotient.sound (s := bagS α) List.perm_append_comm
theorem Bag.add_assoc (a b c : Bag α) : (a.add b).add c = a.add (b.add c) := by
  induction a using Quotient.ind; induction b using Quotient.ind; induction c using Quotient.ind
  exact congrArg Bag.mk (List.append_assoc _ _ _)
noncomputable def Bag.one (a : α) : Bag α := Bag.mk [a]
noncomputable def Bag.zero : Bag α := Bag.mk []
theorem Bag.mk_cons (a : α) (l : List α) : Bag.mk (a :: l) = (Bag.one a).add (Bag.mk l) := rfl
theorem Bag.mk_nil : Bag.mk ([] : List α) = Bag.zero := rfl
theorem Bag.add_zero (a : Bag α) : a.add Bag.zero = a := by
  induction a using Quotient.ind
  exact congrArg Bag.mk (List.append_nil _)
theorem Bag.zero_add (a : Bag α) : Bag.zero.add a = a := by rw [Bag.add_comm, Bag.add_zero]
theorem bagA : Std.Associative (Bag.add (α := α)) := ⟨Bag.add_assoc⟩
theorem bagC : Std.Commutative (Bag.add (α := α)) := ⟨Bag.add_comm⟩
end
end Mine
end
section
open PySem PySem.W PyProof.Rows
set_option maxRecDepth 100000
namespace Mine
noncomputable def titP (t : Addr) (i : Nat) : Cel := fun o => o.cls = .type "tuple_iterator" ∧ o.data = .fields #[.ref t, .int i 0]
noncomputable def ritP (x left : Int) : Cel := isP { cls := .type "range_iterator", dict := none, data := .fields #[rawInt x, rawInt left, rawInt 1], slots := #[] }
section
variable {prog : Program} {w : World} {A : Around} {E : Value → Shared → Prop} {s : Shared} {h₁ : Heap} {os : OsState} {cs r : Cels} {G : Array GenState}
  {name : Str} {sc : Scope} {L f : Addr} {cd : Value} {l : List (Str × Value)} {m : Str → Option Value}

theorem nx_listI {vs : List Value} {it a : Addr} {i : Nat} {Q : Option Value → Shared → Prop} (hi : i < vs.length) (B : Sh h₁ os ((L, nsP m) :: ([(it, litP a i), (a, lstP vs)] ++ cs)) G s)
    (h : ∀ v s', vs[i]? = some v → Sh h₁ os ((L, nsP m) :: ([(it, litP a (i + 1)), (a, lstP vs)] ++ cs)) G s' → Q (some v) s') : wpAny (model prog w) A (pyNext (.ref it)) Q E s := by
  obtain ⟨v, hv⟩ : ∃ v, vs[i]? = some v := ⟨_, List.getElem?_eq_getElem hi⟩
  exact x_lit_item B (.there .here) (B.get (.tail _ (.tail _ (.head _)))).lst hv fun s' B' => h v s' hv B'
theorem nx_tupI {vs : List Value} {it a : Addr} {i : Nat} {Q : Option Value → Shared → Prop} (hi : i < vs.length) (B : Sh h₁ os ((L, nsP m) :: ([(it, titP a i), (a, tupP vs)] ++ cs)) G s)
    (h : ∀ v s', vs[i]? = some v → Sh h₁ os ((L, nsP m) :: ([(it, titP a (i + 1)), (a, tupP vs)] ++ cs)) G s' → Q (some v) s') : wpAny (model prog w) A (pyNext (.ref it)) Q E s := by
  obtain ⟨v, hv⟩ : ∃ v, vs[i]? = some v := ⟨_, List.getElem?_eq_getElem hi⟩
  exact wpAny_pyNext_tuple_item (B.get (.tail _ (.head _))) (B.get (.tail _ (.tail _ (.head _)))).tup (by simpa using hv) fun h' hi hs => h v _ hv (B.heap' (B.hp.chgS (.there .here) hs hi))
theorem nx_tupE {vs : List Value} {it a : Addr} {Q : Option Value → Shared → Prop} (hh : A.handled = none) (B : Sh h₁ os ((L, nsP m) :: ([(it, titP a vs.length), (a, tupP vs)] ++ cs)) G s)
    (h : ∀ s', Sh h₁ os ((L, nsP m) :: cs) G s' → Q none s') : wpAny (model prog w) A (pyNext (.ref it)) Q E s := by
  refine wpAny_pyNext_tuple_end hh (B.get (.tail _ (.head _))) (B.get (.tail _ (.tail _ (.head _)))).tup (by simp) fun h' hs => h _ (B.heap' ?_)
  have H2 := B.hp.perm (List.Perm.swap ..)
  refine ((Hp.mk (fun b o e => ?_) (fun p i => ?_) H2.drop.nod : Hp h₁ _ h').sub (.cons_cons _ (.cons _ (.refl _))))
  · exact hs b o (B.hp.old_ne (.tail _ (.head _)) e) (B.hp.old b o e)
  · refine ⟨(H2.cel p (.tail _ i)).1.keep fun o e => hs _ o (fun q => ?_) e, (H2.cel p (.tail _ i)).2⟩
    have nd := H2.nod
    rw [List.map_cons, List.nodup_cons] at nd
    exact nd.1 (List.mem_map.mpr ⟨p, i, q⟩)
end
end Mine
end
section
open PySem PySem.W PyProof.Rows
set_option maxRecDepth 100000
namespace Mine
theorem Hp.lose {h₁ h h' : Heap} {cs : Cels} {a : Addr} {c : Cel} (H2 : Hp h₁ ((a, c) :: cs) h) (hs : Heap.ExtBut a h h') : Hp h₁ cs h' := by
  refine ⟨fun b o e => ?_, fun p i => ?_, H2.drop.nod⟩
  · exact hs b o (H2.old_ne (.head _) e) (H2.old b o e)
  · refine ⟨(H2.cel p (.tail _ i)).1.keep fun o e => hs _ o (fun q => ?_) e, (H2.cel p (.tail _ i)).2⟩
    have nd := H2.nod
    rw [List.map_cons, List.nodup_cons] at nd
    exact nd.1 (List.mem_map.mpr ⟨p, i, q⟩)
section
variable {prog : Program} {w : World} {A : Around} {E : Value → Shared → Prop} {s : Shared} {h₁ : Heap} {os : OsState} {cs r : Cels} {G : Array GenState}
  {name : Str} {sc : Scope} {L f : Addr} {cd : Value} {l : List (Str × Value)} {m : Str → Option Value}
theorem nx_rngI {it : Addr} {n i : Nat} {Q : Option Value → Shared → Prop} (hi : i < n) (B : Sh h₁ os ((L, nsP m) :: ([(it, ritP i ((n : Int) - i))] ++ cs)) G s)
    (h : ∀ v s', (∃ t, v = .int i t) → Sh h₁ os ((L, nsP m) :: ([(it, ritP ((i + 1 : Nat) : Int) ((n : Int) - ((i + 1 : Nat) : Int)))] ++ cs)) G s' → Q (some v) s') : wpAny (model prog w) A (pyNext (.ref it)) Q E s := by
  refine wpAny_pyNext_range_item (B.get (.tail _ (.head _))).is (by omega) fun h' hi hs => h _ _ ⟨_, rfl⟩ (B.heap (B.hp.chgS (.there .here) hs ⟨_, hi, ?_⟩) _)
  have e1 : ((i + 1 : Nat) : Int) = (i : Int) + 1 := by omega
  have e2 : (n : Int) - ((i + 1 : Nat) : Int) = (n : Int) - i - 1 := by omega
  rw [e1, ← e1, e2]
  rfl
theorem nx_rngE {it : Addr} {n : Nat} {Q : Option Value → Shared → Prop} (hh : A.handled = none) (B : Sh h₁ os ((L, nsP m) :: ([(it, ritP n ((n : Int) - n))] ++ cs)) G s)
    (h : ∀ s', Sh h₁ os ((L, nsP m) :: cs) G s' → Q none s') : wpAny (model prog w) A (pyNext (.ref it)) Q E s :=
  wpAny_pyNext_range_end hh (B.get (.tail _ (.head _))).is (by omega) fun h' hs => h _ (B.heap' ((B.hp.perm (List.Perm.swap ..)).lose hs))
/-- range(n) and its iterator -/
theorem r_range {n : Nat} {t : Tok} {Q : Value → Shared → Prop} (hn : n < 2 ^ 30) (B : Sh h₁ os ((L, nsP m) :: cs) G s)
    (h : ∀ it s', Sh h₁ os ((L, nsP m) :: ([(it, ritP ((0 : Nat) : Int) ((n : Int) - ((0 : Nat) : Int)))] ++ cs)) G s' → Q (.ref it) s') :
    wpAny (model prog w) A (call (.type "range") [.int n t]) (fun v s₁ => wpAny (model prog w) A (pyIter v) Q E s₁) E s := by
  refine call_range_1 ?_
  have B2 := B.heap (t := s.toks + 1 + 1) (B.hp.grow fun b o e => Heap.get?_push_of_some (h := s.heap) { cls := .type "range", data := .fields #[.int 0 s.toks, .int n t, .int 1 (s.toks + 1)] } e)
  have hz : Builtin.Range.rangeSize 0 (n : Int) 1 = n := by
    unfold Builtin.Range.rangeSize
    rw [if_pos (by decide)]
    by_cases hp : (0 : Int) < n
    · rw [if_pos hp, Int.ediv_one]; omega
    · rw [if_neg hp]; omega
  refine wpAny_pyIter_range (IsRange.new ..) ?_ ?_
  · exact small_one (by decide) (by decide) (by omega) (by omega)
  · rw [hz]
    refine h _ _ ((B2.heap' (B2.hp.push rfl ?_)).perm (.swap ..))
    rw [show (n : Int) - ((0 : Nat) : Int) = n by omega]
    rfl
theorem r_listOf {a : Addr} {vs : List Value} {Q : Value → Shared → Prop} (B : Sh h₁ os ((L, nsP m) :: cs) G s) (hl : Pt s.heap a (lstP vs)) (hz : vs.length ≤ sizeLine) (h : ∀ b s', Sh h₁ os ((L, nsP m) :: (b, lstP vs) :: cs) G s' → Q (.ref b) s') :
    wpAny (model prog w) A (call (.type "list") [.ref a]) Q E s := by
  obtain ⟨o, ho, n, rfl⟩ := hl
  exact call_list_seq a (.inl rfl) ho rfl rfl (fun h' c' hk hn => h _ _ ((B.heap' (B.hp.new hk ⟨_, hn, c', rfl⟩ (Nat.le_refl _))).perm (.swap ..))) (by simpa using hz)
theorem r_addL {a b : Addr} {vs ws : List Value} {Q : Value → Shared → Prop} (B : Sh h₁ os ((L, nsP m) :: cs) G s) (hl : s.heap.IsList a vs.toArray) (hb : s.heap.IsList b ws.toArray) (hz : vs.length + ws.length ≤ sizeLine)
    (h : ∀ c s', Sh h₁ os ((L, nsP m) :: (c, lstP (vs ++ ws)) :: cs) G s' → Q (.ref c) s') : wpAny (model prog w) A (binaryOp .Add (.ref a) (.ref b)) Q E s := by
  obtain ⟨⟨cls, dd, data, sl⟩, ho, hc, n, hd⟩ := id hl
  obtain ⟨⟨cls2, dd2, data2, sl2⟩, ho2, hc2, n2, hd2⟩ := id hb
  simp only at hc hd hc2 hd2
  subst hc hd hc2 hd2
  have e : vs.toArray ++ ws.toArray = (vs ++ ws).toArray := by simp
  refine concat_meets ⟨_, ho, rfl⟩ ⟨_, ho2, rfl⟩ noFill_list_add seq_list_add PySem.F.slot_list_add PySem.F.entry_list_add (PySem.F.args_list_add_2 _ _) (list_addW a b vs.toArray ws.toArray n n2 dd dd2 sl sl2 (by simpa using hz)) ⟨ho, ho2, ?_⟩
  rw [e]
  exact h _ _ ((B.heap' (B.hp.push rfl ⟨0, rfl⟩)).perm (.swap ..))
/-- a generator is made -/
theorem call_gen {R : Result → Shared → Prop} {fd : FuncData} {o : Obj} {args : List Value} {binds : List (Str × Value)} {bd : List Stmt}
    (B : Sh h₁ os ((L, nsP m) :: cs) G s) (hlim : h₁.NoLimit) (hroom : A.depth < recursionLimit) (ho : h₁.get? f = some o) (hd : o.data = .func fd) (hco : fd.scope.isCoroutine = false) (hgen : fd.scope.isGenerator = true) (hbody : fd.body = .stmts bd)
    (hcd : h₁.CodeRec fd.code fd.qualname) (hb : BindsTo s fd ⟨args, []⟩ binds) (hcell : ∀ x ∈ fd.scope.names, x.2 ≠ .cell) (hloc : ∀ x ∈ binds, fd.scope.names.lookup x.1 = some .local) (hk : fd.scope.kind = .function)
    (h : ∀ a g gf s' , g = G.size → Sh h₁ os ((L, nsP m) :: (a, genP g) :: (gf, nsP (fun x => binds.reverse.lookup x)) :: cs) (G.push (.fresh (.func bd (newEnv fd.scope gf fd.globals fd.closure (fd.qualname ++ ".<locals>.") (some f) fd.code none fd.builtins)))) s' → R (.ok (.ret (.ref a))) s') :
    codeAny (model prog w) A (.call (.ref f) ⟨args, []⟩) R s := by
  refine codeAny_call_generator hroom (B.hp.old _ _ ho) hd hco hgen hbody (hcd.keeps B.hp.old) (hb _ _ _ _ ?_)
  refine wpAny_newFunctionEnv hcell hloc (fun h' hn hs => ⟨(hlim.keeps B.hp.old).fresh _ hs, ?_⟩) hk
  have H1 : Hp h₁ ((s.heap.objs.size, nsP (fun x => binds.reverse.lookup x)) :: (L, nsP m) :: cs) h' := B.hp.new (fun b o e => hs.extBut b o (Nat.ne_of_lt (Heap.lt_size e)) (Heap.get?_push_of_some _ e)) (Pt.ofNs hn) (Nat.le_refl _)
  have H2 := H1.push (c := genP s.gens.size) (o := { cls := .type "generator", data := .fields #[.int s.gens.size 0, .str fd.name (s.toks + binds.length), .str fd.qualname (s.toks + binds.length + 1)] }) rfl ⟨_, _, rfl, rfl, rfl⟩
  refine h h'.objs.size s.gens.size s.heap.objs.size _ (by rw [← B.gens]) ⟨H2.perm ?_, ?_, B.os⟩
  · apply perm_of_mk
    simp only [Bag.mk_cons, B.gens]
    have h1 := bagA (α := Addr × Cel)
    have h2 := bagC (α := Addr × Cel)
    ac_rfl
  · show s.gens.push _ = _
    rw [B.gens]

theorem unpackT {t : Addr} {vs : List Value} {n : Nat} {Q : List Value → Shared → Prop} (hh : A.handled = none) (B : Sh h₁ os cs G s) (i : (t, tupP vs) ∈ cs) (hn : n = vs.length) (h : ∀ s', Sh h₁ os cs G s' → Q vs s') :
    wpAny (model prog w) A (unpackItems (.ref t) n none) Q E s := by
  have := wpAny_unpackItems_tuple (prog := prog) (w := w) (E := E) (Q := Q) hh (B.get i).tup fun h' x => h _ (B.heap' (B.hp.grow fun b o e => x b o (Nat.ne_of_lt (Heap.lt_size e)) e))
  rw [List.size_toArray, ← hn] at this
  exact this

/-- list of a list's iterator: the way to the loop -/
theorem listIt {it : Addr} {Q : Value → Shared → Prop} (hT : s.TypeIs (.ref it) "list_iterator") (B : Sh h₁ os ((L, nsP m) :: cs) G s) (hi : ∀ s' A' E' Q', Sh h₁ os ((L, nsP m) :: cs) G s' → Q' (.ref it) s' → wpAny (model prog w) A' (pyIter (.ref it)) Q' E' s') (hnew : it < s.heap.objs.size)
    (hty : ∀ s', Sh h₁ os ((L, nsP m) :: cs) G s' → s'.TypeIs (.ref it) "list_iterator")
    (h : ∀ S s', Sh h₁ os ((S, lstP []) :: (L, nsP m) :: cs) G s' → codeAny (model prog w) A.in1 (.builtin "list.extend.loop" ⟨[.ref S, .ref it, .none], []⟩) (fun r s'' => match r with | .ok (.ret v) => v = .none ∧ Q (.ref S) s'' | .ok _ => False | .error e => E e s'') s') :
    wpAny (model prog w) A (call (.type "list") [.ref it]) Q E s := by
  refine callType_codes (Q₁ := fun obj s₁ => obj = .ref s.heap.objs.size ∧ s₁ = { s with heap := s.heap.push { cls := .type "list", data := .seq #[] } }) F.called_list (F.typeCall_list_1 _) F.entry_list_init
    (code_list_new _ ⟨rfl, rfl⟩) fun obj s₁ h₁' => ?_
  obtain ⟨rfl, rfl⟩ := h₁'
  have hS : (s.heap.push { cls := .type "list", data := .seq #[] }).get? s.heap.objs.size = some { cls := .type "list", data := .seq #[] } := Heap.get?_push_size _ rfl
  have B1 : Sh h₁ os ((s.heap.objs.size, lstP []) :: (L, nsP m) :: cs) G { s with heap := s.heap.push { cls := .type "list", data := .seq #[] } } := B.heap' (B.hp.push rfl ⟨0, rfl⟩)
  refine ⟨⟨_, hS, rfl⟩, F.args_list_init_2 _ _, ?_⟩
  show wpAny _ _ (do let old ← Builtin.List.listItems (.ref s.heap.objs.size); Builtin.List.listUpdate (.ref s.heap.objs.size) (fun _ => #[]); letGo old.toList.reverse; Builtin.List.listExtendWith (.ref s.heap.objs.size) (.ref it) .none) _ _ _
  refine wpAny_bind ?_
  unfold Builtin.List.listItems
  refine wpAny_bind (wpAny_seqItems hS rfl (wpAny_pure ?_))
  show wpAny _ _ (updateSeq s.heap.objs.size (fun _ => #[]) >>= fun _ => letGo (#[] : Array Value).toList.reverse >>= fun _ => Builtin.List.listExtendWith (.ref s.heap.objs.size) (.ref it) .none) _ _ _
  refine wpAny_bind (wpAny_updateSeq hS rfl ?_)
  refine wpAny_bind (wpAny_letGo ?_)
  have B2 : Sh h₁ os ((s.heap.objs.size, lstP []) :: (L, nsP m) :: cs) G { s with heap := (s.heap.push { cls := .type "list", data := .seq #[] }).update s.heap.objs.size (Obj.mapSeq (fun _ => (#[] : Array Value))) } :=
    B1.heap' (B1.hp.chgS .here (Heap.SameBut.update ..) ⟨_, Heap.get?_update_self _ hS rfl, _, by simp only [Obj.mapSeq]; rfl⟩)
  have h1 : Builtin.List.listSameRef (.ref s.heap.objs.size) (.ref it) = false := by
    have hSI : s.heap.objs.size ≠ it := Nat.ne_of_gt hnew
    simp [Builtin.List.listSameRef, hSI]
  unfold Builtin.List.listExtendWith
  refine wpAny_bind (wpAny_typeOf (hty _ B2.drop) ?_)
  rw [if_neg (by rw [h1]; decide)]
  refine wpAny_bind (hi _ _ _ _ B2.drop ?_)
  refine wpAny_bind (wpAny_holding ?_)
  unfold Builtin.List.listLengthHint
  refine wpAny_bind (wpAny_specialOf (hty _ B2.drop) F.nolen_li ?_)
  show wpAny _ _ (specialOf (Value.ref it) (Str.ofString "__length_hint__") >>= _) _ _ _
  refine wpAny_bind (wpAny_specialOf (hty _ B2.drop) F.hint_li ?_)
  generalize hid : ("list_iterator.__length_hint__" : String) = id0
  wp_delta
  rw [show splitId id0 = some ("list_iterator", "__length_hint__") from by subst hid; decide +kernel]
  subst hid
  refine wpAny_bind (wpAny_isInstance (b := true) (hty _ B2.drop) (by rw [isSubtype_type]; kernel_rfl) ?_)
  refine wpAny_pure ?_
  rw [if_neg (by decide)]
  refine wpAny_pure ⟨plainId_quiet F.plain_extend_loop _, ?_⟩
  refine codeAny_mono (h _ _ B2) fun r s'' hr => ?_
  cases r with
  | error e => exact hr
  | ok fl => cases fl <;> exact hr
/-- a list's method -/
theorem r_meth {nm : Str} {id : String} {pl : Sem Bool} {a : Addr} {vs : List Value} {cs : Cels} {Q : Value × List Value → Shared → Prop} (B : Sh h₁ os cs G s) (i : (a, lstP vs) ∈ cs) (slot : Slot "list" nm id) (ht : typeOf (.builtin id) = pure (.type "method_descriptor")) (h : Q (.builtin id, [.ref a]) s) :
    wpAny (model prog w) A (getMethod (.ref a) nm pl) Q E s := by
  exact getMethod_list_of slot ht (B.get i).lst (B.get i).lstN h
end
end Mine
end
section
open PySem PySem.W PyProof.Rows
set_option maxRecDepth 100000
namespace Mine
section
variable {prog : Program} {w : World} {A : Around} {Φ : End → Shared → Prop} {s : Shared} {cenv : Env}
end
end Mine
end
section
open PySem PySem.W PyProof.Rows
set_option maxRecDepth 100000
namespace Mine
/-- a cell variable's cell -/
noncomputable def celP (v : Option Value) : Cel := fun o => o.data = .cell v
theorem Pt.celV {h : Heap} {a : Addr} {v : Option Value} (p : Pt h a (celP v)) : h.IsCell a v := p
/-- many new cells at once -/
theorem Hp.many {h₁ h h' : Heap} {cs : Cels} (H : Hp h₁ cs h) (k : ∀ b o, h.get? b = some o → h'.get? b = some o) : ∀ {ns : Cels}, (∀ p ∈ ns, Pt h' p.1 p.2 ∧ h.objs.size ≤ p.1) → (ns.map (·.1)).Nodup → Hp h₁ (ns ++ cs) h'
  | [], _, _ => H.grow k
  | p :: ns, hp, nd => by
    rw [List.map_cons, List.nodup_cons] at nd
    have ih := H.many k (ns := ns) (fun q m => hp q (.tail _ m)) nd.2
    have hpp := hp p (.head _)
    refine ⟨ih.old, fun q m => ?_, ?_⟩
    · rcases List.mem_cons.mp m with rfl | m
      · refine ⟨hpp.1, ?_⟩
        cases e : h₁.get? q.1 with
        | none => rfl
        | some o => exact absurd (Heap.lt_size (H.old _ _ e)) (Nat.not_lt.mpr hpp.2)
      · exact ih.cel q m
    · show (p.1 :: (ns ++ cs).map (·.1)).Nodup
      rw [List.nodup_cons]
      refine ⟨fun m => ?_, ih.nod⟩
      rw [List.map_append, List.mem_append] at m
      rcases m with m | m
      · exact nd.1 m
      · obtain ⟨q, mq, e⟩ := List.mem_map.mp m
        have := (H.cel q mq).1.lt
        have e' : q.1 = p.1 := e
        rw [e'] at this
        exact absurd this (Nat.not_lt.mpr hpp.2)
section
variable {M : Model} {prog : Program} {w : World} {A : Around} {E : Value → Shared → Prop} {s : Shared} {h₁ : Heap} {os : OsState} {cs r : Cels} {G : Array GenState} {env : Env} {x : Str} {pos : Pos} {v : Value} {Q : Value → Shared → Prop} {m mg mb : Str → Option Value} {glV biV : List (Str × Value)} {c : Addr}
theorem e_ld (B : Sh h₁ os ((env.locals, nsP m) :: r) G s) (hv : m x = some v) (hl : env.scope.names.lookup x = some .local) (hk : env.scope.kind = .function) (hd : (x == ("__debug__" : Str)) = false) (h : Q v s) :
    wpAny M A (eval (.Name x pos) env) Q E s := wpAny_Name (wpAny_loadName_local hk hl (B.get (.head _)).ns hv h) hd
theorem e_gl (T : Tp glV biV h₁ mg mb) (B : Sh h₁ os cs G s) (hg : env.globals = mainGlobals) (hv : glV.lookup x = some v) (hl : env.scope.names.lookup x = some .globalImplicit) (hk : env.scope.kind = .function) (hd : (x == ("__debug__" : Str)) = false) (h : Q v s) :
    wpAny M A (eval (.Name x pos) env) Q E s := Calls.Name_function_global hk hl (Calls.loadGlobal_global (env := env) (hg ▸ T.g.keeps B.hp.old) (T.gl x v hv) h) hd
theorem e_bi (T : Tp glV biV h₁ mg mb) (B : Sh h₁ os cs G s) (hg : env.globals = mainGlobals) (hb : env.builtins = builtinsNs) (hv : biV.lookup x = some v) (hl : env.scope.names.lookup x = some .globalImplicit) (hk : env.scope.kind = .function) (hd : (x == ("__debug__" : Str)) = false) (h : Q v s) :
    wpAny M A (eval (.Name x pos) env) Q E s := Calls.Name_function_global hk hl (Calls.loadGlobal_builtin (env := env) (hg ▸ T.g.keeps B.hp.old) (T.bi x v hv).1 (hb ▸ T.b.keeps B.hp.old) (T.bi x v hv).2 h) hd
theorem e_cell (B : Sh h₁ os cs G s) (hc : env.cells.lookup x = some c) (i : (c, celP (some v)) ∈ cs) (hl : env.scope.names.lookup x = some .cell) (hk : env.scope.kind = .function) (hd : (x == ("__debug__" : Str)) = false) (h : Q v s) :
    wpAny M A (eval (.Name x pos) env) Q E s := wpAny_Name (wpAny_loadName_cell hk hl hc (B.get i).celV h) hd
theorem e_st {Q : Unit → Shared → Prop} {l : List (Str × Value)} (B : Sh h₁ os ((env.locals, nsP (frm l)) :: r) G s) (h : ∀ s', Sh h₁ os ((env.locals, nsP (frm ((x, v) :: l))) :: r) G s' → Q () s') (hk : env.scope.kind = .function) (hl : env.scope.names.lookup x = some .local) :
    wpAny M A (storeName env x v) Q E s :=
  wpAny_storeName_local hl (B.get (.head _)).ns (fun h' hn hs => h _ (B.heap (B.hp.chgS .here hs (frm_put l x v ▸ Pt.ofNs hn)) _))
    (by show (env.scope.kind == .class || (env.scope.kind == .module && env.locals != env.globals)) = false; rw [hk]; rfl)
theorem e_stCell {Q : Unit → Shared → Prop} {v₀ : Option Value} (B : Sh h₁ os cs G s) (hc : env.cells.lookup x = some c) (u : Upd c (celP v₀) (celP (some v)) cs r) (h : ∀ s', Sh h₁ os r G s' → Q () s') (hk : env.scope.kind = .function) (hl : env.scope.names.lookup x = some .cell) :
    wpAny M A (storeName env x v) Q E s :=
  wpAny_storeName_cell hk hl hc (B.get u.mem).celV fun h' hv hs => h _ (B.heap' (B.hp.chgS u hs hv))
/-- a def with cells is entered -/
theorem call_fnC {R : Result → Shared → Prop} {name : Str} {pr : Arguments} {bd : List Stmt} {sc : Scope} {f : Addr} {cd : Value} {args : List Value} {binds : List (Str × Value)} {cf : Nat → List (Str × Addr)}
    (F : Fn h₁ f name pr bd sc cd) (B : Sh h₁ os cs G s) (hroom : A.depth < recursionLimit)
    (hbind : ∀ pm doc, bindArgs (Calls.docDef name pr bd sc pm cd doc) ⟨args, []⟩ = pure binds)
    (hloc : ∀ x ∈ binds, sc.names.lookup x.1 = some .local)
    (hm : ∀ L, bindL (envOfC name sc L f cd).kindOf binds (fun _ => none) = m) (hmc : ∀ L, bindC (envOfC name sc L f cd).kindOf binds (fun _ => none) = fun _ => none)
    (hcf : ∀ n, cellsFrom n sc.names [] = cf n) (hlook : ∀ n, ∀ p ∈ cf n, (cf n).lookup p.1 = some p.2)
    (h : ∀ L s', Sh h₁ os ((L, nsP m) :: ((cf (L + 1)).map (fun (p : Str × Addr) => ((p.2, celP none) : Addr × Cel)) ++ cs)) G s' → wpAny (model prog w) (A.deeper (envOfC name sc L f cd)) (execs bd (envOfC name sc L f cd))
      (fun fl s'' => R (.ok (.ret (match fl with | .ret v => v | _ => .none))) s'')
      (fun e s'' => wpAny (model prog w) (A.deeper (envOfC name sc L f cd)) (leaving (envOfC name sc L f cd) e) (fun _ s₃ => R (.error e) s₃) (fun e' s₃ => R (.error e') s₃) s'') s')
    (hco : sc.isCoroutine = false) (hgen : sc.isGenerator = false) (hk : sc.kind = .function) :
    codeAny (model prog w) A (.call (.ref f) ⟨args, []⟩) R s := by
  obtain ⟨o, pm, doc, ho, hd⟩ := F.ex
  refine codeAny_call_cells hroom (B.hp.old _ _ ho) hd (F.lim.keeps B.hp.old) (F.code.keeps B.hp.old) rfl (hbind pm doc) rfl (fun x hx => .inl (hloc x hx)) (fun s₁ X => ?_) hco hgen hk
  obtain ⟨⟨h', tk, rfl⟩, hns, hkeep, hfresh⟩ := X.toInCall
  have hns' : h'.Ns s.heap.objs.size m := by rw [← hm s.heap.objs.size]; exact hns
  have hcel : ∀ p ∈ cf (s.heap.objs.size + 1), h'.IsCell p.2 none ∧ s.heap.objs.size < p.2 := fun p hp => by
    have h1 := X.cell p.1 p.2 (by show (cellsFrom (s.heap.objs.size + 1) sc.names []).lookup p.1 = _; rw [hcf]; exact hlook _ p hp)
    have h2 := X.above p.1 p.2 (by show (p.1, p.2) ∈ cellsFrom (s.heap.objs.size + 1) sc.names []; rw [hcf]; exact hp)
    refine ⟨?_, h2⟩
    have e : bindC (callEnvC (Calls.docDef name pr bd sc pm cd doc) s.heap.objs.size f).kindOf binds (fun _ => none) p.1 = none := congrFun (hmc s.heap.objs.size) p.1
    rw [e] at h1
    exact h1
  refine h s.heap.objs.size _ ⟨B.hp.many (ns := (s.heap.objs.size, nsP m) :: (cf (s.heap.objs.size + 1)).map (fun (p : Str × Addr) => ((p.2, celP none) : Addr × Cel))) hkeep (fun p hp => ?_) ?_, B.gens, B.os⟩
  · rcases List.mem_cons.mp hp with rfl | hp
    · exact ⟨Pt.ofNs hns', Nat.le_refl _⟩
    · obtain ⟨q, hq, rfl⟩ := List.mem_map.mp hp
      exact ⟨(hcel q hq).1, Nat.le_of_lt (hcel q hq).2⟩
  · show (s.heap.objs.size :: ((cf (s.heap.objs.size + 1)).map (fun (p : Str × Addr) => ((p.2, celP none) : Addr × Cel))).map (·.1)).Nodup
    rw [List.nodup_cons, List.map_map]
    refine ⟨fun m => ?_, ?_⟩
    · obtain ⟨q, hq, e⟩ := List.mem_map.mp m
      have := (hcel q hq).2
      have e' : q.2 = s.heap.objs.size := e
      rw [e'] at this
      exact absurd this (Nat.lt_irrefl _)
    · have ap := X.apart
      have ap' : (cf (s.heap.objs.size + 1)).Pairwise fun x y => x.2 ≠ y.2 := by rw [← hcf]; exact ap
      exact List.Pairwise.map _ (fun a b hab => hab) ap'
end
end Mine
end
section
open PySem PySem.W PyProof.Rows
set_option maxRecDepth 100000
namespace Mine
/-- a StopIteration -/
noncomputable def stP : Cel := fun o => o.cls = .type "StopIteration"
theorem entry_unchain : entryFor table "proto.unchain" = some Builtin.«proto.unchain» := entryFor_of_fast (by kernel_rfl)
section
variable {prog : Program} {w : World} {A : Around} {E : Value → Shared → Prop} {s : Shared} {h₁ : Heap} {os : OsState} {cs r : Cels} {G : Array GenState} {e : Addr} {C v0 tb : Value}
/-- StopIteration is raised while an error is handled -/
theorem stop_raiseH {α : Type} {Q : α → Shared → Prop} (hh : A.handled = some (.ref e)) (B : Sh h₁ os cs G s) (i : (e, excP C v0 tb) ∈ cs) (h : ∀ x s', Sh h₁ os ((x, stP) :: cs) G s' → E (.ref x) s') :
    wpAny (model prog w) A (do raiseNew (← newExc (.type "StopIteration") []) : Sem α) Q E s := by
  refine wpAny_bind ?_
  simp only [newExc, newTuple]
  refine wpAny_bind (wpAny_newObj_type ?_ (by size_fits))
  refine wpAny_bind (m := firstArgMember _ _) (wpAny_of_eq (a := Value.none) (by first | rfl | (simp only [firstArgMember]; rfl)) ?_)
  refine wpAny_newObj_type ?_ (by size_fits)
  simp only [raiseNew]
  have B2 := B.heap' (B.hp.grow fun b o e => Heap.get?_push_of_some (h := s.heap) { cls := .type "tuple", data := .seq ([] : List Value).toArray } e)
  have B3 := B2.heap' (B2.hp.push (c := fun o => o.cls = .type "StopIteration" ∧ ∃ vs : Array Value, o.data = .fields vs ∧ 2 < vs.size) (o := { cls := .type "StopIteration", data := .fields (#[.ref s.heap.objs.size, .none, .none, .none, .bool false, .none] ++ ownMembersOf (.type "StopIteration") []) }) rfl ⟨rfl, _, rfl, by simp; omega⟩)
  refine wpAny_bind (wpAny_bind (wpAny_handled ?_))
  rw [hh]
  have hlt := (B2.get i).lt
  have hne : e ≠ (s.heap.push { cls := .type "tuple", data := .seq ([] : List Value).toArray }).objs.size := Nat.ne_of_lt hlt
  refine wpAny_pure ?_
  show wpAny _ A (if (Value.ref e != Value.ref (s.heap.push { cls := .type "tuple", data := .seq ([] : List Value).toArray }).objs.size) = true then _ else _) Q E _
  rw [if_pos (by simpa using hne)]
  obtain ⟨oe, he, hcl, hd⟩ := B3.get (.tail _ i)
  refine wpAny_bind (wpAny_holding (wpAny_runValue (codeAny_builtin entry_unchain ?_)))
  show wpAny _ _ (field (.ref e) 2 >>= _) _ _ _
  refine wpAny_bind (wpAny_field he hd (x := .none) rfl ?_)
  rw [if_pos (show (Value.none == Value.none) = true from rfl)]
  refine wpAny_bind (wpAny_pure ?_)
  refine wpAny_pure ?_
  show wpAny (model prog w) A (updateField (s.heap.push { cls := .type "tuple", data := .seq ([] : List Value).toArray }).objs.size 2 (.ref e) >>= fun _ => throw (Value.ref (s.heap.push { cls := .type "tuple", data := .seq ([] : List Value).toArray }).objs.size)) Q E _
  obtain ⟨ox, hx, hxc, vs, hxd, hxs⟩ := B3.get (.head _)
  refine wpAny_bind ?_
  unfold updateField
  refine wpAny_bind (wpAny_load hx ?_)
  rw [hxd]
  show wpAny _ A (if 2 < vs.size then _ else _) _ _ _
  rw [if_pos hxs]
  refine wpAny_update hx (wpAny_throw (h _ _ (B3.heap' (B3.hp.chgS .here (Heap.SameBut.update ..) ⟨_, Heap.get?_update_self _ hx (Obj.isFreed_of_fields (Obj.data_mapFields hxd _)), (Obj.cls_mapFields ..).trans hxc⟩))))

/-- nothing is handled, or an error of the cells is -/
noncomputable def Hd (A : Around) (cs : Cels) : Prop := A.handled = none ∨ ∃ e C v0 tb, A.handled = some (.ref e) ∧ (e, excP C v0 tb) ∈ cs
theorem Hd.sub {cs' : Cels} (h : Hd A cs) (k : ∀ p ∈ cs, p ∈ cs') : Hd A cs' := h.imp id fun ⟨e, C, v0, tb, a, b⟩ => ⟨e, C, v0, tb, a, k _ b⟩
theorem Hd.upd {h : Heap} {a : Addr} {c c' : Cel} {cs' : Cels} (H : Hd A cs) (P : Hp h₁ cs h) (u : Upd a c c' cs cs') (hc : ∀ o C v0 tb, c o → ¬ excP C v0 tb o) : Hd A cs' := H.imp id fun ⟨e, C, v0, tb, x, y⟩ => ⟨e, C, v0, tb, x, u.keep y fun q => by
  have q' : e = a := q
  subst q'
  obtain ⟨o, ho, hq⟩ := P.get y
  obtain ⟨o', ho', hq'⟩ := P.get u.mem
  rw [ho] at ho'
  cases ho'
  exact hc o C v0 tb hq' hq⟩
theorem stop_any {α : Type} {Q : α → Shared → Prop} (hh : Hd A cs) (B : Sh h₁ os cs G s) (h : ∀ x s', Sh h₁ os ((x, stP) :: cs) G s' → E (.ref x) s') :
    wpAny (model prog w) A (do raiseNew (← newExc (.type "StopIteration") []) : Sem α) Q E s := by
  rcases hh with hh | ⟨e, C, v0, tb, hh, i⟩
  · refine stop_raise hh B fun x v0 s' F => h x s' ?_
    exact ⟨(show Sh h₁ os ((x, excP (.type "StopIteration") v0 .none) :: cs) G s' from F).hp.weak .here fun o q => q.1, F.sh.gens, F.sh.os⟩
  · exact stop_raiseH hh B i h
theorem caught_any {Q : Option Value → Shared → Prop} {x : Addr} (B : Sh h₁ os ((x, stP) :: cs) G s) (h : Q none s) :
    wpAny (model prog w) A (do if ← isInstance (.ref x) (.type "StopIteration") then pure none else throw (.ref x) : Sem (Option Value)) Q E s := by
  obtain ⟨oe, he, hcl⟩ := B.get (.head _)
  refine wpAny_bind (wpAny_isInstance (T := "StopIteration") (b := true) ⟨_, he, hcl⟩ isSubtype_stop ?_)
  exact wpAny_pure h
theorem lit_not_exc {l : Addr} {i : Nat} : ∀ o C v0 tb, litP l i o → ¬ excP C v0 tb o := fun o C v0 tb h g => by
  have := h.2.symm.trans g.2
  simp at this
theorem x_lit_endX {vs : List Value} {it l : Addr} {i : Nat} {Q : Option Value → Shared → Prop} (hh : Hd A cs) (B : Sh h₁ os cs G s) (u : Upd it (litP l i) lendP cs r) (hl : s.heap.IsList l vs.toArray) (hx : vs[i]? = none)
    (h : ∀ s', Sh h₁ os r G s' → Q none s') : wpAny (model prog w) A (pyNext (.ref it)) Q E s := by
  have hit := (B.get u.mem).lit
  have hh' := hh.upd B.hp u lit_not_exc
  obtain ⟨o, ho, hc, hd⟩ := B.get u.mem
  obtain ⟨ol, hol, _, nl, hdl⟩ := hl
  unfold pyNext
  refine wpAny_bind (wpAny_attempt (wpAny_callSpecial?_slot (name := Str.ofString "__next__") hit.typeIs slot_listiter_next
    (wpAny_call_entry slot_listiter_next hit.typeIs entry_listiter_next ?_ (args_listiter_next _))))
  show wpAny _ _ (field (.ref it) 0 >>= _) _ _ s
  refine wpAny_bind (wpAny_field ho hd (x := .ref l) rfl ?_)
  show wpAny _ _ (if (Value.ref l == Value.none) = true then _ else _) _ _ s
  rw [if_neg (show ¬ ((Value.ref l == Value.none) = true) from Bool.false_ne_true)]
  show wpAny _ _ (field (.ref it) 1 >>= _) _ _ s
  refine wpAny_bind (wpAny_field ho hd (x := .int i 0) rfl ?_)
  show wpAny _ _ (seqItems? (.ref l) >>= _) _ _ s
  refine wpAny_bind (wpAny_seqItems hol hdl ?_)
  simp only [Int.toNat_natCast, List.getElem?_toArray, hx]
  refine wpAny_bind (wpAny_rule (wpAny_bind (wpAny_setField ho hd (by simp) ?_)))
  have B2 : Sh h₁ os r G { s with heap := s.heap.update it (Obj.mapFields (·.setIfInBounds 0 .none)) } :=
    B.heap' (B.hp.chgS u (Heap.SameBut.update ..) ⟨_, Heap.get?_update_self _ ho (Obj.isFreed_of_fields (Obj.data_mapFields hd _)), (Obj.cls_mapFields ..).trans hc, _, Obj.data_mapFields hd _⟩)
  refine stop_any (A := A.in1) hh' B2 fun x s' F => ?_
  exact caught_any F (h s' F.drop)
theorem x_lit_doneX {it : Addr} {Q : Option Value → Shared → Prop} (hh : Hd A cs) (B : Sh h₁ os cs G s) (i : (it, lendP) ∈ cs)
    (h : ∀ s', Sh h₁ os cs G s' → Q none s') : wpAny (model prog w) A (pyNext (.ref it)) Q E s := by
  have hT := (B.get i).lendT
  obtain ⟨o, ho, hc, v, hd⟩ := B.get i
  unfold pyNext
  refine wpAny_bind (wpAny_attempt (wpAny_callSpecial?_slot (name := Str.ofString "__next__") hT slot_listiter_next
    (wpAny_call_entry slot_listiter_next hT entry_listiter_next ?_ (args_listiter_next _))))
  show wpAny _ _ (field (.ref it) 0 >>= _) _ _ s
  refine wpAny_bind (wpAny_field ho hd (x := .none) rfl ?_)
  show wpAny _ _ (if (Value.none == Value.none) = true then _ else _) _ _ s
  rw [if_pos (show (Value.none == Value.none) = true from rfl)]
  refine wpAny_bind (wpAny_rule (wpAny_bind (stop_any (A := A.in1) hh B fun x s' F => ?_)))
  exact caught_any F (h s' F.drop)
end
end Mine
end
section
open PySem PySem.W PyProof.Rows
set_option maxRecDepth 100000
namespace Mine
section
variable {prog : Program} {w : World} {A : Around} {E : Value → Shared → Prop} {s : Shared} {h₁ : Heap} {os : OsState} {cs r : Cels} {G : Array GenState}
end

section
variable {M : Model} {A : Around} {E : Value → Shared → Prop} {s : Shared} {h₁ : Heap} {os : OsState} {cs r : Cels} {G : Array GenState} {x : Str} {pos : Pos} {v : Value} {Q : Value → Shared → Prop} {m mg mb : Str → Option Value} {glV biV : List (Str × Value)} {c L f : Addr} {name : Str} {sc : Scope} {cd : Value}
theorem c_ld (B : Sh h₁ os ((L, nsP m) :: r) G s) (hv : m x = some v) (hl : sc.names.lookup x = some .local) (hk : sc.kind = .function) (hd : (x == ("__debug__" : Str)) = false) (h : Q v s) :
    wpAny M A (eval (.Name x pos) (envOfC name sc L f cd)) Q E s := e_ld (env := envOfC name sc L f cd) B hv hl hk hd h
theorem c_gl (T : Tp glV biV h₁ mg mb) (B : Sh h₁ os cs G s) (hv : glV.lookup x = some v) (hl : sc.names.lookup x = some .globalImplicit) (hk : sc.kind = .function) (hd : (x == ("__debug__" : Str)) = false) (h : Q v s) :
    wpAny M A (eval (.Name x pos) (envOfC name sc L f cd)) Q E s := e_gl (env := envOfC name sc L f cd) T B rfl hv hl hk hd h
theorem c_bi (T : Tp glV biV h₁ mg mb) (B : Sh h₁ os cs G s) (hv : biV.lookup x = some v) (hl : sc.names.lookup x = some .globalImplicit) (hk : sc.kind = .function) (hd : (x == ("__debug__" : Str)) = false) (h : Q v s) :
    wpAny M A (eval (.Name x pos) (envOfC name sc L f cd)) Q E s := e_bi (env := envOfC name sc L f cd) T B rfl rfl hv hl hk hd h
theorem c_cell (B : Sh h₁ os cs G s) (hc : (envOfC name sc L f cd).cells.lookup x = some c) (i : (c, celP (some v)) ∈ cs) (hl : sc.names.lookup x = some .cell) (hk : sc.kind = .function) (hd : (x == ("__debug__" : Str)) = false) (h : Q v s) :
    wpAny M A (eval (.Name x pos) (envOfC name sc L f cd)) Q E s := e_cell (env := envOfC name sc L f cd) B hc i hl hk hd h
theorem c_set {Q : Unit → Shared → Prop} {l : List (Str × Value)} (B : Sh h₁ os ((L, nsP (frm l)) :: r) G s) (h : ∀ s', Sh h₁ os ((L, nsP (frm ((x, v) :: l))) :: r) G s' → Q () s') (hk : sc.kind = .function) (hl : sc.names.lookup x = some .local) :
    wpAny M A (storeName (envOfC name sc L f cd) x v) Q E s := e_st (env := envOfC name sc L f cd) B h hk hl
theorem c_setCell {Q : Unit → Shared → Prop} {v₀ : Option Value} (B : Sh h₁ os cs G s) (hc : (envOfC name sc L f cd).cells.lookup x = some c) (u : Upd c (celP v₀) (celP (some v)) cs r) (h : ∀ s', Sh h₁ os r G s' → Q () s') (hk : sc.kind = .function) (hl : sc.names.lookup x = some .cell) :
    wpAny M A (storeName (envOfC name sc L f cd) x v) Q E s := e_stCell (env := envOfC name sc L f cd) B hc u h hk hl
variable {cl : List (Str × Addr)} {code : Value} {bi : Addr} {env : Env}
end
end Mine
end
section
open PySem PySem.W PyProof.Rows
set_option maxRecDepth 100000
namespace Mine
structure Cd (h₁ : Heap) (c P : Addr) : Prop where
  ex : ∃ o vs file tf flags tg inF text tt, h₁.get? c = some o ∧ o.cls = .type "code" ∧ o.data = .fields vs ∧ vs.getD 11 .none = .ref P ∧ vs.getD 18 .none = .str file tf ∧ vs.getD 7 .none = .int flags tg ∧ vs.getD 9 .none = .bool inF ∧ vs.getD 10 .none = .int text tt ∧ c ≠ P ∧ vs[11]? = some (.ref P)
structure Bmod (h₁ : Heap) (mg : Str → Option Value) : Prop where
  ex : ∃ bm o, mg (Str.ofString "__builtins__") = some (.ref bm) ∧ bm ≠ builtinsNs ∧ h₁.get? bm = some o ∧ o.cls = .type "module" ∧ o.dict = some builtinsNs ∧ o.data = .plain
section
variable {M : Model} {A : Around} {E : Value → Shared → Prop} {s : Shared} {h₁ : Heap} {os : OsState} {cs r : Cels} {G : Array GenState} {c P L : Addr} {env : Env} {ps : Array Value} {m mg mb : Str → Option Value} {glV biV : List (Str × Value)}
end
end Mine
end
section
open PySem PySem.W PyProof.Rows
set_option maxRecDepth 100000
namespace Mine
/-- equal by sight -/
inductive Sv : Value → Value → Prop
  | same (v : Value) : Sv v v
  | int (a : Int) (t u : Tok) : Sv (.int a t) (.int a u)
theorem Sv.eqAt {A : Around} {s : Shared} {v u : Value} (h : Sv v u) : SeqAt.EqAt A s v u true := by
  cases h with
  | same v =>
    intro prog w E Q h
    unfold eqBool
    refine wpAny_holding ?_
    rw [if_pos (by simp)]
    exact wpAny_bind (wpAny_rule (wpAny_pure h))
  | int a t u =>
    have := SeqAt.EqAt.int_int (A := A) (s := s) a t a u
    rw [beq_self_eq_true] at this
    exact this
inductive Svs : List Value → List Value → Prop
  | nil : Svs [] []
  | cons {v u vs us} : Sv v u → Svs vs us → Svs (v :: vs) (u :: us)
theorem Svs.length : ∀ {vs us}, Svs vs us → vs.length = us.length
  | _, _, .nil => rfl
  | _, _, .cons _ r => by simp [r.length]
theorem Svs.get : ∀ {vs us : List Value}, Svs vs us → ∀ (j : Nat) (h1 : j < vs.length) (h2 : j < us.length), Sv vs[j] us[j]
  | _, _, .cons h _, 0, _, _ => h
  | _, _, .cons _ r, j + 1, h1, h2 => r.get j (by simpa using h1) (by simpa using h2)
theorem Svs.ofInts : ∀ {vs us : List Value} {ns : List Int}, IntsAre vs ns → IntsAre us ns → Svs vs us
  | _, _, _, .nil, .nil => .nil
  | _, _, _, .cons _ _ r, .cons _ _ q => .cons (.int _ _ _) (Svs.ofInts r q)
theorem Svs.refl : ∀ vs : List Value, Svs vs vs
  | [] => .nil
  | v :: vs => .cons (.same v) (Svs.refl vs)
section
variable {prog : Program} {w : World} {A : Around} {E : Value → Shared → Prop} {s : Shared} {h₁ : Heap} {os : OsState} {cs r : Cels} {G : Array GenState} {a b : Addr} {vs us : List Value} {Q : Value → Shared → Prop}
theorem r_neL (hl : s.heap.IsList a vs.toArray) (hb : s.heap.IsList b us.toArray) (hv : Svs vs us) (hu : A.units < cLine) (h : Q (.bool false) s) : wpAny (model prog w) A (compareOp .NotEq (.ref a) (.ref b)) Q E s := by
  have e : (List.range vs.toArray.size).all (fun _ => true) = true := by simp
  have := SeqAt.RcNeAt.lists (A := A) (s := s) (e := fun _ => true) hl hb (by simpa using hv.length) hu (fun j h1 h2 => (by simpa using (hv.get j (by simpa using h1) (by simpa using h2)).eqAt))
  rw [e] at this
  exact this prog w E Q h
/-- a slice of a list -/
theorem r_sliceG {env : Env} {value : PySem.Expr} {lower upper : Option PySem.Expr} {p pos : Pos}
    (h : wpAny (model prog w) A (eval value env) (fun o s₁ => wpAny (model prog w) A (evalPart lower env) (fun vl s₂ => wpAny (model prog w) A (evalPart upper env) (fun vu s₃ =>
      ∃ h₁ os L m cs G a vs lo hi, o = .ref a ∧ Sh h₁ os ((L, nsP m) :: cs) G s₃ ∧ (a, lstP vs) ∈ cs ∧ vs.length ≤ sizeLine ∧ IsPart vl lo ∧ IsPart vu hi ∧
        ∀ b s', Sh h₁ os ((L, nsP m) :: (b, lstP (slicePick vs.toArray lo hi none).toList) :: cs) G s' → Q (.ref b) s') E s₂) E s₁) E s)
    (ht : ∀ o r, letTemporaryGo value o r = pure () := by intro _ _; rfl) :
    wpAny (model prog w) A (eval (.Subscript value (.Slice lower upper none p) pos) env) Q E s := by
  refine wpAny_Subscript_list_slice (wpAny_mono h (fun o s₁ h₁' => wpAny_mono h₁' (fun vl s₂ h₂ => wpAny_mono h₂ (fun vu s₃ h₃ => ?_) fun _ _ e => e) fun _ _ e => e) fun _ _ e => e) ht
  obtain ⟨h₁, os, L, m, cs, G, a, vs, lo, hi, rfl, B, hm, hz, pl, pu, hQ⟩ := h₃
  refine ⟨a, vs.toArray, lo, hi, rfl, (B.get (.tail _ hm)).lst, by simpa using hz, pl, pu, ?_⟩
  have B2 := B.heap' (B.hp.grow fun b o e => Heap.get?_push_of_some (h := s₃.heap) { cls := .type "slice", data := .fields #[vl, vu, .none] } e)
  have B3 := (B2.heap' (B2.hp.push (c := lstP (slicePick vs.toArray lo hi none).toList) (o := { cls := .type "list", data := .seq (slicePick vs.toArray lo hi none) }) rfl ⟨0, by rw [Array.toArray_toList]⟩)).perm (List.Perm.swap ..)
  rw [Heap.size_push] at B3
  exact hQ _ _ B3
theorem r_sum {ns : List Int} (hh : A.handled = none) (B : Sh h₁ os cs G s) (hl : s.heap.IsList a vs.toArray) (hi : IntsAre vs ns) (h : ∀ t s', Sh h₁ os cs G s' → Q (.int ns.sum t) s') :
    wpAny (model prog w) A (call (.builtin "sum") [.ref a]) Q E s := by
  obtain ⟨xs, e⟩ := hi.allInts.items
  rw [e] at hl
  refine sum_intListG hh hl fun h' tk t' hk => ?_
  have := h t' _ (B.heap (B.hp.grow hk) tk)
  rw [preSum_eq, List.take_of_length_le (by simp), ← nums_intItems, ← e, hi.numsOf]
  exact this
theorem r_min {ns : List Int} (hh : A.handled = none) (B : Sh h₁ os cs G s) (hl : s.heap.IsList a vs.toArray) (hi : IntsAre vs ns) (hne : ns ≠ []) (h : ∀ k t s', k ∈ ns → (∀ x ∈ ns, k ≤ x) → Sh h₁ os cs G s' → Q (.int k t) s') :
    wpAny (model prog w) A (call (.builtin "min") [.ref a]) Q E s := by
  obtain ⟨xs, e⟩ := hi.allInts.items
  rw [e] at hl
  have hns : ns = xs.toList.map (·.1) := by rw [← hi.numsOf, ← nums_intItems, ← e]
  have hsz : 0 < xs.size := by
    rcases Nat.eq_zero_or_pos xs.size with z | z
    · exfalso; apply hne; rw [hns]; simp [Array.eq_empty_of_size_eq_zero z]
    · exact z
  refine min_intList hh hl hsz fun v h' tk hv hk => ?_
  obtain ⟨hle, hall⟩ := argBest_lt (numAt xs) (xs.size - 1)
  generalize argBest (fun i j => decide (numAt xs i < numAt xs j)) (xs.size - 1) = j at hv hle hall
  have hj : j < xs.size := by omega
  have hat : ∀ i (hi : i < xs.size), numAt xs i = xs[i].1 := fun i hi => by simp [numAt, hi]
  have hv' : v = .int xs[j].1 xs[j].2 := by
    simp [intItems, hj] at hv
    exact hv.symm
  subst hv'
  refine h _ _ _ ?_ ?_ (B.heap (B.hp.grow hk) tk)
  · rw [hns]
    exact List.mem_map.mpr ⟨xs[j], by simp, rfl⟩
  · intro x hx
    rw [hns] at hx
    obtain ⟨p, hp, rfl⟩ := List.mem_map.mp hx
    obtain ⟨i, hi, rfl⟩ := List.mem_iff_getElem.mp hp
    have hi' : i < xs.size := by simpa using hi
    have := hall i (by omega)
    rw [hat j hj, hat i hi'] at this
    simpa using this
theorem mulL_meets {l : Addr} {x : Value} {k : Nat} {z : Int} {u : Tok} (h0 : 0 ≤ z) (h1 : z ≤ 1000) : Meets (Builtin.«list.__mul__» ⟨[.ref l, .int z u], []⟩) (fun _ R s => s.heap.get? l = some { cls := .type "list", dict := none, data := .seq [x].toArray k, slots := #[] } ∧ R (.ok (.ret (Value.ref s.heap.objs.size))) { s with heap := s.heap.push { cls := Value.type "list", data := Data.seq (List.replicate z.toNat x).toArray }, toks := s.toks }) := by
  have e : ∀ (n : Nat) (acc : Array Value), List.foldl (fun x1 x2 => x1 ++ x2) acc (List.replicate n #[x]) = acc ++ (List.replicate n x).toArray := by
    intro n
    induction n with
    | zero => intro acc; simp
    | succ n ih => intro acc; rw [List.replicate_succ, List.foldl_cons, ih]; apply Array.ext'; simp [List.replicate_succ]
  have e2 := e z.toNat #[]
  rw [Array.empty_append] at e2
  rw [← e2]
  have hq : z.toNat ≤ 1000 := by omega
  refine AutoListH.list___mul___list_int_3 l #[x] k z u (by simp [Builtin.List.listFitsIndex]; omega) ?_ (by simp [Builtin.List.listTooLong, sizeLine]; omega)
  generalize z.toNat = q at hq
  simp only [List.size_toArray, List.length_cons, List.length_nil]
  omega
theorem r_mulL {L : Addr} {m : Str → Option Value} {x : Value} {z : Int} {u : Tok} (B : Sh h₁ os ((L, nsP m) :: cs) G s) (i : (a, lstP [x]) ∈ cs) (h0 : 0 ≤ z) (h1 : z ≤ 1000) (h : ∀ b s', Sh h₁ os ((L, nsP m) :: (b, lstP (List.replicate z.toNat x)) :: cs) G s' → Q (.ref b) s') :
    wpAny (model prog w) A (binaryOp .Mult (.ref a) (.int z u)) Q E s := by
  obtain ⟨o, ho, k, rfl⟩ := B.get (.tail _ i)
  exact wpAny_binaryOp_repeat_ref (T := "list") (U := "int") (by decide) ⟨_, ho, rfl⟩ (fun s' => typeIs_int s' z u) noFill_list_mul F.fills_int_mul F.slot_int_rmul repeat_list F.slot_int_index.lookup
    (call_meets F.slot_int_rmul (typeIs_int s z u) F.entry_int_rmul (F.args_int_rmul_2 _ _) (int___rmul___int_list z u a _ k)
      ⟨ho, rfl, ⟨_, ho, rfl⟩, call_meets F.slot_list_mul ⟨_, ho, rfl⟩ F.entry_list_mul (F.args_list_mul_2 _ _) (mulL_meets h0 h1)
        ⟨ho, h _ _ ((B.heap' (B.hp.push rfl ⟨0, rfl⟩)).perm (.swap ..))⟩⟩)
end
end Mine
end
section
open PySem PySem.W PyProof.Rows
set_option maxRecDepth 100000
namespace Mine
/-- what is given one by one -/
structure Src (prog : Program) (w : World) (A : Around) (h₁ : Heap) (os : OsState) (it : Value) (n : Nat) (V : Nat → Value → Prop) (iC : Nat → Cels) (rem : Cels) : Prop where
  nxI : ∀ i E (Q : Option Value → Shared → Prop) s C m cs G, i < n → Sh h₁ os ((C, nsP m) :: (iC i ++ cs)) G s → (∀ v s', V i v → Sh h₁ os ((C, nsP m) :: (iC (i + 1) ++ cs)) G s' → Q (some v) s') → wpAny (model prog w) A (pyNext it) Q E s
  nxE : ∀ E (Q : Option Value → Shared → Prop) s C m cs G, Sh h₁ os ((C, nsP m) :: (iC n ++ cs)) G s → (∀ s', Sh h₁ os ((C, nsP m) :: (rem ++ cs)) G s' → Q none s') → wpAny (model prog w) A (pyNext it) Q E s
  self : ∀ E (Q : Value → Shared → Prop) s C m cs G, Sh h₁ os ((C, nsP m) :: (iC 0 ++ cs)) G s → Q it s → wpAny (model prog w) A (pyIter it) Q E s
section
variable {prog : Program} {w : World} {A : Around} {E : Value → Shared → Prop} {s : Shared} {h₁ : Heap} {os : OsState} {cs : Cels} {G : Array GenState} {env : Env}
theorem Src.list {it a : Addr} {vs : List Value} (hh : A.handled = none) : Src prog w A h₁ os (.ref it) vs.length (fun i v => vs[i]? = some v) (fun i => [(it, litP a i), (a, lstP vs)]) [(a, lstP vs)] where
  nxI := fun i E Q s C m cs G hi B h => nx_listI hi B h
  nxE := fun E Q s C m cs G B h => x_lit_end hh B (.there .here) (B.get (.tail _ (.tail _ (.head _)))).lst (by simp) fun s' B' => h s' (B'.sub (.cons_cons _ (.cons _ (.refl _))))
  self := fun E Q s C m cs G B h => i_lit (B.get (.tail _ (.head _))).lit h
theorem Src.range {it : Addr} {n : Nat} (hh : A.handled = none) : Src prog w A h₁ os (.ref it) n (fun i v => ∃ t, v = .int i t) (fun i => [(it, ritP i ((n : Int) - i))]) [] where
  nxI := fun i E Q s C m cs G hi B h => nx_rngI hi B h
  nxE := fun E Q s C m cs G B h => nx_rngE hh B h
  self := fun E Q s C m cs G B h => wpAny_pyIter_rangeiter (B.get (.tail _ (.head _))).is h
noncomputable abbrev testsOf (ifs : List PySem.Expr) (env : Env) : Sem Bool := forIn ifs true fun c r => if r = true then do let ok ← isTrue c env (eval c env); pure (ForInStep.yield ok) else pure (ForInStep.yield r)
theorem lc_core {elt iter : PySem.Expr} {x : Str} {px : Pos} {ifs : List PySem.Expr} {scope : Scope} {cl : List (Str × Addr)} {pos : Pos} {it : Value} {n : Nat} {V : Nat → Value → Prop} {iC : Nat → Cels} {rem : Cels} {m : Str → Option Value} {RR : Value → Addr → Result → Shared → Prop}
    (S : Src prog w A h₁ os it n V iC rem) (hsz : n ≤ sizeLine) (hcell : ∀ y ∈ scope.names, y.2 ≠ .cell) (hkind : scope.kind = .function) (hx : scope.names.lookup x = some .local)
    (Inv : Nat → List Value → Prop) (h0 : Inv 0 []) (B : Sh h₁ os ((env.locals, nsP m) :: (iC 0 ++ cs)) G s)
    (step : ∀ i v ys C D mC s (E' : Value → Shared → Prop), i < n → V i v → Inv i ys → mC x = some v → Sh h₁ os ((C, nsP mC) :: (D, lstP ys) :: (env.locals, nsP m) :: (iC (i + 1) ++ cs)) G s →
      wpAny (model prog w) A (testsOf ifs (compEnvC scope cl C env)) (fun ok s' => if ok = true then wpAny (model prog w) A (eval elt (compEnvC scope cl C env)) (fun y s'' => Inv (i + 1) (ys ++ [y]) ∧ Sh h₁ os ((C, nsP mC) :: (D, lstP ys) :: (env.locals, nsP m) :: (iC (i + 1) ++ cs)) G s'') E' s'
        else Inv (i + 1) ys ∧ Sh h₁ os ((C, nsP mC) :: (D, lstP ys) :: (env.locals, nsP m) :: (iC (i + 1) ++ cs)) G s') E' s)
    (fin : ∀ C D ys mC s', Inv n ys → Sh h₁ os ((C, nsP mC) :: (D, lstP ys) :: (env.locals, nsP m) :: (rem ++ cs)) G s' → RR (.ref D) C (.ok .next) s') :
    wpAny (model prog w) A (newList []) (fun acc s₃ => wpAny (model prog w) A (newFunctionEnv scope env.globals cl [] env.qual none .none (some env)) (fun cenv s₄ =>
      codeAny (model prog w) A (.compStart (.ListComp elt [⟨.Name x px, iter, ifs, 0⟩] scope pos) 0 it acc { cenv with scope := relabel scope env }) (RR acc cenv.locals) s₄) E s₃) E s := by
  refine wpAny_newList ?_ (by size_fits)
  have B1 := B.heap' (B.hp.push (c := lstP []) (o := { cls := .type "list", data := .seq ([] : List Value).toArray }) rfl ⟨0, rfl⟩)
  refine wpAny_newFunctionEnv hcell (by intro y hy; simp at hy) (fun h' hn hs => ?_) hkind
  have B2 := B1.heap (t := s.toks + ([] : List (Str × Value)).length) (B1.hp.new (a := (s.heap.push { cls := .type "list", data := .seq ([] : List Value).toArray }).objs.size) (fun b o e => hs.extBut b o (Nat.ne_of_lt (Heap.lt_size e)) (Heap.get?_push_of_some _ e)) (Pt.ofNs hn) (Nat.le_refl _))
  generalize (s.heap.push { cls := .type "list", data := .seq ([] : List Value).toArray }).objs.size = C at B2
  generalize s.heap.objs.size = D at B2
  generalize (fun x => List.lookup x ([] : List (Str × Value)).reverse) = mC at B2
  have B3 := B2.perm (cs' := (C, nsP mC) :: (iC 0 ++ (D, lstP []) :: (env.locals, nsP m) :: cs)) (by
    refine .cons _ ?_
    refine (List.Perm.cons _ List.perm_middle.symm).trans List.perm_middle.symm)
  have loop : ∀ s₀ : Shared, Sh h₁ os ((C, nsP mC) :: (iC 0 ++ (D, lstP []) :: (env.locals, nsP m) :: cs)) G s₀ → codeAny (model prog w) A (.compLoop (.ListComp elt [⟨.Name x px, iter, ifs, 0⟩] scope pos) 0 it (.ref D) (compEnvC scope cl C env)) (RR (.ref D) C) s₀ := by
    intro s₀ B0
    refine codeAny_compLoop_tests (fun k s' => ∃ i ys mC, i ≤ n ∧ k = n - i ∧ ys.length ≤ i ∧ Inv i ys ∧ Sh h₁ os ((C, nsP mC) :: (iC i ++ (D, lstP ys) :: (env.locals, nsP m) :: cs)) G s') ?_ n ⟨0, [], mC, Nat.zero_le _, rfl, Nat.zero_le _, h0, B0⟩
    rintro k s' ⟨i, ys, mC, hi, rfl, hl, hI, B'⟩
    rcases Nat.lt_or_eq_of_le hi with hi | rfl
    · refine S.nxI i _ _ s' C mC _ G hi B' fun v s'' hV B'' => ?_
      refine wpAny_assign_Name (wpAny_storeName_local (env := compEnvC scope cl C env) (lookup_relabel_local hx) (B''.get (.head _)).ns (fun h' hn hs => ?_) (by show (scope.kind == .class || (scope.kind == .module && _)) = false; rw [hkind]; rfl))
      have B4 := B''.heap (t := s''.toks + 1) (B''.hp.chgS .here hs (Pt.ofNs hn))
      have hm : (fun y => if y = x then some v else mC y) x = some v := if_pos rfl
      generalize (fun y => if y = x then some v else mC y) = mC' at B4 hm
      have P : ∀ ys, ((C, nsP mC') :: (iC (i + 1) ++ (D, lstP ys) :: (env.locals, nsP m) :: cs)).Perm ((C, nsP mC') :: (D, lstP ys) :: (env.locals, nsP m) :: (iC (i + 1) ++ cs)) := fun ys =>
        .cons _ (List.perm_middle.trans (.cons _ List.perm_middle))
      refine wpAny_mono (step i v ys C D mC' _ _ hi hV hI hm (B4.perm (P ys))) (fun ok s₃ h₃ => ?_) fun _ _ e => e
      cases ok with
      | false =>
        rw [if_neg (by decide)] at h₃ ⊢
        exact ⟨n - (i + 1), by omega, i + 1, ys, mC', hi, rfl, by omega, h₃.1, h₃.2.perm (P ys).symm⟩
      | true =>
        rw [if_pos rfl] at h₃ ⊢
        refine wpAny_mono h₃ (fun y s₄ h₄ => ?_) fun _ _ e => e
        refine r_append h₄.2 (.there .here) (by omega) fun s₅ B₅ => ?_
        exact ⟨n - (i + 1), by omega, i + 1, ys ++ [y], mC', hi, rfl, by simp; omega, h₄.1, B₅.perm (P (ys ++ [y])).symm⟩
    · refine S.nxE _ _ s' C mC _ G B' fun s'' B'' => ?_
      exact fin C D ys mC s'' hI (B''.perm (.cons _ (List.perm_middle.trans (.cons _ List.perm_middle))))
  exact codeAny_compStart_list (loop _ B3) (S.self _ _ _ C mC _ G B3 (loop _ B3))
/-- a list display by a loop, as a value -/
theorem lc_eval {elt iter : PySem.Expr} {x : Str} {px : Pos} {ifs : List PySem.Expr} {scope : Scope} {cl : List (Str × Addr)} {pos : Pos} {Q : Value → Shared → Prop}
    (hclos : closureFor scope env = pure cl) (hcell : ∀ y ∈ scope.names, y.2 ≠ .cell) (hkind : scope.kind = .function) (hnames : ∀ y ∈ scope.names, y.2 = .local → scope.names.lookup y.1 = some .local) (hx : scope.names.lookup x = some .local)
    (h : wpAny (model prog w) A (eval iter env) (fun xv s₁ => wpAny (model prog w) A (pyIter xv) (fun it s₂ => ∃ n V iC rem m cs G, ∃ Inv : Nat → List Value → Prop, Src prog w A h₁ os it n V iC rem ∧ n ≤ sizeLine ∧ Inv 0 [] ∧ Sh h₁ os ((env.locals, nsP m) :: (iC 0 ++ cs)) G s₂ ∧
      (∀ i v ys C D mC s (E' : Value → Shared → Prop), i < n → V i v → Inv i ys → mC x = some v → Sh h₁ os ((C, nsP mC) :: (D, lstP ys) :: (env.locals, nsP m) :: (iC (i + 1) ++ cs)) G s →
      wpAny (model prog w) A (testsOf ifs (compEnvC scope cl C env)) (fun ok s' => if ok = true then wpAny (model prog w) A (eval elt (compEnvC scope cl C env)) (fun y s'' => Inv (i + 1) (ys ++ [y]) ∧ Sh h₁ os ((C, nsP mC) :: (D, lstP ys) :: (env.locals, nsP m) :: (iC (i + 1) ++ cs)) G s'') E' s'
        else Inv (i + 1) ys ∧ Sh h₁ os ((C, nsP mC) :: (D, lstP ys) :: (env.locals, nsP m) :: (iC (i + 1) ++ cs)) G s') E' s) ∧
      (∀ D ys s', Inv n ys → Sh h₁ os ((env.locals, nsP m) :: (D, lstP ys) :: (rem ++ cs)) G s' → Q (.ref D) s')) E s₁) E s)
    (hs : ∀ x, foldedSetIterable iter env x = pure x := by intro _; rfl) :
    wpAny (model prog w) A (eval (.ListComp elt [⟨.Name x px, iter, ifs, 0⟩] scope pos) env) Q E s := by
  rw [eval_ListComp]
  refine wpAny_comprehension_free (use := none) rfl hs hclos hkind hnames (wpAny_mono h (fun xv s₁ h₁' => wpAny_mono h₁' (fun it s₂ h₂ => ?_) fun _ _ e => e) fun _ _ e => e)
  obtain ⟨n, V, iC, rem, m, cs, G, Inv, S, hsz, h0, B, step, fin⟩ := h₂
  refine lc_core (RR := fun acc C => compPost (model prog w) A E none Q acc C) S hsz hcell hkind hx Inv h0 B step ?_
  intro C D ys mC s' hI B'
  exact ⟨mC, (B'.get (.head _)).ns, fun h' hs' => fin D ys _ hI ((B'.heap' (B'.hp.lose hs'.extBut)).perm (.swap ..))⟩
/-- a list display by a loop, given a local name at once -/
theorem lc_assign {elt iter : PySem.Expr} {x y : Str} {px py : Pos} {ifs : List PySem.Expr} {scope : Scope} {cl : List (Str × Addr)} {pos spos : Pos} {Q : Flow → Shared → Prop}
    (hsw : swapsWith (.ListComp elt [⟨.Name x px, iter, ifs, 0⟩] scope pos) (some (.Name y py)) spos.line env = pure true)
    (hclos : closureFor scope env = pure cl) (hcell : ∀ y ∈ scope.names, y.2 ≠ .cell) (hkind : scope.kind = .function) (hnames : ∀ y ∈ scope.names, y.2 = .local → scope.names.lookup y.1 = some .local) (hx : scope.names.lookup x = some .local)
    (hy : env.scope.names.lookup y = some .local) (hke : env.scope.kind = .function)
    (h : wpAny (model prog w) A (eval iter env) (fun xv s₁ => wpAny (model prog w) A (pyIter xv) (fun it s₂ => ∃ n V iC rem l cs G, ∃ Inv : Nat → List Value → Prop, Src prog w A h₁ os it n V iC rem ∧ n ≤ sizeLine ∧ Inv 0 [] ∧ Sh h₁ os ((env.locals, nsP (frm l)) :: (iC 0 ++ cs)) G s₂ ∧
      (∀ i v ys C D mC s (E' : Value → Shared → Prop), i < n → V i v → Inv i ys → mC x = some v → Sh h₁ os ((C, nsP mC) :: (D, lstP ys) :: (env.locals, nsP (frm l)) :: (iC (i + 1) ++ cs)) G s →
      wpAny (model prog w) A (testsOf ifs (compEnvC scope cl C env)) (fun ok s' => if ok = true then wpAny (model prog w) A (eval elt (compEnvC scope cl C env)) (fun y s'' => Inv (i + 1) (ys ++ [y]) ∧ Sh h₁ os ((C, nsP mC) :: (D, lstP ys) :: (env.locals, nsP (frm l)) :: (iC (i + 1) ++ cs)) G s'') E' s'
        else Inv (i + 1) ys ∧ Sh h₁ os ((C, nsP mC) :: (D, lstP ys) :: (env.locals, nsP (frm l)) :: (iC (i + 1) ++ cs)) G s') E' s) ∧
      (∀ D ys s', Inv n ys → Sh h₁ os ((env.locals, nsP (frm ((y, .ref D) :: l))) :: (D, lstP ys) :: (rem ++ cs)) G s' → Q .next s')) E s₁) E s)
    (hs : ∀ x, foldedSetIterable iter env x = pure x := by intro _; rfl) :
    wpAny (model prog w) A (exec (.Assign [.Name y py] (.ListComp elt [⟨.Name x px, iter, ifs, 0⟩] scope pos) spos) env) Q E s := by
  rw [exec_Assign_Name_used _ _ _ _ hsw]
  refine wpAny_bind (wpAny_standAt (wpAny_bind ?_))
  show wpAny _ A (do let _ ← comprehension (.ListComp elt [⟨.Name x px, iter, ifs, 0⟩] scope pos) scope env _ (newList []) false (eval iter env) (some (assign (.Name y py) env))) _ _ s
  refine wpAny_bind (wpAny_mono (wpAny_comprehension_free (use := some (assign (.Name y py) env)) (Q := fun _ s' => Q .next s') rfl hs hclos hkind hnames
    (wpAny_mono h (fun xv s₁ h₁' => wpAny_mono h₁' (fun it s₂ h₂ => ?_) fun _ _ e => e) fun _ _ e => e)) (fun _ s' hq => wpAny_pure (wpAny_pure hq)) fun _ _ e => e)
  obtain ⟨n, V, iC, rem, l, cs, G, Inv, S, hsz, h0, B, step, fin⟩ := h₂
  refine lc_core (RR := fun acc C => compPost (model prog w) A E (some (assign (.Name y py) env)) (fun _ s' => Q .next s') acc C) S hsz hcell hkind hx Inv h0 B step ?_
  intro C D ys mC s' hI B'
  have B2 := B'.perm (cs' := (env.locals, nsP (frm l)) :: (C, nsP mC) :: (D, lstP ys) :: (rem ++ cs)) ((List.perm_middle (l₁ := [_, _])).trans (.refl _))
  show wpAny _ A (assign (.Name y py) env (.ref D)) _ _ _
  refine wpAny_assign_Name (e_st B2 (fun s₃ B3 => ?_) hke hy)
  have B4 := B3.perm (List.Perm.swap ..)
  exact ⟨mC, (B4.get (.head _)).ns, fun h' hs' => fin D ys _ hI (B4.heap' (B4.hp.lose hs'.extBut))⟩
end
/-- the comprehension's scope, within a def with cells -/
noncomputable def relS (scope sc : Scope) : Scope := { scope with names := scope.names.map fun (n, k) => if (k == .free && sc.kind == .function && sc.names.lookup n == some .cell) then (n, .cell) else (n, k) }
section
variable {M : Model} {A : Around} {E : Value → Shared → Prop} {s : Shared} {h₁ : Heap} {os : OsState} {cs r : Cels} {G : Array GenState} {x : Str} {pos : Pos} {v : Value} {Q : Value → Shared → Prop} {m mg mb : Str → Option Value} {glV biV : List (Str × Value)} {c C L f : Addr} {name : Str} {sc scope : Scope} {cd : Value} {cl : List (Str × Addr)}
theorem k_ld (B : Sh h₁ os ((C, nsP m) :: r) G s) (hv : m x = some v) (hl : (relS scope sc).names.lookup x = some .local) (hk : scope.kind = .function) (hd : (x == ("__debug__" : Str)) = false) (h : Q v s) :
    wpAny M A (eval (.Name x pos) (compEnvC scope cl C (envOfC name sc L f cd))) Q E s := e_ld (env := compEnvC scope cl C (envOfC name sc L f cd)) B hv hl hk hd h
theorem k_bi (T : Tp glV biV h₁ mg mb) (B : Sh h₁ os cs G s) (hv : biV.lookup x = some v) (hl : (relS scope sc).names.lookup x = some .globalImplicit) (hk : scope.kind = .function) (hd : (x == ("__debug__" : Str)) = false) (h : Q v s) :
    wpAny M A (eval (.Name x pos) (compEnvC scope cl C (envOfC name sc L f cd))) Q E s := e_bi (env := compEnvC scope cl C (envOfC name sc L f cd)) T B rfl rfl hv hl hk hd h
theorem k_cell (B : Sh h₁ os cs G s) (hc : cl.lookup x = some c) (i : (c, celP (some v)) ∈ cs) (hl : (relS scope sc).names.lookup x = some .cell) (hk : scope.kind = .function) (hd : (x == ("__debug__" : Str)) = false) (h : Q v s) :
    wpAny M A (eval (.Name x pos) (compEnvC scope cl C (envOfC name sc L f cd))) Q E s := e_cell (env := compEnvC scope cl C (envOfC name sc L f cd)) B hc i hl hk hd h
end
end Mine
end
section
open PySem PySem.W PyProof.Rows
set_option maxRecDepth 100000
namespace Mine
section
variable {prog : Program} {w : World} {A : Around} {E : Value → Shared → Prop} {s : Shared} {h₁ : Heap} {os : OsState} {cs : Cels} {G : Array GenState} {L : Addr} {m : Str → Option Value}
theorem extend_litX {vs : List Value} {S it a : Addr} {res : Value} {R : Result → Shared → Prop} (hz : vs.length ≤ sizeLine) : ∀ (k i : Nat) (s : Shared) (acc : List Value), vs.length - i = k → acc.length ≤ i → Hd A cs →
    Sh h₁ os ((S, lstP acc) :: (it, litP a i) :: (a, lstP vs) :: cs) G s → (∀ s', Sh h₁ os ((S, lstP (acc ++ vs.drop i)) :: (it, lendP) :: (a, lstP vs) :: cs) G s' → R (.ok (.ret res)) s') →
    codeAny (model prog w) A (.builtin "list.extend.loop" ⟨[.ref S, .ref it, res], []⟩) R s := by
  intro k
  induction k with
  | zero =>
    intro i s acc hk ha hh B h
    refine codeAny_builtin F.entry_extend_loop ?_
    rw [Around.under_plainId F.plain_extend_loop _]
    show wpAny _ A.in1 (pyNext (.ref it) >>= _) _ _ s
    refine wpAny_bind (x_lit_endX (A := A.in1) (hh.sub fun p m => .tail _ (.tail _ (.tail _ m))) B (.there .here) (B.get (.tail _ (.tail _ (.head _)))).lst (List.getElem?_eq_none (by omega)) fun s' B' => wpAny_pure (h s' ?_))
    rw [List.drop_eq_nil_of_le (by omega), List.append_nil]
    exact B'
  | succ k ih =>
    intro i s acc hk ha hh B h
    have hlt : i < vs.length := by omega
    refine codeAny_builtin F.entry_extend_loop ?_
    rw [Around.under_plainId F.plain_extend_loop _]
    show wpAny _ A.in1 (pyNext (.ref it) >>= _) _ _ s
    refine wpAny_bind (x_lit_item B (.there .here) (B.get (.tail _ (.tail _ (.head _)))).lst (x := vs[i]) (by simp [hlt]) fun s' B' => ?_)
    show wpAny _ A.in1 (updateSeq S (·.push vs[i]) >>= _) _ _ _
    refine wpAny_bind ?_
    obtain ⟨o, ho, n, rfl⟩ := B'.get (.head _)
    refine wpAny_updateSeq ho rfl (wpAny_pure ⟨plainId_quiet F.plain_extend_loop _, ih (i + 1) _ (acc ++ [vs[i]]) (by omega) (by simp; omega) hh (B'.heap' (B'.hp.chgS .here (Heap.SameBut.update ..) ⟨_, Heap.get?_update_self _ ho rfl, _, by simp only [Obj.mapSeq, List.push_toArray]; rfl⟩)) fun s'' B'' => h s'' ?_⟩)
      (by simp; omega) (by simp; omega)
    rw [List.drop_eq_getElem_cons hlt]
    simpa using B''
theorem extend_lendX {S it : Addr} {res : Value} {R : Result → Shared → Prop} (hh : Hd A cs) (B : Sh h₁ os cs G s) (i : (it, lendP) ∈ cs) (h : ∀ s', Sh h₁ os cs G s' → R (.ok (.ret res)) s') :
    codeAny (model prog w) A (.builtin "list.extend.loop" ⟨[.ref S, .ref it, res], []⟩) R s := by
  refine codeAny_builtin F.entry_extend_loop ?_
  rw [Around.under_plainId F.plain_extend_loop _]
  show wpAny _ A.in1 (pyNext (.ref it) >>= _) _ _ s
  exact wpAny_bind (x_lit_doneX (A := A.in1) hh B i fun s' B' => wpAny_pure (h s' B'))
/-- list of a list's iterator, also while an error is handled -/
theorem r_listLit {it a : Addr} {vs : List Value} {i : Nat} {Q : Value → Shared → Prop} (hh : Hd A cs) (hz : vs.length ≤ sizeLine) (B : Sh h₁ os ((L, nsP m) :: (it, litP a i) :: (a, lstP vs) :: cs) G s)
    (h : ∀ S s', Sh h₁ os ((L, nsP m) :: (S, lstP (vs.drop i)) :: (it, lendP) :: (a, lstP vs) :: cs) G s' → Q (.ref S) s') : wpAny (model prog w) A (call (.type "list") [.ref it]) Q E s := by
  have gt : ∀ s', Sh h₁ os ((L, nsP m) :: (it, litP a i) :: (a, lstP vs) :: cs) G s' → Pt s'.heap it (litP a i) := fun s' B' => B'.get (.tail _ (.head _))
  refine listIt (gt s B).litT B (fun s' A' E' Q' B' hq => i_lit (gt s' B').lit hq) (gt s B).lt (fun s' B' => (gt s' B').lit.typeIs) fun S s' B' => ?_
  have B2 := B'.perm (cs' := (S, lstP []) :: (it, litP a i) :: (a, lstP vs) :: ((L, nsP m) :: cs)) (.cons _ (List.perm_middle (l₁ := [_, _])).symm)
  refine extend_litX (A := A.in1) hz _ i s' [] rfl (Nat.zero_le _) (hh.sub fun p m => .tail _ m) B2 fun s'' B'' => ⟨rfl, h S s'' ?_⟩
  exact B''.perm (((List.perm_middle (l₁ := [_, _, _]))).trans (.refl _))
theorem r_listLend {it : Addr} {Q : Value → Shared → Prop} (hh : Hd A cs) (B : Sh h₁ os ((L, nsP m) :: cs) G s) (mi : (it, lendP) ∈ cs)
    (h : ∀ S s', Sh h₁ os ((L, nsP m) :: (S, lstP []) :: cs) G s' → Q (.ref S) s') : wpAny (model prog w) A (call (.type "list") [.ref it]) Q E s := by
  have gt : ∀ s', Sh h₁ os ((L, nsP m) :: cs) G s' → Pt s'.heap it lendP := fun s' B' => B'.get (.tail _ mi)
  refine listIt (gt s B).lendT B (fun s' A' E' Q' B' hq => i_lend (gt s' B') hq) (gt s B).lt (fun s' B' => (gt s' B').lendT) fun S s' B' => ?_
  refine extend_lendX (A := A.in1) (hh.sub fun p m => .tail _ (.tail _ m)) B' (.tail _ (.tail _ mi)) fun s'' B'' => ⟨rfl, h S s'' ?_⟩
  exact B''.perm (.swap ..)
end
end Mine
end
section
open PySem PySem.W PyProof.Rows
set_option maxRecDepth 100000
namespace Mine
theorem ints_at : ∀ {vs : List Value} {ns : List Int}, IntsAre vs ns → ∀ {k : Nat} {a : Int}, ns[k]? = some a → ∃ t, vs[k]? = some (.int a t)
  | _, _, .cons n t r, 0, a, h => by simp at h; subst h; exact ⟨t, rfl⟩
  | _, _, .cons n t r, k + 1, a, h => by simpa using ints_at r (by simpa using h)
theorem ints_snoc {vs : List Value} {ns : List Int} {a : Int} {t : Tok} (h : IntsAre vs ns) : IntsAre (vs ++ [.int a t]) (ns ++ [a]) := by
  induction h with
  | nil => exact .cons _ _ .nil
  | cons n t _ ih => exact .cons n t ih
theorem ints_get : ∀ {vs : List Value} {ns : List Int}, IntsAre vs ns → ∀ v ∈ vs, ∃ x t, v = .int x t
  | _, _, .nil, _, m => nomatch m
  | _, _, .cons n t r, v, m => by
    rcases List.mem_cons.mp m with rfl | m
    · exact ⟨_, _, rfl⟩
    · exact ints_get r v m
theorem ints_drop : ∀ {vs : List Value} {ns : List Int}, IntsAre vs ns → ∀ k, IntsAre (vs.drop k) (ns.drop k)
  | _, _, h, 0 => h
  | _, _, .nil, k + 1 => .nil
  | _, _, .cons _ _ r, k + 1 => ints_drop r k
theorem ints_take : ∀ {vs : List Value} {ns : List Int}, IntsAre vs ns → ∀ k, IntsAre (vs.take k) (ns.take k)
  | _, _, _, 0 => .nil
  | _, _, .nil, k + 1 => .nil
  | _, _, .cons _ _ r, k + 1 => .cons _ _ (ints_take r k)
section
variable {prog : Program} {w : World} {A : Around} {E : Value → Shared → Prop} {s : Shared} {h₁ : Heap} {os : OsState} {cs r : Cels} {G : Array GenState} {env : Env} {l : List (Str × Value)}
/-- a loop over what is given one by one, under any frame -/
theorem for_src {x : Str} {px : Pos} {it : Value} {body : List Stmt} {R : Result → Shared → Prop} {n : Nat} {V : Nat → Value → Prop} {iC : Nat → Cels} {rem : Cels} {L : Addr} (S : Src prog w A h₁ os it n V iC rem)
    (hk : env.scope.kind = .function) (hx : env.scope.names.lookup x = some .local)
    (Inv : Nat → List (Str × Value) → Cels → Array GenState → Prop)
    (step : ∀ i v l cs G s (E : Value → Shared → Prop), i < n → V i v → Inv i l cs G → Sh h₁ os ((L, nsP (frm ((x, v) :: l))) :: (iC (i + 1) ++ cs)) G s →
      wpAny (model prog w) A (execs body env) (fun fl s' => fl = .next ∧ ∃ l' cs' G', Inv (i + 1) l' cs' G' ∧ Sh h₁ os ((L, nsP (frm l')) :: (iC (i + 1) ++ cs')) G' s') E s)
    (h0 : Inv 0 l cs G) (B : Sh h₁ os ((L, nsP (frm l)) :: (iC 0 ++ cs)) G s)
    (h : ∀ l' cs' G' s', Inv n l' cs' G' → Sh h₁ os ((L, nsP (frm l')) :: (rem ++ cs')) G' s' → R (.ok .next) s')
    (hL : env.locals = L := by rfl) (ht : ∀ v, letOwnedTupleGo (.Name x px) it v = pure () := by intro _; rfl) :
    codeAny (model prog w) A (.forLoop (.Name x px) it body [] env) R s := by
  subst hL
  refine codeAny_forLoop (fun k s' => ∃ i l' cs' G', i ≤ n ∧ k = n - i ∧ Inv i l' cs' G' ∧ Sh h₁ os ((env.locals, nsP (frm l')) :: (iC i ++ cs')) G' s') ?_ n ⟨0, l, cs, G, Nat.zero_le _, rfl, h0, B⟩ ht
  rintro k s' ⟨i, l', cs', G', hi, rfl, hI, B'⟩
  rcases Nat.lt_or_eq_of_le hi with hi | rfl
  · refine S.nxI i _ _ s' _ _ cs' G' hi B' fun v s'' hV B'' => ?_
    refine wpAny_assign_Name (e_st (env := env) B'' (fun s₃ B₃ => ?_) hk hx)
    refine wpAny_mono (step i v l' cs' G' s₃ _ hi hV hI B₃) (fun fl s₄ h₄ => ?_) fun _ _ e => e
    obtain ⟨rfl, l₅, cs₅, G₅, hI₅, B₅⟩ := h₄
    exact ⟨n - (i + 1), by omega, i + 1, l₅, cs₅, G₅, hi, rfl, hI₅, B₅⟩
  · refine S.nxE _ _ s' _ _ cs' G' B' fun s'' B'' => ?_
    exact wpAny_execs_nil (h l' cs' G' s'' hI B'')
end
theorem ints_app {vs us : List Value} {ns ms : List Int} (h : IntsAre vs ns) (g : IntsAre us ms) : IntsAre (vs ++ us) (ns ++ ms) := by
  induction h with
  | nil => exact g
  | cons n t _ ih => exact .cons n t ih
section
variable {prog : Program} {w : World} {A : Around} {E : Value → Shared → Prop} {s : Shared} {h₁ : Heap} {os : OsState} {cs r : Cels} {G : Array GenState} {L : Addr} {m : Str → Option Value}
theorem r_addLI {a b : Addr} {vs ws : List Value} {ns ms : List Int} {Q : Value → Shared → Prop} (B : Sh h₁ os ((L, nsP m) :: cs) G s) (hl : s.heap.IsList a vs.toArray) (hb : s.heap.IsList b ws.toArray) (hi : IntsAre vs ns) (hj : IntsAre ws ms) (hz : vs.length + ws.length ≤ sizeLine)
    (h : ∀ c us s', IntsAre us (ns ++ ms) → Sh h₁ os ((L, nsP m) :: (c, lstP us) :: cs) G s' → Q (.ref c) s') : wpAny (model prog w) A (binaryOp .Add (.ref a) (.ref b)) Q E s :=
  r_addL B hl hb hz fun c s' B' => h c _ s' (ints_app hi hj) B'
end

noncomputable def ritD (x left : Int) : Cel := isP { cls := .type "range_iterator", dict := none, data := .fields #[rawInt x, rawInt left, rawInt (-1)], slots := #[] }
section
variable {prog : Program} {w : World} {A : Around} {E : Value → Shared → Prop} {s : Shared} {h₁ : Heap} {os : OsState} {cs r : Cels} {G : Array GenState} {L : Addr} {m : Str → Option Value}
theorem Src.down {it : Addr} {n : Nat} (hh : A.handled = none) : Src prog w A h₁ os (.ref it) n (fun i v => ∃ t, v = .int ((n : Int) - i) t) (fun i => [(it, ritD ((n : Int) - i) ((n : Int) - i))]) [] where
  nxI := fun i E Q s C m cs G hi B h => by
    refine wpAny_pyNext_range_item (B.get (.tail _ (.head _))).is (by omega) fun h' hi hs => h _ _ ⟨_, rfl⟩ (B.heap (B.hp.chgS (.there .here) hs ⟨_, hi, ?_⟩) _)
    have e2 : (n : Int) - ((i + 1 : Nat) : Int) = (n : Int) - i - 1 := by omega
    have e1 : (n : Int) - i + -1 = (n : Int) - i - 1 := by omega
    rw [e2, e1]
    rfl
  nxE := fun E Q s C m cs G B h => wpAny_pyNext_range_end hh (B.get (.tail _ (.head _))).is (by omega) fun h' hs => h _ (B.heap' ((B.hp.perm (List.Perm.swap ..)).lose hs))
  self := fun E Q s C m cs G B h => wpAny_pyIter_rangeiter (B.get (.tail _ (.head _))).is h
theorem Src.tuple {it a : Addr} {vs : List Value} (hh : A.handled = none) : Src prog w A h₁ os (.ref it) vs.length (fun i v => vs[i]? = some v) (fun i => [(it, titP a i), (a, tupP vs)]) [] where
  nxI := fun i E Q s C m cs G hi B h => nx_tupI hi B h
  nxE := fun E Q s C m cs G B h => nx_tupE hh B h
  self := fun E Q s C m cs G B h => wpAny_pyIter_tupleiter (t := a) (i := 0) (B.get (.tail _ (.head _))) h
/-- range(n, 0, -1) and its iterator -/
theorem r_rangeDown {n : Nat} {t u v : Tok} {Q : Value → Shared → Prop} (hn : n < 2 ^ 30) (B : Sh h₁ os ((L, nsP m) :: cs) G s)
    (h : ∀ it s', Sh h₁ os ((L, nsP m) :: ([(it, ritD ((n : Int) - ((0 : Nat) : Int)) ((n : Int) - ((0 : Nat) : Int)))] ++ cs)) G s' → Q (.ref it) s') :
    wpAny (model prog w) A (call (.type "range") [.int n t, .int 0 u, .int (-1) v]) (fun v s₁ => wpAny (model prog w) A (pyIter v) Q E s₁) E s := by
  refine call_range_3 (by decide) ?_ (.inl (PyProof.noPylong_small (by decide)))
  have B2 := B.heap (t := s.toks) (B.hp.grow fun b o e => Heap.get?_push_of_some (h := s.heap) { cls := .type "range", data := .fields #[.int n t, .int 0 u, .int (-1) v] } e)
  have hz : Builtin.Range.rangeSize (n : Int) 0 (-1) = n := by
    unfold Builtin.Range.rangeSize
    rw [if_neg (by decide)]
    by_cases hp : (n : Int) > 0
    · rw [if_pos hp, show -(-1 : Int) = 1 by decide, Int.ediv_one]; omega
    · rw [if_neg hp]; omega
  refine wpAny_pyIter_range (IsRange.new ..) ?_ ?_
  · unfold Builtin.Range.small
    rw [hz]
    simp only [Builtin.Range.rangeFitsLong, Bool.and_eq_true, Bool.or_eq_true, decide_eq_true_eq, beq_iff_eq, show ¬ ((-1 : Int) > 0) by decide, if_false]
    omega
  · rw [hz]
    refine h _ _ ((B2.heap' (B2.hp.push rfl ?_)).perm (.swap ..))
    rw [show (n : Int) - ((0 : Nat) : Int) = n by omega]
    rfl
end
end Mine
end
section
open PySem PySem.W PyProof.Rows
set_option maxRecDepth 100000
namespace Mine
theorem erase_at {x : Int} : ∀ {vs : List Value} {ns : List Int}, IntsAre vs ns → x ∈ ns → ∃ j, ∃ hj : j < vs.length, isInt x vs[j] = true ∧ (∀ m (hm : m < vs.length), m < j → isInt x vs[m] = false) ∧ IntsAre (vs.eraseIdx j) (ns.erase x)
  | [], [], _, h => absurd h (by simp)
  | _ :: vs, n :: ns, .cons _ t r, h => by
    by_cases e : n = x
    · subst e
      refine ⟨0, by simp, by simp [isInt], fun m _ hm => absurd hm (by omega), ?_⟩
      rw [List.erase_cons_head]
      exact r
    · have hx : x ∈ ns := by
        rcases List.mem_cons.mp h with h | h
        · exact absurd h.symm e
        · exact h
      obtain ⟨j, hj, h1, h2, h3⟩ := erase_at r hx
      refine ⟨j + 1, by simpa using hj, by simpa using h1, fun m hm hlt => ?_, ?_⟩
      · cases m with
        | zero => simp [isInt, e]
        | succ m => simpa using h2 m (by simpa using hm) (by omega)
      · rw [List.erase_cons_tail (by simpa using e)]
        exact .cons _ _ h3
section
variable {prog : Program} {w : World} {A : Around} {E : Value → Shared → Prop} {s : Shared} {h₁ : Heap} {os : OsState} {cs r : Cels} {G : Array GenState} {L : Addr} {m : Str → Option Value}
theorem r_removeH {a : Addr} {vs : List Value} {ns : List Int} {x : Int} {t : Tok} {Q : Value → Shared → Prop} (B : Sh h₁ os ((a, lstP vs) :: cs) G s) (hi : IntsAre vs ns) (hx : x ∈ ns) (hz : vs.length ≤ sizeLine)
    (h : ∀ us s', IntsAre us (ns.erase x) → Sh h₁ os ((a, lstP us) :: cs) G s' → Q .none s') :
    wpAny (model prog w) A (call (.builtin "list.remove") [.ref a, .int x t]) Q E s := by
  obtain ⟨j, hj, h1, h2, h3⟩ := erase_at hi hx
  have hl := (B.get (.head _)).lst
  obtain ⟨o, ho, n, rfl⟩ := B.get (.head _)
  refine call_meets F.slot_list_remove hl.typeIs F.entry_list_remove (F.args_list_remove_2 _ _) (MeetsSeq.list_remove a vs.toArray n (.int x t) (isInt x) (fun y hy => eq_isInt x t hi y (by simpa using hy)) j (by simpa using hj) (by simpa using h1) (fun m hm hlt => by simpa using h2 m (by simpa using hm) hlt) (by simpa using hz))
    ⟨ho, h _ _ h3 (B.heap' (B.hp.chgS .here (Heap.SameBut.update ..) ⟨_, Heap.get?_update_self _ ho rfl, ?_⟩))⟩
  exact ⟨_, by simp only [Obj.mapSeq, List.eraseIdxIfInBounds_toArray]; rfl⟩
theorem r_addS {x y : Str} {t u : Tok} {Q : Value → Shared → Prop} (B : Sh h₁ os cs G s) (hz : x.length + y.length ≤ sizeLine) (h : ∀ t s', Sh h₁ os cs G s' → Q (.str (x ++ y) t) s') :
    wpAny (model prog w) A (binaryOp .Add (.str x t) (.str y u)) Q E s := PyProof.Rows.add_str (fun t' tk => h t' _ (B.toks tk)) hz
theorem r_notIn {tp : Addr} {words : Str} {t : Tok} {v : Value} {Q : Value → Shared → Prop} (B : Sh h₁ os cs G s) (mi : (tp, tupP [.none, .str words t]) ∈ cs) (hv : v = .none ∨ ∃ t', v = .str words t') (h : Q (.bool false) s) :
    wpAny (model prog w) A (compareOp .NotIn v (.ref tp)) Q E s := by
  rcases hv with rfl | ⟨t', rfl⟩
  · refine SeqAt.notIn_tupleAt (fun y => match y with | .none => true | _ => false) (B.get mi).tup (fun y hy => ?_) ?_
    · simp at hy
      rcases hy with rfl | rfl
      · exact (Sv.same .none).eqAt
      · exact SeqAt.EqAt.str_none _ _
    · simpa using h
  · refine SeqAt.notIn_tupleAt (fun y => match y with | .str a _ => a == words | _ => false) (B.get mi).tup (fun y hy => ?_) ?_
    · simp at hy
      rcases hy with rfl | rfl
      · exact SeqAt.EqAt.none_str _ _
      · exact SeqAt.EqAt.str_str _ _ _ _
    · simpa using h
theorem i_tup {t : Addr} {vs : List Value} {Q : Value → Shared → Prop} (B : Sh h₁ os ((L, nsP m) :: (t, tupP vs) :: r) G s) (h : ∀ it s', Sh h₁ os ((L, nsP m) :: ([(it, titP t 0), (t, tupP vs)] ++ r)) G s' → Q (.ref it) s') :
    wpAny (model prog w) A (pyIter (.ref t)) Q E s :=
  wpAny_pyIter_tuple (B.get (.tail _ (.head _))).tup (h _ _ ((B.heap' (B.hp.push rfl ⟨rfl, rfl⟩)).perm (.swap ..)))
end
end Mine
end
section
open PySem PySem.W PyProof.Rows
set_option maxRecDepth 100000
namespace Mine
noncomputable def gallop' : Bool → Keyed → Array Keyed → Nat → Nat → Nat → StateT SortSt Sem (Option Nat) := sortPriv% PySem.Builtin.gallop
section
variable {prog : Program} {w : World} {A : Around} {E : Value → Shared → Prop} {s : Shared}
theorem wpS_pos {α : Type} {c : Prop} [Decidable c] {m n : StateT SortSt Sem α} {Q : α → SortSt → Prop} {st : SortSt} (hc : c) (h : wpS (model prog w) A E s m Q st) : wpS (model prog w) A E s (if c then m else n) Q st := by rw [if_pos hc]; exact h
theorem wpS_neg {α : Type} {c : Prop} [Decidable c] {m n : StateT SortSt Sem α} {Q : α → SortSt → Prop} {st : SortSt} (hc : ¬ c) (h : wpS (model prog w) A E s n Q st) : wpS (model prog w) A E s (if c then m else n) Q st := by rw [if_neg hc]; exact h
theorem wpS_ltKeyed {st : SortSt} {a b : Int} {t u : Tok} {p q : Value} {Q : Option Bool → SortSt → Prop} (hk : kindOf st = oneType') (h : Q (some (decide (a < b))) st) :
    wpS (model prog w) A E s (lt' (.int a t, p) (.int b u, q)) Q st := by
  rw [lt'_eq]
  refine wpS_bind (wpS_get ?_)
  rw [hk, keyLt'_oneType]
  refine wpS_bind (wpS_lift (wpAny_attempt (oneLt_int ⟨rfl, ?_⟩)))
  exact wpS_pure h
/-- an item has an int as its key -/
noncomputable def IntK (xs : Array Keyed) : Prop := ∀ i, i < xs.size → ∃ t q, xs[i]? = some (.int (K xs i) t, q)
theorem wpS_elem {st : SortSt} {xs : Array Keyed} {i : Nat} {x : Keyed} {Q : Keyed → SortSt → Prop} (hi : xs[i]? = some x) (h : Q x st) : wpS (model prog w) A E s (elem' xs i) Q st := by
  rw [elem'_eq, hi]
  exact wpS_pure h
/-- is the key beyond the item i -/
noncomputable def bey (left : Bool) (x : Int) (xs : Array Keyed) (base i : Nat) : Bool := if left then decide (K xs (base + i) < x) else !decide (x < K xs (base + i))
theorem wpS_bey {st : SortSt} {left : Bool} {x : Int} {xs : Array Keyed} {base i : Nat} {f : Keyed → StateT SortSt Sem (Option Bool)} {Q : Option Bool → SortSt → Prop} (hx : IntK xs) (hi : base + i < xs.size)
    (hf : ∀ t p, Q (some (bey left x xs base i)) st → wpS (model prog w) A E s (f (.int (K xs (base + i)) t, p)) Q st) (h : Q (some (bey left x xs base i)) st) : wpS (model prog w) A E s (elem' xs (base + i) >>= f) Q st := by
  obtain ⟨t, p, e⟩ := hx (base + i) hi
  exact wpS_bind (wpS_elem e (hf t p h))
theorem wpS_side {st : SortSt} {b : Bool} {m n : StateT SortSt Sem (Option Bool)} {Q : Option Bool → SortSt → Prop} (h1 : b = true → wpS (model prog w) A E s m Q st) (h2 : b = false → wpS (model prog w) A E s n Q st) : wpS (model prog w) A E s (if b = true then m else n) Q st := by
  cases b with
  | true => exact wpS_pos rfl (h1 rfl)
  | false => exact wpS_neg (by decide) (h2 rfl)
theorem bey_mono {left : Bool} {x : Int} {xs : Array Keyed} {base n i j : Nat} (hs : ∀ i j, i ≤ j → j < n → K xs (base + i) ≤ K xs (base + j)) (hij : i ≤ j) (hj : j < n) (h : bey left x xs base j = true) : bey left x xs base i = true := by
  have := hs i j hij hj
  unfold bey at h ⊢
  cases left with
  | true => simp at h ⊢; omega
  | false => simp at h ⊢; omega
theorem wpS_gallop {st : SortSt} {left : Bool} {x : Int} {tx : Tok} {q : Value} {xs : Array Keyed} {base n hint : Nat} {Q : Option Nat → SortSt → Prop} (hk : kindOf st = oneType') (hx : IntK xs) (hb : base + n ≤ xs.size) (hh : hint < n)
    (hs : ∀ i j, i ≤ j → j < n → K xs (base + i) ≤ K xs (base + j))
    (h : ∀ k, k ≤ n → (∀ i, i < k → bey left x xs base i = true) → (∀ i, k ≤ i → i < n → bey left x xs base i = false) → Q (some k) st) :
    wpS (model prog w) A E s (gallop' left (.int x tx, q) xs base n hint) Q st := by
  have up : ∀ {i j}, i ≤ j → j < n → bey left x xs base j = true → bey left x xs base i = true := fun hij hj h => bey_mono hs hij hj h
  have dn : ∀ {i j}, i ≤ j → j < n → bey left x xs base i = false → bey left x xs base j = false := fun {i j} hij hj h => by
    cases e : bey left x xs base j with
    | false => rfl
    | true => rw [up hij hj e] at h; cases h
  unfold gallop'
  refine wpS_bind (wpS_bey (left := left) (x := x) hx (by omega) (fun t p hq => wpS_side (fun e => wpS_ltKeyed hk (by subst e; exact hq)) fun e => wpS_bind (wpS_ltKeyed hk (wpS_pure (by subst e; exact hq)))) ?_)
  dsimp -zeta -zetaHave -beta only
  extract_lets jp
  have hjp : ∀ (lo hi : Nat) r a b, lo ≤ hi → hi ≤ n → (∀ i, i < lo → bey left x xs base i = true) → (∀ i, hi ≤ i → i < n → bey left x xs base i = false) → wpS (model prog w) A E s (jp r a b lo hi) Q st := by
    intro lo hi r a b hlh hhn hlo hhi
    refine wpS_bind (wpS_mono (wpS_forRange (I := fun y c st' => st' = st ∧ ∃ l h, c = (none, l, h) ∧ l ≤ h ∧ h ≤ n ∧ h - l ≤ n - y ∧ (∀ i, i < l → bey left x xs base i = true) ∧ (∀ i, h ≤ i → i < n → bey left x xs base i = false))
      (Q := fun c st' => st' = st ∧ ∃ l h, c = (none, l, h) ∧ h ≤ n ∧ (∀ i, i < h → bey left x xs base i = true) ∧ (∀ i, h ≤ i → i < n → bey left x xs base i = false)) ?_ ?_ ⟨rfl, lo, hi, rfl, hlh, hhn, by omega, hlo, hhi⟩) ?_)
    · rintro y c st' _ hy ⟨rfl, l, h', rfl, h1, h2, h3, h4, h5⟩
      dsimp only
      by_cases hge : l ≥ h'
      · refine wpS_pos hge ?_
        have e : l = h' := by omega
        subst e
        exact wpS_pure ⟨rfl, l, l, rfl, h2, h4, h5⟩
      · refine wpS_neg hge ?_
        refine wpS_bind (wpS_bey (left := left) (x := x) hx (by omega) (fun t p hq => wpS_side (fun e => wpS_ltKeyed hk (by subst e; exact hq)) fun e => wpS_bind (wpS_ltKeyed hk (wpS_pure (by subst e; exact hq)))) ?_)
        dsimp only
        cases e : bey left x xs base (l + (h' - l) / 2) with
        | true =>
          refine wpS_pos rfl ?_
          exact wpS_pure ⟨rfl, _, _, rfl, by omega, h2, by omega, fun i hi => up (by omega) (by omega) e, h5⟩
        | false =>
          refine wpS_neg (by decide) ?_
          exact wpS_pure ⟨rfl, _, _, rfl, by omega, by omega, by omega, h4, fun i hi hn => dn hi hn e⟩
    · rintro c st' ⟨rfl, l, h', rfl, h1, h2, h3, h4, h5⟩
      have e : l = h' := by omega
      subst e
      exact ⟨rfl, l, l, rfl, h2, h4, h5⟩
    · rintro c st' ⟨rfl, l, h', rfl, h2, h4, h5⟩
      exact wpS_pure (h h' h2 h4 h5)
  clear_value jp
  dsimp only
  cases e0 : bey left x xs base hint with
  | true =>
    refine wpS_pos rfl ?_
    refine wpS_bind (wpS_mono (wpS_forRange (I := fun y c st' => st' = st ∧ ∃ l o, c = (none, l, o) ∧ l < o ∧ y + 1 ≤ o ∧ hint + l < n ∧ bey left x xs base (hint + l) = true)
      (Q := fun c st' => st' = st ∧ ∃ l o, c = (none, l, o) ∧ l < o ∧ hint + l < n ∧ bey left x xs base (hint + l) = true ∧ (n - hint ≤ o ∨ (hint + o < n ∧ bey left x xs base (hint + o) = false))) ?_ ?_ ⟨rfl, 0, 1, rfl, by omega, by omega, by omega, e0⟩) ?_)
    · rintro y c st' _ hy ⟨rfl, l, o, rfl, h1, h2, h3, h4⟩
      dsimp only
      by_cases hge : o ≥ n - hint
      · refine wpS_pos hge ?_
        exact wpS_pure ⟨rfl, l, o, rfl, h1, h3, h4, .inl hge⟩
      · refine wpS_neg hge ?_
        refine wpS_bind (wpS_bey (left := left) (x := x) hx (by omega) (fun t p hq => wpS_side (fun e => wpS_ltKeyed hk (by subst e; exact hq)) fun e => wpS_bind (wpS_ltKeyed hk (wpS_pure (by subst e; exact hq)))) ?_)
        dsimp only
        cases e : bey left x xs base (hint + o) with
        | false =>
          refine wpS_pos (by decide) ?_
          exact wpS_pure ⟨rfl, l, o, rfl, h1, h3, h4, .inr ⟨by omega, e⟩⟩
        | true =>
          refine wpS_neg (by decide) ?_
          exact wpS_pure ⟨rfl, o, 2 * o + 1, rfl, by omega, by omega, by omega, e⟩
    · rintro c st' ⟨rfl, l, o, rfl, h1, h2, h3, h4⟩
      exact ⟨rfl, l, o, rfl, h1, h3, h4, .inl (by omega)⟩
    · rintro c st' ⟨rfl, l, o, rfl, h1, h3, h4, h5⟩
      dsimp only
      refine hjp _ _ _ _ _ (by omega) (by omega) (fun i hi => up (by omega) h3 h4) fun i hi hn => ?_
      rcases h5 with h5 | ⟨h5, h6⟩
      · omega
      · exact dn (by omega) hn h6
  | false =>
    refine wpS_neg (by decide) ?_
    refine wpS_bind (wpS_mono (wpS_forRange (I := fun y c st' => st' = st ∧ ∃ l o, c = (none, l, o) ∧ l < o ∧ y + 1 ≤ o ∧ l ≤ hint ∧ bey left x xs base (hint - l) = false)
      (Q := fun c st' => st' = st ∧ ∃ l o, c = (none, l, o) ∧ l < o ∧ l ≤ hint ∧ bey left x xs base (hint - l) = false ∧ (hint + 1 ≤ o ∨ (o ≤ hint ∧ bey left x xs base (hint - o) = true))) ?_ ?_ ⟨rfl, 0, 1, rfl, by omega, by omega, by omega, e0⟩) ?_)
    · rintro y c st' _ hy ⟨rfl, l, o, rfl, h1, h2, h3, h4⟩
      dsimp only
      by_cases hge : o ≥ hint + 1
      · refine wpS_pos hge ?_
        exact wpS_pure ⟨rfl, l, o, rfl, h1, h3, h4, .inl hge⟩
      · refine wpS_neg hge ?_
        refine wpS_bind (wpS_bey (left := left) (x := x) hx (by omega) (fun t p hq => wpS_side (fun e => wpS_ltKeyed hk (by subst e; exact hq)) fun e => wpS_bind (wpS_ltKeyed hk (wpS_pure (by subst e; exact hq)))) ?_)
        dsimp only
        cases e : bey left x xs base (hint - o) with
        | true =>
          refine wpS_pos rfl ?_
          exact wpS_pure ⟨rfl, l, o, rfl, h1, h3, h4, .inr ⟨by omega, e⟩⟩
        | false =>
          refine wpS_neg (by decide) ?_
          exact wpS_pure ⟨rfl, o, 2 * o + 1, rfl, by omega, by omega, by omega, e⟩
    · rintro c st' ⟨rfl, l, o, rfl, h1, h2, h3, h4⟩
      exact ⟨rfl, l, o, rfl, h1, h3, h4, .inl (by omega)⟩
    · rintro c st' ⟨rfl, l, o, rfl, h1, h3, h4, h5⟩
      dsimp only
      refine hjp _ _ _ _ _ (by omega) (by omega) (fun i hi => ?_) fun i hi hn => dn (by omega) hn h4
      rcases h5 with h5 | ⟨h5, h6⟩
      · omega
      · exact up (by omega) (by omega) h6
end
end Mine
end
section
open PySem PySem.W PyProof.Rows
set_option maxRecDepth 100000
namespace Mine
noncomputable def kl (xs : Array Keyed) : List Int := xs.toList.map fun p => numOf p.1
theorem kl_append (xs ys : Array Keyed) : kl (xs ++ ys) = kl xs ++ kl ys := by simp [kl]
theorem K_at {xs : Array Keyed} {i : Nat} (h : i < xs.size) : K xs i = numOf xs[i].1 := by simp [K, h]
theorem kl_at {xs : Array Keyed} {i : Nat} (h : i < (kl xs).length) : (kl xs)[i] = K xs i := by
  have h' : i < xs.size := by simpa [kl] using h
  rw [K_at h']
  simp [kl]
theorem kl_len (xs : Array Keyed) : (kl xs).length = xs.size := by simp [kl]
theorem K_extract {xs : Array Keyed} {i j k : Nat} (hj : j ≤ xs.size) (h : k < j - i) : K (xs.extract i j) k = K xs (i + k) := by
  apply K_congr
  rw [Array.getElem?_extract, if_pos (by rw [Nat.min_eq_left hj]; exact h)]
theorem ext_size {xs : Array Keyed} {i j : Nat} (h : j ≤ xs.size) : (xs.extract i j).size = j - i := by rw [Array.size_extract, Nat.min_eq_left h]
theorem mem_extract {xs : Array Keyed} {i j : Nat} {x : Int} (hj : j ≤ xs.size) (h : x ∈ kl (xs.extract i j)) : ∃ k, i ≤ k ∧ k < j ∧ x = K xs k := by
  obtain ⟨k, hk, rfl⟩ := List.mem_iff_getElem.mp h
  rw [kl_at hk]
  rw [kl_len, ext_size hj] at hk
  exact ⟨i + k, by omega, by omega, K_extract hj (by omega)⟩
noncomputable def Srt (xs : Array Keyed) : Prop := ∀ i j, i ≤ j → j < xs.size → K xs i ≤ K xs j
theorem Srt.kl {xs : Array Keyed} (h : Srt xs) : (kl xs).Pairwise (· ≤ ·) := by
  rw [List.pairwise_iff_getElem]
  intro i j hi hj hij
  rw [kl_at hi, kl_at hj]
  rw [kl_len] at hj
  exact h i j (by omega) hj
theorem srt_of {xs : Array Keyed} (h : (kl xs).Pairwise (· ≤ ·)) : Srt xs := by
  intro i j hij hj
  rcases Nat.lt_or_eq_of_le hij with q | rfl
  · rw [List.pairwise_iff_getElem] at h
    have := h i j (by rw [kl_len]; omega) (by rw [kl_len]; omega) q
    rwa [kl_at, kl_at] at this
  · exact Int.le_refl _
theorem Srt.extract {xs : Array Keyed} {i j : Nat} (h : Srt xs) (hj : j ≤ xs.size) : Srt (xs.extract i j) := by
  intro k l hkl hl
  rw [ext_size hj] at hl
  rw [K_extract hj (by omega), K_extract hj (by omega)]
  exact h _ _ (by omega) (by omega)
/-- merging from the left: what is out already -/
structure MI (a b out : Array Keyed) (ia ib : Nat) : Prop where
  ha : ia ≤ a.size
  hb : ib ≤ b.size
  perm : out.toList.Perm (a.toList.take ia ++ b.toList.take ib)
  srt : (kl out).Pairwise (· ≤ ·)
  la : ∀ x ∈ kl out, ∀ i, ia ≤ i → i < a.size → x ≤ K a i
  lb : ∀ x ∈ kl out, ∀ j, ib ≤ j → j < b.size → x ≤ K b j
theorem extract_list (xs : Array Keyed) (i j : Nat) : (xs.extract i j).toList = (xs.toList.drop i).take (j - i) := by simp [List.extract_eq_take_drop]
theorem take_split {l : List Keyed} {i j : Nat} (h : i ≤ j) : l.take j = l.take i ++ (l.drop i).take (j - i) := by
  rw [← List.take_add]
  congr 1; omega
theorem MI.appA {a b out : Array Keyed} {ia ib ia' : Nat} (h : MI a b out ia ib) (sa : Srt a) (h1 : ia ≤ ia') (h2 : ia' ≤ a.size) (hc : ∀ i j, ia ≤ i → i < ia' → ib ≤ j → j < b.size → K a i ≤ K b j) : MI a b (out ++ a.extract ia ia') ia' ib := by
  refine ⟨h2, h.hb, ?_, ?_, fun x hx i hi hia => ?_, fun x hx j hj hjb => ?_⟩
  · rw [Array.toList_append, extract_list, take_split h1]
    refine (h.perm.append_right _).trans ?_
    rw [List.append_assoc, List.append_assoc]
    exact List.Perm.append_left _ List.perm_append_comm
  · rw [kl_append, List.pairwise_append]
    refine ⟨h.srt, (sa.extract h2).kl, fun x hx y hy => ?_⟩
    obtain ⟨k, q1, q2, rfl⟩ := mem_extract h2 hy
    exact h.la x hx k q1 (by omega)
  · rw [kl_append] at hx
    rcases List.mem_append.mp hx with hx | hx
    · exact h.la x hx i (by omega) hia
    · obtain ⟨k, q1, q2, rfl⟩ := mem_extract h2 hx
      exact sa _ _ (by omega) hia
  · rw [kl_append] at hx
    rcases List.mem_append.mp hx with hx | hx
    · exact h.lb x hx j hj hjb
    · obtain ⟨k, q1, q2, rfl⟩ := mem_extract h2 hx
      exact hc k j q1 q2 hj hjb
theorem MI.appB {a b out : Array Keyed} {ia ib ib' : Nat} (h : MI a b out ia ib) (sb : Srt b) (h1 : ib ≤ ib') (h2 : ib' ≤ b.size) (hc : ∀ i j, ia ≤ i → i < a.size → ib ≤ j → j < ib' → K b j ≤ K a i) : MI a b (out ++ b.extract ib ib') ia ib' := by
  refine ⟨h.ha, h2, ?_, ?_, fun x hx i hi hia => ?_, fun x hx j hj hjb => ?_⟩
  · rw [Array.toList_append, extract_list, take_split h1, ← List.append_assoc]
    exact h.perm.append_right _
  · rw [kl_append, List.pairwise_append]
    refine ⟨h.srt, (sb.extract h2).kl, fun x hx y hy => ?_⟩
    obtain ⟨k, q1, q2, rfl⟩ := mem_extract h2 hy
    exact h.lb x hx k q1 (by omega)
  · rw [kl_append] at hx
    rcases List.mem_append.mp hx with hx | hx
    · exact h.la x hx i hi hia
    · obtain ⟨k, q1, q2, rfl⟩ := mem_extract h2 hx
      exact hc i k hi hia q1 q2
  · rw [kl_append] at hx
    rcases List.mem_append.mp hx with hx | hx
    · exact h.lb x hx j (by omega) hjb
    · obtain ⟨k, q1, q2, rfl⟩ := mem_extract h2 hx
      exact sb _ _ (by omega) hjb
theorem extract_one {xs : Array Keyed} {i : Nat} {x : Keyed} (h : xs[i]? = some x) : xs.extract i (i + 1) = #[x] := by
  apply Array.ext'
  rw [extract_list]
  obtain ⟨hi, rfl⟩ := Array.getElem?_eq_some_iff.mp h
  rw [List.drop_eq_getElem_cons (by simpa using hi)]
  simp
theorem MI.pushA {a b out : Array Keyed} {ia ib : Nat} {x : Keyed} (h : MI a b out ia ib) (sa : Srt a) (hx : a[ia]? = some x) (hc : ∀ j, ib ≤ j → j < b.size → K a ia ≤ K b j) : MI a b (out.push x) (ia + 1) ib := by
  have hi := (Array.getElem?_eq_some_iff.mp hx).1
  have := h.appA sa (ia' := ia + 1) (by omega) hi fun i j q1 q2 q3 q4 => by
    have e : i = ia := by omega
    subst e
    exact hc j q3 q4
  rw [extract_one hx] at this
  rwa [Array.push_eq_append]
theorem MI.pushB {a b out : Array Keyed} {ia ib : Nat} {x : Keyed} (h : MI a b out ia ib) (sb : Srt b) (hx : b[ib]? = some x) (hc : ∀ i, ia ≤ i → i < a.size → K b ib ≤ K a i) : MI a b (out.push x) ia (ib + 1) := by
  have hi := (Array.getElem?_eq_some_iff.mp hx).1
  have := h.appB sb (ib' := ib + 1) (by omega) hi fun i j q1 q2 q3 q4 => by
    have e : j = ib := by omega
    subst e
    exact hc i q1 q2
  rw [extract_one hx] at this
  rwa [Array.push_eq_append]
/-- merged -/
structure Mg (a b r : Array Keyed) : Prop where
  perm : r.toList.Perm (a.toList ++ b.toList)
  srt : Srt r
theorem MI.all {a b out : Array Keyed} (h : MI a b out a.size b.size) : Mg a b out := by
  refine ⟨?_, srt_of h.srt⟩
  have := h.perm
  rw [← Array.length_toList, ← Array.length_toList, List.take_length, List.take_length] at this
  exact this
theorem MI.done {a b out : Array Keyed} {ia ib : Nat} (h : MI a b out ia ib) (sa : Srt a) (sb : Srt b) (he : ia = a.size ∨ ib = b.size) : Mg a b (out ++ a.extract ia a.size ++ b.extract ib b.size) := by
  have h1 := h.appA sa (ia' := a.size) h.ha (Nat.le_refl _) fun i j q1 q2 q3 q4 => by omega
  have h2 := h1.appB sb (ib' := b.size) h.hb (Nat.le_refl _) fun i j q1 q2 q3 q4 => by omega
  exact h2.all
theorem MI.lastA {a b out : Array Keyed} {ia ib : Nat} (h : MI a b out ia ib) (sa : Srt a) (sb : Srt b) (hc : ∀ i j, ia ≤ i → i < a.size → ib ≤ j → j < b.size → K b j ≤ K a i) : Mg a b (out ++ b.extract ib b.size ++ a.extract ia a.size) := by
  have h1 := h.appB sb (ib' := b.size) h.hb (Nat.le_refl _) fun i j q1 q2 q3 q4 => hc i j q1 q2 q3 q4
  have h2 := h1.appA sa (ia' := a.size) h.ha (Nat.le_refl _) fun i j q1 q2 q3 q4 => by omega
  exact h2.all
theorem MI.start {a b : Array Keyed} {x : Keyed} (sa : Srt a) (sb : Srt b) (hx : b[0]? = some x) (hc : 0 < a.size → K b 0 ≤ K a 0) : MI a b #[x] 0 1 := by
  have h0 : MI a b #[] 0 0 := ⟨Nat.zero_le _, Nat.zero_le _, .nil, .nil, fun x hx => (by simp [kl] at hx), fun x hx => (by simp [kl] at hx)⟩
  exact h0.pushB sb hx fun i q1 q2 => Int.le_trans (hc (by omega)) (sa 0 i (by omega) q2)
noncomputable def mergeLo' : Array Keyed → Array Keyed → StateT SortSt Sem (Array Keyed) := sortPriv% PySem.Builtin.mergeLo
noncomputable def mergeHi' : Array Keyed → Array Keyed → StateT SortSt Sem (Array Keyed) := sortPriv% PySem.Builtin.mergeHi
/-- the same but for the count of galloping -/
structure Gm (st st' : SortSt) : Prop where
  kind : kindOf st' = kindOf st
  arr : arrOf st' = arrOf st
  pend : pendingOf st' = pendingOf st
  failed : failedOf st' = failedOf st
noncomputable abbrev C2 := Option (Array Keyed) × Array Keyed × Nat × Nat × Nat × Nat × Nat
noncomputable def I2 (st : SortSt) (a b : Array Keyed) (x : Nat) (c : C2) (st' : SortSt) : Prop := Gm st st' ∧ ∃ out ia ib mg ac bc, c = (none, out, ia, ib, mg, ac, bc) ∧ MI a b out ia ib ∧ ia + 1 < a.size ∧ ib < b.size ∧ x + 2 ≤ ia + ib
noncomputable def Q2 (st : SortSt) (a b : Array Keyed) (x : Nat) (c : C2) (st' : SortSt) : Prop := Gm st st' ∧ ((∃ r rest, c = (some r, rest) ∧ Mg a b r) ∨ ∃ out ia ib mg ac bc, c = (none, out, ia, ib, mg, ac, bc) ∧ MI a b out ia ib ∧ ia + 1 < a.size ∧ ib < b.size ∧ x + 2 ≤ ia + ib)
theorem bey_f {x : Int} {xs : Array Keyed} {base i : Nat} (h : bey false x xs base i = true) : K xs (base + i) ≤ x := by simp [bey] at h; omega
theorem bey_f' {x : Int} {xs : Array Keyed} {base i : Nat} (h : bey false x xs base i = false) : x < K xs (base + i) := by simp [bey] at h; omega
theorem bey_t {x : Int} {xs : Array Keyed} {base i : Nat} (h : bey true x xs base i = true) : K xs (base + i) < x := by simp [bey] at h; omega
theorem bey_t' {x : Int} {xs : Array Keyed} {base i : Nat} (h : bey true x xs base i = false) : x ≤ K xs (base + i) := by simp [bey] at h; omega
section
variable {prog : Program} {w : World} {A : Around} {E : Value → Shared → Prop} {s : Shared}
theorem wpS_mergeLo {st : SortSt} {a b : Array Keyed} {Q : Array Keyed → SortSt → Prop} (hk : kindOf st = oneType') (ka : IntK a) (kb : IntK b) (sa : Srt a) (sb : Srt b) (ha : 0 < a.size) (hb : 0 < b.size) (h0 : K b 0 ≤ K a 0) (hl : ∀ j, j < b.size → K b j ≤ K a (a.size - 1))
    (h : ∀ r st', Mg a b r → Gm st st' → Q r st') : wpS (model prog w) A E s (mergeLo' a b) Q st := by
  have hlast : ∀ {out : Array Keyed} {ia ib : Nat}, MI a b out ia ib → ia + 1 = a.size → Mg a b (out ++ b.extract ib b.size ++ a.extract ia a.size) := fun {out ia ib} m e => m.lastA sa sb fun i j q1 q2 q3 q4 => by
    have e' : i = a.size - 1 := by omega
    subst e'
    exact hl j q4
  unfold mergeLo'
  refine wpS_bind (wpS_lift (wpAny_rule ⟨rfl, ?_⟩))
  extract_lets total done lastOfA ia0 ib0
  have e1 : ia0 = 0 := rfl
  have e2 : ib0 = 1 := rfl
  have htot : total = a.size + b.size := rfl
  clear_value ia0 ib0 total
  subst e1 e2
  obtain ⟨tb, qb, eb⟩ := kb 0 hb
  refine wpS_bind (wpS_elem eb ?_)
  have m0 : MI a b #[(.int (K b 0) tb, qb)] 0 1 := MI.start sa sb eb fun _ => h0
  extract_lets out0
  have m0 : MI a b out0 0 1 := m0
  clear_value out0
  by_cases hb1 : 1 = b.size
  · refine wpS_pos (by simpa using hb1) ?_
    exact wpS_pure (h _ _ (m0.done sa sb (.inr hb1)) ⟨rfl, rfl, rfl, rfl⟩)
  refine wpS_neg (by simpa using hb1) ?_
  by_cases ha1 : 0 + 1 = a.size
  · refine wpS_pos (by simpa using ha1) ?_
    exact wpS_pure (h _ _ (hlast m0 ha1) ⟨rfl, rfl, rfl, rfl⟩)
  refine wpS_neg (by simpa using ha1) ?_
  refine wpS_bind (wpS_get ?_)
  extract_lets mg0
  clear_value mg0
  refine wpS_bind (wpS_mono (wpS_forRange (I := fun x c st' => Gm st st' ∧ ∃ out ia ib mg, c = (none, out, ia, ib, mg) ∧ MI a b out ia ib ∧ ia + 1 < a.size ∧ ib < b.size ∧ x + 1 ≤ ia + ib)
    (Q := fun c st' => Gm st st' ∧ ∃ r rest, c = (some r, rest) ∧ Mg a b r) ?_ ?_ ⟨⟨rfl, rfl, rfl, rfl⟩, out0, 0, 1, mg0, rfl, m0, by omega, by omega, by omega⟩) ?_)
  · rintro x c st1 _ hx ⟨G1, out, ia, ib, mg, rfl, m, q1, q2, q3⟩
    extract_lets s1 out1 s2 ia1 s3 ib1 mg1
    have eo : out1 = out := rfl
    have ei : ia1 = ia := rfl
    have ej : ib1 = ib := rfl
    clear_value out1 ia1 ib1 mg1
    subst eo ei ej
    clear s1 s2 s3
    refine wpS_bind (wpS_mono (wpS_forRange (I := fun y c st' => st' = st1 ∧ ∃ out ia ib ac bc, c = (none, out, ia, ib, ac, bc) ∧ MI a b out ia ib ∧ ia + 1 < a.size ∧ ib < b.size ∧ x + 1 + y ≤ ia + ib)
      (Q := fun c st' => st' = st1 ∧ ((∃ r rest, c = (some r, rest) ∧ Mg a b r) ∨ ∃ out ia ib ac bc, c = (none, out, ia, ib, ac, bc) ∧ MI a b out ia ib ∧ ia + 1 < a.size ∧ ib < b.size ∧ x + 2 ≤ ia + ib)) ?_ ?_ ⟨rfl, out1, ia1, ib1, _, _, rfl, m, q1, q2, by omega⟩) ?_)
    · rintro y c st2 _ hy ⟨rfl, out, ia, ib, ac, bc, rfl, m, q1, q2, q3⟩
      dsimp only
      obtain ⟨t1, p1, f1⟩ := kb ib q2
      obtain ⟨t2, p2, f2⟩ := ka ia (by omega)
      refine wpS_bind (wpS_elem f1 ?_)
      refine wpS_bind (wpS_elem f2 ?_)
      refine wpS_bind (wpS_ltKeyed (by rw [G1.kind]; exact hk) ?_)
      dsimp only
      by_cases hlt : K b ib < K a ia
      · refine wpS_pos (by simpa using hlt) ?_
        refine wpS_bind (wpS_elem f1 ?_)
        have m' := m.pushB sb f1 fun i r1 r2 => Int.le_trans (Int.le_of_lt hlt) (sa ia i r1 r2)
        by_cases he : ib + 1 = b.size
        · refine wpS_pos (by simpa using he) ?_
          exact wpS_pure ⟨rfl, .inl ⟨_, _, rfl, m'.done sa sb (.inr he)⟩⟩
        · refine wpS_neg (by simpa using he) ?_
          split
          · exact wpS_pure ⟨rfl, .inr ⟨_, _, _, _, _, rfl, m', q1, by omega, by omega⟩⟩
          · exact wpS_pure ⟨rfl, _, _, _, _, _, rfl, m', q1, by omega, by omega⟩
      · refine wpS_neg (by simpa using hlt) ?_
        refine wpS_bind (wpS_elem f2 ?_)
        have m' := m.pushA sa f2 fun j r1 r2 => Int.le_trans (Int.not_lt.mp hlt) (sb ib j r1 r2)
        by_cases he : ia + 1 + 1 = a.size
        · refine wpS_pos (by simpa using he) ?_
          exact wpS_pure ⟨rfl, .inl ⟨_, _, rfl, hlast m' he⟩⟩
        · refine wpS_neg (by simpa using he) ?_
          split
          · exact wpS_pure ⟨rfl, .inr ⟨_, _, _, _, _, rfl, m', by omega, q2, by omega⟩⟩
          · exact wpS_pure ⟨rfl, _, _, _, _, _, rfl, m', by omega, q2, by omega⟩
    · rintro c st2 ⟨rfl, out, ia, ib, ac, bc, rfl, m, q1, q2, q3⟩
      omega
    · rintro c st2 ⟨rfl, ⟨r, rest, rfl, hr⟩ | ⟨out, ia, ib, ac, bc, rfl, m, q1, q2, q3⟩⟩
      · exact wpS_pure ⟨G1, _, _, rfl, hr⟩
      · refine wpS_bind (wpS_lift (wpAny_rule ⟨rfl, ?_⟩))
        refine wpS_bind (wpS_mono (wpS_forRange (I := fun _ c st' => I2 st a b x c st') (Q := fun c st' => Q2 st a b x c st') ?_ ?_ ⟨G1, out, ia, ib, _, ac, bc, rfl, m, q1, q2, q3⟩) ?_)
        · clear m q1 q2 q3
          rintro y c st3 _ hy ⟨G3, out, ia, ib, mg, ac, bc, rfl, m, q1, q2, q3⟩
          extract_lets s1 out1 s2 ia1 s3 ib1 s4 mg1 s5 ac1 bc1 nb jp mg2
          have eo : out1 = out := rfl
          have ei : ia1 = ia := rfl
          have ej : ib1 = ib := rfl
          have en : nb = ib1 + 1 := rfl
          clear_value mg2 nb out1 ia1 ib1 mg1 ac1 bc1
          subst eo ei ej
          subst en
          clear s1 s2 s3 s4 s5
          have hjp : ∀ r v, wpS (model prog w) A E s (jp r v) (fun r st' => match r with | .done c' => Q2 st a b x c' st' | .yield c' => I2 st a b x c' st') st3 := by
            intro r v
            refine wpS_bind (wpS_modify ?_)
            obtain ⟨t1, p1, f1⟩ := kb ib1 q2
            refine wpS_bind (wpS_elem f1 ?_)
            refine wpS_bind (wpS_gallop (left := false) (by show kindOf st3 = _; rw [G3.kind]; exact hk) ka (by omega) (by omega) (fun i j hij hj => sa _ _ (by omega) (by omega)) fun k hk1 hk2 hk3 => ?_)
            have G4 : Gm st (SortSt.mk' (kindOf st3) (arrOf st3) (pendingOf st3) v (failedOf st3)) := ⟨G3.kind, G3.arr, G3.pend, G3.failed⟩
            change wpS _ _ _ _ _ _ (SortSt.mk' (kindOf st3) (arrOf st3) (pendingOf st3) v (failedOf st3))
            generalize SortSt.mk' (kindOf st3) (arrOf st3) (pendingOf st3) v (failedOf st3) = st4 at G4 ⊢
            dsimp -zeta -zetaHave only
            extract_lets ac2 jp2 out2 ia2
            have e4 : out2 = out1 ++ a.extract ia1 (ia1 + k) := rfl
            have e5 : ia2 = ia1 + k := rfl
            clear_value out2 ia2
            subst e4 e5
            have hk4 : kindOf st4 = oneType' := by rw [G4.kind]; exact hk
            have hjp2 : ∀ r (out' : Array Keyed) (ia' : Nat), MI a b out' ia' ib1 → ia' + 1 < a.size → K b ib1 ≤ K a ia' → ia1 ≤ ia' → wpS (model prog w) A E s (jp2 r out' ia') (fun r st' => match r with | .done c' => Q2 st a b x c' st' | .yield c' => I2 st a b x c' st') st4 := by
              intro r out' ia' m1 w1 w2 w3
              refine wpS_bind (wpS_elem f1 ?_)
              have m2 := m1.pushB sb f1 fun i r1 r2 => Int.le_trans w2 (sa ia' i r1 r2)
              extract_lets out3 ia3
              have m2 : MI a b out3 ia' (ib1 + 1) := m2
              have e3 : ia3 = ia' + 1 := rfl
              clear_value out3 ia3
              subst e3
              by_cases he : ib1 + 1 = b.size
              · refine wpS_pos (by simpa using he) ?_
                exact wpS_pure ⟨G4, .inl ⟨_, _, rfl, m2.done sa sb (.inr he)⟩⟩
              refine wpS_neg (by simpa using he) ?_
              obtain ⟨t2, p2, f2⟩ := ka ia' (by omega)
              refine wpS_bind (wpS_elem f2 ?_)
              refine wpS_bind (wpS_gallop (left := true) hk4 kb (by omega) (by omega) (fun i j hij hj => sb _ _ (by omega) (by omega)) fun k2 hb1 hb2 hb3 => ?_)
              dsimp -zeta -zetaHave only
              extract_lets bc2 jp3 out4 ib4
              have e4 : out4 = out3 ++ b.extract (ib1 + 1) (ib1 + 1 + k2) := rfl
              have e5 : ib4 = ib1 + 1 + k2 := rfl
              clear_value out4 ib4
              subst e4 e5
              have hjp3 : ∀ r (out'' : Array Keyed) (ib'' : Nat), MI a b out'' ia' ib'' → ib'' < b.size → K a ia' ≤ K b ib'' → ib1 + 1 ≤ ib'' → wpS (model prog w) A E s (jp3 r out'' ib'') (fun r st' => match r with | .done c' => Q2 st a b x c' st' | .yield c' => I2 st a b x c' st') st4 := by
                intro r out'' ib'' m3 v1 v2 v3
                refine wpS_bind (wpS_elem f2 ?_)
                have m4 := m3.pushA sa f2 fun j r1 r2 => Int.le_trans v2 (sb ib'' j r1 r2)
                by_cases he2 : ia' + 1 + 1 = a.size
                · refine wpS_pos (show (ia' + 1 + 1 == a.size) = true by simpa using he2) ?_
                  exact wpS_pure ⟨G4, .inl ⟨_, _, rfl, hlast m4 he2⟩⟩
                · refine wpS_neg (show ¬ (ia' + 1 + 1 == a.size) = true by simpa using he2) ?_
                  split
                  · exact wpS_pure ⟨G4, .inr ⟨_, _, _, _, _, _, rfl, m4, by omega, v1, by omega⟩⟩
                  · exact wpS_pure ⟨G4, _, _, _, _, _, _, rfl, m4, by omega, v1, by omega⟩
              clear_value jp3
              by_cases hk0 : k2 > 0
              · refine wpS_pos hk0 ?_
                have m3 := m2.appB sb (ib' := ib1 + 1 + k2) (by omega) (by omega) fun i j r1 r2 r3 r4 => by
                  have := bey_t (hb2 (j - (ib1 + 1)) (by omega))
                  rw [show ib1 + 1 + (j - (ib1 + 1)) = j by omega] at this
                  exact Int.le_trans (Int.le_of_lt this) (sa ia' i r1 r2)
                by_cases he2 : ib1 + 1 + k2 = b.size
                · refine wpS_pos (show (ib1 + 1 + k2 == b.size) = true by simpa using he2) ?_
                  exact wpS_pure ⟨G4, .inl ⟨_, _, rfl, m3.done sa sb (.inr he2)⟩⟩
                · refine wpS_neg (show ¬ (ib1 + 1 + k2 == b.size) = true by simpa using he2) ?_
                  exact hjp3 _ _ _ m3 (by omega) (bey_t' (hb3 k2 (Nat.le_refl _) (by omega))) (by omega)
              · refine wpS_neg hk0 ?_
                have hk00 : k2 = 0 := by omega
                exact hjp3 _ _ _ m2 (by omega) (bey_t' (hb3 0 (by omega) (by omega))) (by omega)
            clear_value jp2
            by_cases hk0 : k > 0
            · refine wpS_pos hk0 ?_
              have m3 := m.appA sa (ia' := ia1 + k) (by omega) (by omega) fun i j r1 r2 r3 r4 => by
                have := bey_f (hk2 (i - ia1) (by omega))
                rw [show ia1 + (i - ia1) = i by omega] at this
                exact Int.le_trans this (sb ib1 j r3 r4)
              by_cases he2 : ia1 + k + 1 = a.size
              · refine wpS_pos (show (ia1 + k + 1 == a.size) = true by simpa using he2) ?_
                exact wpS_pure ⟨G4, .inl ⟨_, _, rfl, hlast m3 he2⟩⟩
              · refine wpS_neg (show ¬ (ia1 + k + 1 == a.size) = true by simpa using he2) ?_
                by_cases he3 : ia1 + k = a.size
                · refine wpS_pos (show (ia1 + k == a.size) = true by simpa using he3) ?_
                  exact wpS_pure ⟨G4, .inl ⟨_, _, rfl, m3.done sa sb (.inl he3)⟩⟩
                · refine wpS_neg (show ¬ (ia1 + k == a.size) = true by simpa using he3) ?_
                  exact hjp2 _ _ _ m3 (by omega) (Int.le_of_lt (bey_f' (hk3 k (Nat.le_refl _) (by omega)))) (by omega)
            · refine wpS_neg hk0 ?_
              exact hjp2 _ _ _ m q1 (Int.le_of_lt (bey_f' (hk3 0 (by omega) (by omega)))) (by omega)
          clear_value jp
          split
          · exact wpS_mono (hjp _ _) fun r st' h' => by cases r <;> exact h'
          · exact wpS_mono (hjp _ _) fun r st' h' => by cases r <;> exact h'
        · rintro c st3 ⟨G3, out, ia, ib, mg, ac, bc, rfl, m, q1, q2, q3⟩
          exact ⟨G3, .inr ⟨out, ia, ib, mg, ac, bc, rfl, m, q1, q2, q3⟩⟩
        · rintro c st3 ⟨G3, ⟨r, rest, rfl, hr⟩ | ⟨out, ia, ib, mg, ac, bc, rfl, m, q1, q2, q3⟩⟩
          · exact wpS_pure ⟨G3, _, _, rfl, hr⟩
          · refine wpS_bind (wpS_modify (wpS_pure ⟨⟨G3.kind, G3.arr, G3.pend, G3.failed⟩, out, ia, ib, _, rfl, m, q1, q2, by omega⟩))
  · rintro c st' ⟨G1, out, ia, ib, mg, rfl, m, q1, q2, q3⟩
    omega
  · rintro c st' ⟨G1, r, rest, rfl, hr⟩
    exact wpS_pure (h r st' hr G1)
end
end Mine
end
section
open PySem PySem.W PyProof.Rows
set_option maxRecDepth 100000
namespace Mine
/-- merging from the right: what is out already, turned round -/
structure MH (a b R : Array Keyed) (na nb : Nat) : Prop where
  ha : na ≤ a.size
  hb : nb ≤ b.size
  perm : R.toList.Perm (a.toList.drop na ++ b.toList.drop nb)
  srt : (kl R).Pairwise (· ≤ ·)
  la : ∀ x ∈ kl R, ∀ i, i < na → K a i ≤ x
  lb : ∀ x ∈ kl R, ∀ j, j < nb → K b j ≤ x
theorem drop_split {l : List Keyed} {i j : Nat} (h : i ≤ j) : l.drop i = (l.drop i).take (j - i) ++ l.drop j := by
  have e : l.drop j = (l.drop i).drop (j - i) := by rw [List.drop_drop]; congr 1; omega
  rw [e, List.take_append_drop]
theorem MH.appA {a b R : Array Keyed} {na nb na' : Nat} (h : MH a b R na nb) (sa : Srt a) (h1 : na' ≤ na) (hc : ∀ i j, na' ≤ i → i < na → j < nb → K b j ≤ K a i) : MH a b (a.extract na' na ++ R) na' nb := by
  refine ⟨Nat.le_trans h1 h.ha, h.hb, ?_, ?_, fun x hx i hi => ?_, fun x hx j hj => ?_⟩
  · rw [Array.toList_append, extract_list]
    refine (h.perm.append_left _).trans (.of_eq ?_)
    rw [← List.append_assoc]
    exact congrArg (· ++ b.toList.drop nb) (drop_split (l := a.toList) h1).symm
  · rw [kl_append, List.pairwise_append]
    refine ⟨(sa.extract h.ha).kl, h.srt, fun x hx y hy => ?_⟩
    obtain ⟨k, q1, q2, rfl⟩ := mem_extract h.ha hx
    exact h.la y hy k q2
  · rw [kl_append] at hx
    rcases List.mem_append.mp hx with hx | hx
    · obtain ⟨k, q1, q2, rfl⟩ := mem_extract h.ha hx
      exact sa _ _ (by omega) (by have := h.ha; omega)
    · exact h.la x hx i (by omega)
  · rw [kl_append] at hx
    rcases List.mem_append.mp hx with hx | hx
    · obtain ⟨k, q1, q2, rfl⟩ := mem_extract h.ha hx
      exact hc k j q1 q2 hj
    · exact h.lb x hx j hj
theorem MH.appB {a b R : Array Keyed} {na nb nb' : Nat} (h : MH a b R na nb) (sb : Srt b) (h1 : nb' ≤ nb) (hc : ∀ i j, i < na → nb' ≤ j → j < nb → K a i ≤ K b j) : MH a b (b.extract nb' nb ++ R) na nb' := by
  refine ⟨h.ha, Nat.le_trans h1 h.hb, ?_, ?_, fun x hx i hi => ?_, fun x hx j hj => ?_⟩
  · rw [Array.toList_append, extract_list]
    refine (h.perm.append_left _).trans ((List.perm_append_comm_assoc ..).trans (.of_eq ?_))
    exact congrArg (a.toList.drop na ++ ·) (drop_split (l := b.toList) h1).symm
  · rw [kl_append, List.pairwise_append]
    refine ⟨(sb.extract h.hb).kl, h.srt, fun x hx y hy => ?_⟩
    obtain ⟨k, q1, q2, rfl⟩ := mem_extract h.hb hx
    exact h.lb y hy k q2
  · rw [kl_append] at hx
    rcases List.mem_append.mp hx with hx | hx
    · obtain ⟨k, q1, q2, rfl⟩ := mem_extract h.hb hx
      exact hc i k hi q1 q2
    · exact h.la x hx i hi
  · rw [kl_append] at hx
    rcases List.mem_append.mp hx with hx | hx
    · obtain ⟨k, q1, q2, rfl⟩ := mem_extract h.hb hx
      exact sb _ _ (by omega) (by have := h.hb; omega)
    · exact h.lb x hx j (by omega)
theorem rev_push (out : Array Keyed) (x : Keyed) : (out.push x).reverse = #[x] ++ out.reverse := by
  apply Array.ext'; simp
theorem rev_app (out ys : Array Keyed) : (out ++ ys.reverse).reverse = ys ++ out.reverse := by
  apply Array.ext'; simp
theorem MH.pushA {a b out : Array Keyed} {na nb : Nat} {x : Keyed} (h : MH a b out.reverse (na + 1) nb) (sa : Srt a) (hx : a[na]? = some x) (hc : ∀ j, j < nb → K b j ≤ K a na) : MH a b (out.push x).reverse na nb := by
  have := h.appA sa (na' := na) (by omega) fun i j q1 q2 q3 => by
    have e : i = na := by omega
    subst e
    exact hc j q3
  rw [extract_one hx] at this
  rwa [rev_push]
theorem MH.pushB {a b out : Array Keyed} {na nb : Nat} {x : Keyed} (h : MH a b out.reverse na (nb + 1)) (sb : Srt b) (hx : b[nb]? = some x) (hc : ∀ i, i < na → K a i ≤ K b nb) : MH a b (out.push x).reverse na nb := by
  have := h.appB sb (nb' := nb) (by omega) fun i j q1 q2 q3 => by
    have e : j = nb := by omega
    subst e
    exact hc i q1
  rw [extract_one hx] at this
  rwa [rev_push]
theorem MH.all {a b R : Array Keyed} (h : MH a b R 0 0) : Mg a b R := ⟨by simpa using h.perm, srt_of h.srt⟩
theorem MH.done {a b R : Array Keyed} {na nb : Nat} (h : MH a b R na nb) (sa : Srt a) (sb : Srt b) (he : na = 0 ∨ nb = 0) : Mg a b (a.extract 0 na ++ b.extract 0 nb ++ R) := by
  have h1 := h.appB sb (nb' := 0) (Nat.zero_le _) fun i j q1 q2 q3 => by omega
  have h2 := h1.appA sa (na' := 0) (Nat.zero_le _) fun i j q1 q2 q3 => by omega
  rw [Array.append_assoc]
  exact h2.all
theorem MH.firstB {a b R : Array Keyed} {na nb : Nat} (h : MH a b R na nb) (sa : Srt a) (sb : Srt b) (hc : ∀ i j, i < na → j < nb → K b j ≤ K a i) : Mg a b (b.extract 0 nb ++ a.extract 0 na ++ R) := by
  have h1 := h.appA sa (na' := 0) (Nat.zero_le _) fun i j q1 q2 q3 => hc i j q2 q3
  have h2 := h1.appB sb (nb' := 0) (Nat.zero_le _) fun i j q1 q2 q3 => by omega
  rw [Array.append_assoc]
  exact h2.all
theorem MH.start {a b : Array Keyed} {x : Keyed} (sa : Srt a) (sb : Srt b) (ha : 0 < a.size) (hx : a[a.size - 1]? = some x) (hl : ∀ j, j < b.size → K b j ≤ K a (a.size - 1)) : MH a b (#[x] : Array Keyed).reverse (a.size - 1) b.size := by
  have h0 : MH a b (#[] : Array Keyed).reverse (a.size - 1 + 1) b.size := ⟨by omega, Nat.le_refl _, by simp; omega, by simp [kl], fun x hx => (by simp [kl] at hx), fun x hx => (by simp [kl] at hx)⟩
  exact h0.pushA sa hx hl

noncomputable abbrev C3 := Option (Array Keyed) × Nat × Nat × Array Keyed × Nat × Nat × Nat
noncomputable def I3 (st : SortSt) (a b : Array Keyed) (x : Nat) (c : C3) (st' : SortSt) : Prop := Gm st st' ∧ ∃ out na nb mg ac bc, c = (none, na, nb, out, mg, ac, bc) ∧ MH a b out.reverse na nb ∧ 0 < na ∧ 1 < nb ∧ na + nb + x + 2 ≤ a.size + b.size
noncomputable def Q3 (st : SortSt) (a b : Array Keyed) (x : Nat) (c : C3) (st' : SortSt) : Prop := Gm st st' ∧ ((∃ r rest, c = (some r, rest) ∧ Mg a b r) ∨ ∃ out na nb mg ac bc, c = (none, na, nb, out, mg, ac, bc) ∧ MH a b out.reverse na nb ∧ 0 < na ∧ 1 < nb ∧ na + nb + x + 2 ≤ a.size + b.size)
section
variable {prog : Program} {w : World} {A : Around} {E : Value → Shared → Prop} {s : Shared}
theorem wpS_mergeHi {st : SortSt} {a b : Array Keyed} {Q : Array Keyed → SortSt → Prop} (hk : kindOf st = oneType') (ka : IntK a) (kb : IntK b) (sa : Srt a) (sb : Srt b) (ha : 0 < a.size) (hb : 0 < b.size) (h0 : K b 0 ≤ K a 0) (hl : ∀ j, j < b.size → K b j ≤ K a (a.size - 1))
    (h : ∀ r st', Mg a b r → Gm st st' → Q r st') : wpS (model prog w) A E s (mergeHi' a b) Q st := by
  have hfirst : ∀ {R : Array Keyed} {na : Nat}, MH a b R na 1 → Mg a b (b.extract 0 1 ++ a.extract 0 na ++ R) := fun {R na} m => m.firstB sa sb fun i j q1 q2 => by
    have e' : j = 0 := by omega
    subst e'
    exact Int.le_trans h0 (sa 0 i (by omega) (by have := m.ha; omega))
  unfold mergeHi'
  refine wpS_bind (wpS_lift (wpAny_rule ⟨rfl, ?_⟩))
  extract_lets total done firstOfB na0 nb0 ac0
  have e1 : na0 = a.size - 1 := rfl
  have e2 : nb0 = b.size := rfl
  have htot : total = a.size + b.size := rfl
  clear_value na0 nb0 total ac0
  subst e1 e2
  obtain ⟨tb, qb, eb⟩ := ka (a.size - 1) (by omega)
  refine wpS_bind (wpS_elem eb ?_)
  have m0 := MH.start sa sb ha eb hl
  extract_lets out0
  have m0 : MH a b out0.reverse (a.size - 1) b.size := m0
  clear_value out0
  by_cases ha1 : a.size - 1 = 0
  · refine wpS_pos (by simpa using ha1) ?_
    exact wpS_pure (h _ _ (m0.done sa sb (.inl ha1)) ⟨rfl, rfl, rfl, rfl⟩)
  refine wpS_neg (by simpa using ha1) ?_
  by_cases hb1 : b.size = 1
  · refine wpS_pos (by simpa using hb1) ?_
    have m1 := m0
    rw [hb1] at m1
    have := hfirst m1
    refine wpS_pure (h _ _ ?_ ⟨rfl, rfl, rfl, rfl⟩)
    show Mg a b (b.extract 0 b.size ++ a.extract 0 (a.size - 1) ++ out0.reverse)
    rw [hb1]
    exact this
  refine wpS_neg (by simpa using hb1) ?_
  refine wpS_bind (wpS_get ?_)
  extract_lets mg0
  clear_value mg0
  refine wpS_bind (wpS_mono (wpS_forRange (I := fun x c st' => Gm st st' ∧ ∃ out na nb mg, c = (none, na, nb, out, mg) ∧ MH a b (out : Array Keyed).reverse na nb ∧ 0 < na ∧ 1 < nb ∧ na + nb + x + 1 ≤ a.size + b.size)
    (Q := fun c st' => Gm st st' ∧ ∃ r rest, c = (some r, rest) ∧ Mg a b r) ?_ ?_ ⟨⟨rfl, rfl, rfl, rfl⟩, out0, a.size - 1, b.size, mg0, rfl, m0, by omega, by omega, by omega⟩) ?_)
  · rintro x c st1 _ hx ⟨G1, out, na, nb, mg, rfl, m, q1, q2, q3⟩
    extract_lets s1 na1 s2 nb1 s3 out1 mg1
    have eo : out1 = out := rfl
    have ei : na1 = na := rfl
    have ej : nb1 = nb := rfl
    clear_value out1 na1 nb1 mg1
    subst eo ei ej
    clear s1 s2 s3
    refine wpS_bind (wpS_mono (wpS_forRange (I := fun y c st' => st' = st1 ∧ ∃ out na nb ac bc, c = (none, na, nb, out, ac, bc) ∧ MH a b (out : Array Keyed).reverse na nb ∧ 0 < na ∧ 1 < nb ∧ na + nb + x + 1 + y ≤ a.size + b.size)
      (Q := fun c st' => st' = st1 ∧ ((∃ r rest, c = (some r, rest) ∧ Mg a b r) ∨ ∃ out na nb ac bc, c = (none, na, nb, out, ac, bc) ∧ MH a b (out : Array Keyed).reverse na nb ∧ 0 < na ∧ 1 < nb ∧ na + nb + x + 2 ≤ a.size + b.size)) ?_ ?_ ⟨rfl, out1, na1, nb1, _, _, rfl, m, q1, q2, by omega⟩) ?_)
    · rintro y c st2 _ hy ⟨rfl, out, na, nb, ac, bc, rfl, m, q1, q2, q3⟩
      dsimp only
      have hna := m.ha
      have hnb := m.hb
      obtain ⟨t1, p1, f1⟩ := kb (nb - 1) (by omega)
      obtain ⟨t2, p2, f2⟩ := ka (na - 1) (by omega)
      obtain ⟨na, rfl⟩ : ∃ n, na = n + 1 := ⟨na - 1, by omega⟩
      obtain ⟨nb, rfl⟩ : ∃ n, nb = n + 1 := ⟨nb - 1, by omega⟩
      simp only [Nat.add_sub_cancel] at f1 f2 ⊢
      refine wpS_bind (wpS_elem f1 ?_)
      refine wpS_bind (wpS_elem f2 ?_)
      refine wpS_bind (wpS_ltKeyed (by rw [G1.kind]; exact hk) ?_)
      dsimp only
      by_cases hlt : K b nb < K a na
      · refine wpS_pos (by simpa using hlt) ?_
        refine wpS_bind (wpS_elem f2 ?_)
        have m' := m.pushA sa f2 fun j r1 => Int.le_trans (sb j nb (by omega) (by omega)) (Int.le_of_lt hlt)
        by_cases he : na = 0
        · refine wpS_pos (by simpa using he) ?_
          exact wpS_pure ⟨rfl, .inl ⟨_, _, rfl, m'.done sa sb (.inl he)⟩⟩
        · refine wpS_neg (by simpa using he) ?_
          split
          · exact wpS_pure ⟨rfl, .inr ⟨_, _, _, _, _, rfl, m', by omega, q2, by omega⟩⟩
          · exact wpS_pure ⟨rfl, _, _, _, _, _, rfl, m', by omega, q2, by omega⟩
      · refine wpS_neg (by simpa using hlt) ?_
        refine wpS_bind (wpS_elem f1 ?_)
        have m' := m.pushB sb f1 fun i r1 => Int.le_trans (sa i na (by omega) (by omega)) (Int.not_lt.mp hlt)
        by_cases he : nb = 1
        · refine wpS_pos (by simpa using he) ?_
          subst he
          exact wpS_pure ⟨rfl, .inl ⟨_, _, rfl, hfirst m'⟩⟩
        · refine wpS_neg (by simpa using he) ?_
          split
          · exact wpS_pure ⟨rfl, .inr ⟨_, _, _, _, _, rfl, m', q1, by omega, by omega⟩⟩
          · exact wpS_pure ⟨rfl, _, _, _, _, _, rfl, m', q1, by omega, by omega⟩
    · rintro c st2 ⟨rfl, out, na, nb, ac, bc, rfl, m, q1, q2, q3⟩
      omega
    · rintro c st2 ⟨rfl, ⟨r, rest, rfl, hr⟩ | ⟨out, na, nb, ac, bc, rfl, m, q1, q2, q3⟩⟩
      · exact wpS_pure ⟨G1, _, _, rfl, hr⟩
      · refine wpS_bind (wpS_lift (wpAny_rule ⟨rfl, ?_⟩))
        refine wpS_bind (wpS_mono (wpS_forRange (I := fun _ c st' => I3 st a b x c st') (Q := fun c st' => Q3 st a b x c st') ?_ ?_ ⟨G1, out, na, nb, _, ac, bc, rfl, m, q1, q2, q3⟩) ?_)
        · clear m q1 q2 q3
          rintro y c st3 _ hy ⟨G3, out, na, nb, mg, ac, bc, rfl, m, q1, q2, q3⟩
          extract_lets s1 na1 s2 nb1 s3 out1 s4 mg1 s5 ac1 bc1 nbp jp mg2
          have eo : out1 = out := rfl
          have ei : na1 = na := rfl
          have ej : nb1 = nb := rfl
          have en : nbp = nb1 - 1 := rfl
          clear_value mg2 nbp out1 na1 nb1 mg1 ac1 bc1
          subst eo ei ej
          subst en
          clear s1 s2 s3 s4 s5
          have hna := m.ha
          have hnb := m.hb
          have hjp : ∀ r v, wpS (model prog w) A E s (jp r v) (fun r st' => match r with | .done c' => Q3 st a b x c' st' | .yield c' => I3 st a b x c' st') st3 := by
            intro r v
            refine wpS_bind (wpS_modify ?_)
            obtain ⟨t1, p1, f1⟩ := kb (nb1 - 1) (by omega)
            refine wpS_bind (wpS_elem f1 ?_)
            refine wpS_bind (wpS_gallop (left := false) (by show kindOf st3 = _; rw [G3.kind]; exact hk) ka (by omega) (by omega) (fun i j hij hj => sa _ _ (by omega) (by omega)) fun at_ hk1 hk2 hk3 => ?_)
            have G4 : Gm st (SortSt.mk' (kindOf st3) (arrOf st3) (pendingOf st3) v (failedOf st3)) := ⟨G3.kind, G3.arr, G3.pend, G3.failed⟩
            change wpS _ _ _ _ _ _ (SortSt.mk' (kindOf st3) (arrOf st3) (pendingOf st3) v (failedOf st3))
            generalize SortSt.mk' (kindOf st3) (arrOf st3) (pendingOf st3) v (failedOf st3) = st4 at G4 ⊢
            have hk4 : kindOf st4 = oneType' := by rw [G4.kind]; exact hk
            have hA : ∀ i, i < at_ → K a i ≤ K b (nb1 - 1) := fun i hi => by have := bey_f (hk2 i hi); rwa [Nat.zero_add] at this
            have hA' : ∀ i, at_ ≤ i → i < na1 → K b (nb1 - 1) < K a i := fun i hi hi2 => by have := bey_f' (hk3 i hi hi2); rwa [Nat.zero_add] at this
            dsimp -zeta -zetaHave only
            extract_lets k1 ac2 jp2 out2 na2
            have e4 : out2 = out1 ++ (a.extract at_ na1).reverse := rfl
            have e5 : at_ = na2 := rfl
            have e6 : k1 = na1 - at_ := rfl
            clear_value out2 na2 ac2 k1
            subst e4 e5 e6
            have hjp2 : ∀ r (na' : Nat) (out' : Array Keyed), MH a b out'.reverse na' nb1 → 0 < na' → na' ≤ na1 → (∀ i, i < na' → K a i ≤ K b (nb1 - 1)) → wpS (model prog w) A E s (jp2 r na' out') (fun r st' => match r with | .done c' => Q3 st a b x c' st' | .yield c' => I3 st a b x c' st') st4 := by
              intro r na' out' m1 w1 w2 w3
              refine wpS_bind (wpS_elem f1 ?_)
              have m2 : MH a b (out'.push (.int (K b (nb1 - 1)) t1, p1)).reverse na' (nb1 - 1) := MH.pushB (by rw [show nb1 - 1 + 1 = nb1 by omega]; exact m1) sb f1 w3
              extract_lets out3 na3
              have m2 : MH a b out3.reverse na' (nb1 - 1) := m2
              have e3 : na3 = na' - 1 := rfl
              clear_value out3 na3
              subst e3
              by_cases he : nb1 - 1 = 1
              · refine wpS_pos (by simpa using he) ?_
                refine wpS_pure ⟨G4, .inl ⟨_, _, rfl, ?_⟩⟩
                show Mg a b (b.extract 0 (nb1 - 1) ++ a.extract 0 na' ++ out3.reverse)
                rw [he] at m2 ⊢
                exact hfirst m2
              refine wpS_neg (by simpa using he) ?_
              obtain ⟨t2, p2, f2⟩ := ka (na' - 1) (by omega)
              refine wpS_bind (wpS_elem f2 ?_)
              refine wpS_bind (wpS_gallop (left := true) hk4 kb (by omega) (by omega) (fun i j hij hj => sb _ _ (by omega) (by omega)) fun at2 hb1 hb2 hb3 => ?_)
              have hB : ∀ j, j < at2 → K b j ≤ K a (na' - 1) := fun j hj => by have := bey_t (hb2 j hj); rw [Nat.zero_add] at this; exact Int.le_of_lt this
              have hB' : ∀ j, at2 ≤ j → j < nb1 - 1 → K a (na' - 1) ≤ K b j := fun j hj hj2 => by have := bey_t' (hb3 j hj hj2); rwa [Nat.zero_add] at this
              dsimp -zeta -zetaHave only
              extract_lets k2 bc2 jp3 out4 nb4
              have e7 : out4 = out3 ++ (b.extract at2 (nb1 - 1)).reverse := rfl
              have e8 : at2 = nb4 := rfl
              have e9 : k2 = nb1 - 1 - at2 := rfl
              clear_value out4 nb4 bc2 k2
              subst e7 e8 e9
              have hjp3 : ∀ r (nb'' : Nat) (out'' : Array Keyed), MH a b out''.reverse na' nb'' → 1 < nb'' → nb'' + 1 ≤ nb1 → (∀ j, j < nb'' → K b j ≤ K a (na' - 1)) → wpS (model prog w) A E s (jp3 r nb'' out'') (fun r st' => match r with | .done c' => Q3 st a b x c' st' | .yield c' => I3 st a b x c' st') st4 := by
                intro r nb'' out'' m3 v1 v2 v3
                refine wpS_bind (wpS_elem f2 ?_)
                have m4 : MH a b (out''.push (.int (K a (na' - 1)) t2, p2)).reverse (na' - 1) nb'' := MH.pushA (by rw [show na' - 1 + 1 = na' by omega]; exact m3) sa f2 v3
                by_cases he2 : na' - 1 = 0
                · refine wpS_pos (show (na' - 1 == 0) = true by simpa using he2) ?_
                  exact wpS_pure ⟨G4, .inl ⟨_, _, rfl, m4.done sa sb (.inl he2)⟩⟩
                · refine wpS_neg (show ¬ (na' - 1 == 0) = true by simpa using he2) ?_
                  split
                  · exact wpS_pure ⟨G4, .inr ⟨_, _, _, _, _, _, rfl, m4, by omega, v1, by omega⟩⟩
                  · exact wpS_pure ⟨G4, _, _, _, _, _, _, rfl, m4, by omega, v1, by omega⟩
              clear_value jp3
              by_cases hk0 : nb1 - 1 - at2 > 0
              · refine wpS_pos hk0 ?_
                have m3 := m2.appB sb (nb' := at2) (by omega) fun i j r1 r2 r3 => Int.le_trans (sa i (na' - 1) (by omega) (by omega)) (hB' j r2 r3)
                rw [← rev_app] at m3
                by_cases he2 : at2 = 1
                · refine wpS_pos (show (at2 == 1) = true by simpa using he2) ?_
                  refine wpS_pure ⟨G4, .inl ⟨_, _, rfl, ?_⟩⟩
                  subst he2
                  exact hfirst m3
                · refine wpS_neg (show ¬ (at2 == 1) = true by simpa using he2) ?_
                  by_cases he3 : at2 = 0
                  · refine wpS_pos (show (at2 == 0) = true by simpa using he3) ?_
                    exact wpS_pure ⟨G4, .inl ⟨_, _, rfl, m3.done sa sb (.inr he3)⟩⟩
                  · refine wpS_neg (show ¬ (at2 == 0) = true by simpa using he3) ?_
                    exact hjp3 _ _ _ m3 (by omega) (by omega) hB
              · refine wpS_neg hk0 ?_
                exact hjp3 _ _ _ m2 (by omega) (by omega) (fun j hj => hB j (by omega))
            clear_value jp2
            by_cases hk0 : na1 - at_ > 0
            · refine wpS_pos hk0 ?_
              have m3 := m.appA sa (na' := at_) (by omega) fun i j r1 r2 r3 => Int.le_trans (sb j (nb1 - 1) (by omega) (by omega)) (Int.le_of_lt (hA' i r1 r2))
              rw [← rev_app] at m3
              by_cases he2 : at_ = 0
              · refine wpS_pos (show (at_ == 0) = true by simpa using he2) ?_
                exact wpS_pure ⟨G4, .inl ⟨_, _, rfl, m3.done sa sb (.inl he2)⟩⟩
              · refine wpS_neg (show ¬ (at_ == 0) = true by simpa using he2) ?_
                exact hjp2 _ _ _ m3 (by omega) (by omega) hA
            · refine wpS_neg hk0 ?_
              exact hjp2 _ _ _ m q1 (Nat.le_refl _) (fun i hi => hA i (by omega))
          clear_value jp
          split
          · exact wpS_mono (hjp _ _) fun r st' h' => by cases r <;> exact h'
          · exact wpS_mono (hjp _ _) fun r st' h' => by cases r <;> exact h'
        · rintro c st3 ⟨G3, out, na, nb, mg, ac, bc, rfl, m, q1, q2, q3⟩
          exact ⟨G3, .inr ⟨out, na, nb, mg, ac, bc, rfl, m, q1, q2, q3⟩⟩
        · rintro c st3 ⟨G3, ⟨r, rest, rfl, hr⟩ | ⟨out, na, nb, mg, ac, bc, rfl, m, q1, q2, q3⟩⟩
          · exact wpS_pure ⟨G3, _, _, rfl, hr⟩
          · refine wpS_bind (wpS_modify (wpS_pure ⟨⟨G3.kind, G3.arr, G3.pend, G3.failed⟩, out, na, nb, _, rfl, m, q1, q2, by omega⟩))
  · rintro c st' ⟨G1, out, na, nb, mg, rfl, m, q1, q2, q3⟩
    omega
  · rintro c st' ⟨G1, r, rest, rfl, hr⟩
    exact wpS_pure (h r st' hr G1)
end
end Mine
end
section
open PySem PySem.W PyProof.Rows
set_option maxRecDepth 100000
namespace Mine
structure SB (a₀ : Array Keyed) (p : Array (Nat × Nat × Nat)) (st : SortSt) : Prop where
  perm : (arrOf st).Perm a₀
  kind : kindOf st = oneType'
  failed : failedOf st = none
  pend : pendingOf st = p
theorem SB.size {a₀ : Array Keyed} {p : Array (Nat × Nat × Nat)} {st : SortSt} (h : SB a₀ p st) : (arrOf st).size = a₀.size := h.perm.size_eq
theorem SB.setArr {a₀ : Array Keyed} {p : Array (Nat × Nat × Nat)} {st : SortSt} (h : SB a₀ p st) {xs : Array Keyed} (hp : xs.Perm (arrOf st)) : SB a₀ p (setArr st xs) := ⟨hp.trans h.perm, h.kind, h.failed, h.pend⟩
/-- all before lo is as it was -/
noncomputable def Fx (lo : Nat) (st st' : SortSt) : Prop := ∀ i, i < lo → K (arrOf st') i = K (arrOf st) i
theorem Fx.rfl' {lo : Nat} {st : SortSt} : Fx lo st st := fun _ _ => rfl
theorem Fx.trans {lo : Nat} {st st1 st2 : SortSt} (h : Fx lo st st1) (g : Fx lo st1 st2) : Fx lo st st2 := fun i hi => (g i hi).trans (h i hi)
/-- k items from lo on rise -/
noncomputable def SoR (xs : Array Keyed) (lo k : Nat) : Prop := ∀ i j, i ≤ j → j < k → K xs (lo + i) ≤ K xs (lo + j)
noncomputable def NoR (xs : Array Keyed) (lo k : Nat) : Prop := ∀ i j, i ≤ j → j < k → K xs (lo + j) ≤ K xs (lo + i)
theorem SoR.one (xs : Array Keyed) (lo : Nat) : SoR xs lo 1 := fun i j hij hj => by
  have : i = j := by omega
  subst this; exact Int.le_refl _
theorem SoR.more {xs : Array Keyed} {lo k : Nat} (h : SoR xs lo k) (hk : 1 ≤ k) (hl : K xs (lo + k - 1) ≤ K xs (lo + k)) : SoR xs lo (k + 1) := fun i j hij hj => by
  by_cases hjk : j < k
  · exact h i j hij hjk
  · have : j = k := by omega
    subst this
    by_cases e : i = j
    · subst e; exact Int.le_refl _
    · have := h i (j - 1) (by omega) (by omega)
      rw [show lo + (j - 1) = lo + j - 1 by omega] at this
      omega
theorem NoR.more {xs : Array Keyed} {lo k : Nat} (h : NoR xs lo k) (hk : 1 ≤ k) (hl : K xs (lo + k) ≤ K xs (lo + k - 1)) : NoR xs lo (k + 1) := fun i j hij hj => by
  by_cases hjk : j < k
  · exact h i j hij hjk
  · have : j = k := by omega
    subst this
    by_cases e : i = j
    · subst e; exact Int.le_refl _
    · have := h i (j - 1) (by omega) (by omega)
      rw [show lo + (j - 1) = lo + j - 1 by omega] at this
      omega
theorem NoR.congr {xs ys : Array Keyed} {lo k : Nat} (h : NoR xs lo k) (e : ∀ i, K ys i = K xs i) : NoR ys lo k := fun i j hij hj => by rw [e, e]; exact h i j hij hj
theorem NoR.turn {xs : Array Keyed} {lo k : Nat} (h : NoR xs lo k) (hz : lo + k ≤ xs.size) : SoR (mirror xs lo (lo + k) ((lo + k - lo) / 2)) lo k := fun i j hij hj => by
  rw [K_mirror hz, K_mirror hz, if_pos (by omega), if_pos (by omega)]
  have := h (k - 1 - j) (k - 1 - i) (by omega) (by omega)
  rw [show lo + (lo + k) - 1 - (lo + i) = lo + (k - 1 - i) by omega, show lo + (lo + k) - 1 - (lo + j) = lo + (k - 1 - j) by omega]
  exact this
section
variable {prog : Program} {w : World} {A : Around} {E : Value → Shared → Prop} {s : Shared} {a₀ : Array Keyed} {p : Array (Nat × Nat × Nat)}
theorem SB.at {st : SortSt} (h : SB a₀ p st) (h0 : IntKeys a₀) {i : Nat} (hi : i < a₀.size) : ∃ t q, (arrOf st)[i]? = some (.int (K (arrOf st) i) t, q) :=
  SBase.at (a₀ := a₀) (st := SortSt.mk' (kindOf st) (arrOf st) #[] (gallopOf st) (failedOf st)) ⟨h.perm, h.kind, h.failed, rfl⟩ h0 hi
theorem wpS_ltB {st : SortSt} {i j : Nat} {Q : Option Bool → SortSt → Prop} (hB : SB a₀ p st) (h0 : IntKeys a₀) (hi : i < a₀.size) (hj : j < a₀.size)
    (h : Q (some (decide (K (arrOf st) i < K (arrOf st) j))) st) : wpS (model prog w) A E s (ltAt' i j) Q st := by
  obtain ⟨t, u, e1⟩ := hB.at h0 hi
  obtain ⟨v, q, e2⟩ := hB.at h0 hj
  exact wpS_ltAt hB.kind e1 e2 h
theorem wpS_asc {st : SortSt} {lo a nrem : Nat} {f : Nat → AscSt → StateT SortSt Sem (ForInStep AscSt)} {Q : AscSt → SortSt → Prop} (ha : 1 ≤ a) (han : a ≤ nrem) (hs : SoR (arrOf st) lo a)
    (hf : ∀ x n (Q : ForInStep AscSt → SortSt → Prop), 1 ≤ n → n < nrem → (K (arrOf st) (lo + n) < K (arrOf st) (lo + n - 1) → Q (.done (none, n)) st) → (K (arrOf st) (lo + n - 1) ≤ K (arrOf st) (lo + n) → Q (.yield (none, n + 1)) st) → wpS (model prog w) A E s (f x (none, n)) Q st)
    (h : ∀ n, a ≤ n → n ≤ nrem → SoR (arrOf st) lo n → (n = nrem ∨ K (arrOf st) (lo + n) < K (arrOf st) (lo + n - 1)) → Q (none, n) st) :
    wpS (model prog w) A E s (forIn [a:nrem] ((none, a) : AscSt) f) Q st := by
  refine wpS_forRange (I := fun x c st' => st' = st ∧ c = (none, x) ∧ SoR (arrOf st) lo x) ?_ ?_ ⟨rfl, rfl, hs⟩
  · rintro x c st' hax hxn ⟨rfl, rfl, hs'⟩
    exact hf _ _ _ (by omega) hxn (fun hl => h x hax (by omega) hs' (.inr hl)) fun hl => ⟨rfl, rfl, hs'.more (by omega) hl⟩
  · rintro c st' ⟨rfl, rfl, hs'⟩
    rw [show max a nrem = nrem by omega] at hs' ⊢
    exact h nrem han (Nat.le_refl _) hs' (.inl rfl)
theorem wpS_countRunL {st : SortSt} {lo nrem : Nat} {Q : Option Nat → SortSt → Prop} (h0 : IntKeys a₀) (hn : lo + nrem ≤ a₀.size) (h1 : 1 ≤ nrem) (hB : SB a₀ p st)
    (h : ∀ m st', SB a₀ p st' → Fx lo st st' → 1 ≤ m → m ≤ nrem → SoR (arrOf st') lo m → Q (some m) st') :
    wpS (model prog w) A E s (countRun' lo nrem) Q st := by
  rw [countRun'_eq]
  extract_lets n0 neq0
  have e0 : n0 = 1 := rfl
  have e1 : neq0 = 0 := rfl
  clear_value n0 neq0
  subst e0 e1
  refine wpS_bind (wpS_asc (lo := lo) (Nat.le_refl 1) h1 (SoR.one _ _) (fun x n Q q1 q2 hd hy => ?_) fun n q1 q2 q3 q4 => ?_)
  · dsimp only
    refine wpS_bind (wpS_ltB hB h0 (by omega) (by omega) ?_)
    by_cases hl : K (arrOf st) (lo + n) < K (arrOf st) (lo + n - 1)
    · simp only [hl, decide_true, if_true]
      exact wpS_pure (hd hl)
    · simp only [hl, decide_false, Bool.false_eq_true, if_false]
      exact wpS_pure (hy (Int.not_lt.mp hl))
  extract_lets r1 n1 n2 jp
  have e1 : n1 = n := rfl
  clear_value n1
  subst e1
  dsimp -zeta -zetaHave only [r1]
  by_cases hnn : n1 = nrem
  · refine wpS_pos (by simpa using hnn) ?_
    exact wpS_pure (h n1 st hB Fx.rfl' q1 q2 q3)
  refine wpS_neg (by simpa using hnn) ?_
  have hlt : K (arrOf st) (lo + n1) < K (arrOf st) (lo + n1 - 1) := q4.resolve_left hnn
  have hjp : ∀ r st1, SB a₀ p st1 → Fx lo st st1 → NoR (arrOf st1) lo (n1 + 1) → wpS (model prog w) A E s (jp r) Q st1 := by
    intro r st1 B1 F1 hs1
    refine wpS_bind (wpS_lift (wpAny_rule ⟨rfl, ?_⟩))
    have e2 : n2 = n1 + 1 := rfl
    have hs1 : NoR (arrOf st1) lo n2 := hs1
    clear_value n2
    refine wpS_bind (wpS_mono (wpS_forRange (I := fun x c st' => ∃ neq, c = (none, x, neq) ∧ SB a₀ p st' ∧ Fx lo st st' ∧ NoR (arrOf st') lo x ∧ neq + 1 ≤ x ∧ (∀ i, lo + x - (neq + 1) ≤ i → i < lo + x → K (arrOf st') i = K (arrOf st') (lo + x - 1)))
      (Q := fun c st' => ∃ x neq, c = (none, x, neq) ∧ n2 ≤ x ∧ x ≤ nrem ∧ SB a₀ p st' ∧ Fx lo st st' ∧ NoR (arrOf st') lo x ∧ neq + 1 ≤ x ∧ (∀ i, lo + x - (neq + 1) ≤ i → i < lo + x → K (arrOf st') i = K (arrOf st') (lo + x - 1))) ?_ ?_ ⟨0, rfl, B1, F1, hs1, by omega, fun i h1 h2 => by congr 1; omega⟩) ?_)
    · rintro x c st2 hx1 hx2 ⟨neq, rfl, B2, F2, hs2, hq, he⟩
      dsimp -zeta -zetaHave only
      extract_lets s1 x1 neq1
      have e3 : x1 = x := rfl
      have e4 : neq1 = neq := rfl
      clear_value x1 neq1
      subst e3 e4
      refine wpS_bind (wpS_ltB B2 h0 (by omega) (by omega) ?_)
      dsimp only
      have hsz : lo + x1 ≤ (arrOf st2).size := by rw [B2.size]; omega
      by_cases hl : K (arrOf st2) (lo + x1) < K (arrOf st2) (lo + x1 - 1)
      · simp only [hl, decide_true, if_true]
        have hm := hs2.more (by omega) (Int.le_of_lt hl)
        by_cases hneq : neq1 > 0
        · refine wpS_pos hneq ?_
          refine wpS_bind (wpS_reverse (wpS_pure ⟨0, rfl, B2.setArr (mirror_perm _ _ _ _), F2.trans fun i hi => K_mirror_equal hsz he i, hm.congr (K_mirror_equal hsz he), by omega, fun i h1 h2 => by congr 1; omega⟩))
        · refine wpS_neg hneq ?_
          exact wpS_pure ⟨0, rfl, B2, F2, hm, by omega, fun i h1 h2 => by congr 1; omega⟩
      · simp only [hl, decide_false, Bool.false_eq_true, if_false]
        refine wpS_bind (wpS_ltB B2 h0 (by omega) (by omega) ?_)
        by_cases hr : K (arrOf st2) (lo + x1 - 1) < K (arrOf st2) (lo + x1)
        · simp only [hr, decide_true, if_true]
          exact wpS_pure ⟨x1, neq1, rfl, hx1, by omega, B2, F2, hs2, hq, he⟩
        · simp only [hr, decide_false, Bool.false_eq_true, if_false]
          have hex : K (arrOf st2) (lo + x1) = K (arrOf st2) (lo + x1 - 1) := by omega
          refine wpS_pure ⟨neq1 + 1, rfl, B2, F2, hs2.more (by omega) (Int.le_of_eq hex), by omega, fun i h1 h2 => ?_⟩
          rw [show lo + (x1 + 1) - 1 = lo + x1 by omega]
          by_cases hix : i = lo + x1
          · subst hix; rfl
          · rw [hex]; exact he i (by omega) (by omega)
    · rintro c st2 ⟨neq, rfl, B2, F2, hs2, hq, he⟩
      rw [show max n2 nrem = nrem by omega] at hs2 hq he ⊢
      exact ⟨nrem, neq, rfl, by omega, Nat.le_refl _, B2, F2, hs2, hq, he⟩
    · rintro c st2 ⟨x, neq, rfl, hx1, hx2, B2, F2, hs2, hq, he⟩
      dsimp -zeta -zetaHave only
      extract_lets r2 s2 x1 neq1 jp2
      have e3 : x1 = x := rfl
      have e4 : neq1 = neq := rfl
      clear_value x1 neq1
      subst e3 e4
      dsimp -zeta -zetaHave only [r2]
      have hjp2 : ∀ r st3, SB a₀ p st3 → Fx lo st st3 → NoR (arrOf st3) lo x1 → wpS (model prog w) A E s (jp2 r) Q st3 := by
        intro r st3 B3 F3 hs3
        have hsz : lo + x1 ≤ (arrOf st3).size := by rw [B3.size]; omega
        refine wpS_bind (wpS_reverse ?_)
        have F4 : Fx lo st (PyProof.Rows.setArr st3 (mirror (arrOf st3) lo (lo + x1) ((lo + x1 - lo) / 2))) := F3.trans fun i hi => by
          show K (mirror (arrOf st3) lo (lo + x1) ((lo + x1 - lo) / 2)) i = _
          rw [K_mirror hsz, if_neg (by omega)]
        have B4 := B3.setArr (mirror_perm (arrOf st3) lo (lo + x1) ((lo + x1 - lo) / 2))
        have hs4 := hs3.turn hsz
        refine wpS_bind (wpS_asc (lo := lo) (by omega) hx2 hs4 (fun x n Q q1 q2 hd hy => ?_) fun n q1 q2 q3 q4 => wpS_pure (h n _ B4 F4 (by omega) q2 q3))
        dsimp only
        refine wpS_bind (wpS_ltB B4 h0 (by omega) (by omega) ?_)
        split
        · rename_i hb
          simp only [Option.some.injEq] at hb
          subst hb
          split
          · rename_i hd'
            exact wpS_pure (hd (by simpa using hd'))
          · rename_i hd'
            exact wpS_pure (hy (by simpa using hd'))
        · rename_i hb
          exact absurd rfl (hb _)
      clear_value jp2
      have hsz : lo + x1 ≤ (arrOf st2).size := by rw [B2.size]; omega
      by_cases hneq : neq1 > 0
      · refine wpS_pos hneq ?_
        exact wpS_bind (wpS_reverse (hjp2 _ _ (B2.setArr (mirror_perm _ _ _ _)) (F2.trans fun i hi => K_mirror_equal hsz he i) (hs2.congr (K_mirror_equal hsz he))))
      · refine wpS_neg hneq ?_
        exact hjp2 _ _ B2 F2 hs2
  clear_value jp
  by_cases hgt : n1 > 1
  · refine wpS_pos hgt ?_
    refine wpS_bind (wpS_ltB hB h0 (by omega) (by omega) ?_)
    by_cases hr : K (arrOf st) lo < K (arrOf st) (lo + n1 - 1)
    · simp only [hr, decide_true, if_true]
      exact wpS_pure (h n1 st hB Fx.rfl' q1 q2 q3)
    · simp only [hr, decide_false, Bool.false_eq_true, if_false]
      have hsz : lo + n1 ≤ (arrOf st).size := by rw [hB.size]; omega
      have hall : ∀ k, lo ≤ k → k < lo + n1 → K (arrOf st) k = K (arrOf st) (lo + n1 - 1) := by
        intro k hk1 hk2
        have a1 := q3 0 (k - lo) (by omega) (by omega)
        have a2 := q3 (k - lo) (n1 - 1) (by omega) (by omega)
        rw [show lo + (k - lo) = k by omega] at a1 a2
        rw [show lo + (n1 - 1) = lo + n1 - 1 by omega] at a2
        rw [Nat.add_zero] at a1
        omega
      refine wpS_bind (wpS_reverse (hjp _ _ (hB.setArr (mirror_perm _ _ _ _)) (fun i hi => K_mirror_equal hsz hall i) ?_))
      have : NoR (arrOf st) lo n1 := fun i j hij hj => by rw [hall (lo + i) (by omega) (by omega), hall (lo + j) (by omega) (by omega)]; exact Int.le_refl _
      exact (this.more q1 (Int.le_of_lt hlt)).congr (K_mirror_equal hsz hall)
  · refine wpS_neg hgt ?_
    have hn1 : n1 = 1 := by omega
    subst hn1
    refine hjp _ _ hB Fx.rfl' (NoR.more (fun i j hij hj => ?_) (by omega) (Int.le_of_lt hlt))
    have : i = j := by omega
    subst this; exact Int.le_refl _
end
end Mine
end
section
open PySem PyProof.Rows
set_option maxRecDepth 100000
namespace Mine
section
variable {prog : Program} {w : World} {A : Around} {E : Value → Shared → Prop} {s : Shared} {a₀ : Array Keyed} {p : Array (Nat × Nat × Nat)}
theorem SoR.put {xs : Array Keyed} {lo k l : Nat} (h : SoR xs lo k) (hk : lo + k < xs.size) (hlk : l ≤ k) (hlo : ∀ i, i < l → K xs (lo + i) ≤ K xs (lo + k)) (hhi : ∀ i, l ≤ i → i < k → K xs (lo + k) < K xs (lo + i)) :
    SoR (bubble xs (lo + k) (lo + k - (lo + l))) lo (k + 1) := by
  have hK : ∀ i, i ≤ k → K (bubble xs (lo + k) (lo + k - (lo + l))) (lo + i) = if i = l then K xs (lo + k) else if l < i then K xs (lo + (i - 1)) else K xs (lo + i) := by
    intro i hi
    rw [K_bubble hk (by omega)]
    by_cases h1 : i = l
    · rw [if_pos h1, if_pos (by omega)]
    · rw [if_neg h1, if_neg (by omega)]
      by_cases h2 : l < i
      · rw [if_pos h2, if_pos (by omega), show lo + i - 1 = lo + (i - 1) by omega]
      · rw [if_neg h2, if_neg (by omega)]
  intro i j hij hj
  rw [hK i (by omega), hK j (by omega)]
  repeat' split
  all_goals first
    | (exfalso; omega)
    | exact Int.le_refl _
    | exact hlo _ (by omega)
    | exact Int.le_of_lt (hhi _ (by omega) (by omega))
    | exact h _ _ (by omega) (by omega)
theorem wpS_binarySortL {st : SortSt} {lo n ok : Nat} {Q : Bool → SortSt → Prop} (h0 : IntKeys a₀) (hn : lo + n ≤ a₀.size) (h1 : 1 ≤ ok) (hok : ok ≤ n) (hB : SB a₀ p st) (hs : SoR (arrOf st) lo ok)
    (h : ∀ st', SB a₀ p st' → Fx lo st st' → SoR (arrOf st') lo n → Q true st') : wpS (model prog w) A E s (binarySort' lo n ok) Q st := by
  rw [binarySort'_eq]
  refine wpS_bind (wpS_mono (wpS_forRange (I := fun k c st' => c = (none, ()) ∧ SB a₀ p st' ∧ Fx lo st st' ∧ SoR (arrOf st') lo k)
    (Q := fun c st' => c = (none, ()) ∧ SB a₀ p st' ∧ Fx lo st st' ∧ SoR (arrOf st') lo n) ?_ ?_ ⟨rfl, hB, Fx.rfl', by rwa [show max ok 1 = ok by omega]⟩) ?_)
  · rintro k c st1 hk1 hk2 ⟨rfl, B1, F1, hs1⟩
    refine wpS_bind (wpS_mono (wpS_forRange (I := fun x c st2 => st2 = st1 ∧ ∃ l r, c = (none, l, r) ∧ l ≤ r ∧ r ≤ k ∧ r - l ≤ k - x ∧
        (∀ i, i < l → K (arrOf st1) (lo + i) ≤ K (arrOf st1) (lo + k)) ∧ (∀ i, r ≤ i → i < k → K (arrOf st1) (lo + k) < K (arrOf st1) (lo + i)))
      (Q := fun c st2 => st2 = st1 ∧ ∃ l r, c = (none, l, r) ∧ l ≤ k ∧
        (∀ i, i < l → K (arrOf st1) (lo + i) ≤ K (arrOf st1) (lo + k)) ∧ (∀ i, l ≤ i → i < k → K (arrOf st1) (lo + k) < K (arrOf st1) (lo + i))) ?_ ?_ ⟨rfl, 0, k, rfl, by omega, by omega, by omega, fun i hi => by omega, fun i h1 h2 => by omega⟩) ?_)
    · rintro x c st2 _ hx ⟨rfl, l, r, rfl, q1, q2, q3, q4, q5⟩
      dsimp only
      by_cases hge : l ≥ r
      · refine wpS_pos hge ?_
        have : l = r := by omega
        subst this
        exact wpS_pure ⟨rfl, l, l, rfl, q2, q4, q5⟩
      · refine wpS_neg hge ?_
        refine wpS_bind (wpS_ltB B1 h0 (by omega) (by omega) ?_)
        by_cases hl : K (arrOf st2) (lo + k) < K (arrOf st2) (lo + (l + r) / 2)
        · simp only [hl, decide_true, if_true]
          exact wpS_pure ⟨rfl, l, (l + r) / 2, rfl, by omega, by omega, by omega, q4, fun i h1 h2 => Int.lt_of_lt_of_le hl (hs1 _ _ h1 h2)⟩
        · simp only [hl, decide_false, Bool.false_eq_true, if_false]
          exact wpS_pure ⟨rfl, (l + r) / 2 + 1, r, rfl, by omega, by omega, by omega, fun i h1 => Int.le_trans (hs1 i ((l + r) / 2) (by omega) (by omega)) (Int.not_lt.mp hl), q5⟩
    · rintro c st2 ⟨rfl, l, r, rfl, q1, q2, q3, q4, q5⟩
      have : l = r := by omega
      subst this
      exact ⟨rfl, l, l, rfl, q2, q4, q5⟩
    · rintro c st2 ⟨rfl, l, r, rfl, q1, q2, q3⟩
      have hsz : lo + k < (arrOf st2).size := by rw [B1.size]; omega
      dsimp only
      rw [moveDown'_eq]
      refine wpS_bind (wpS_modify (wpS_pure ⟨rfl, B1.setArr (bubble_perm _ _ _), F1.trans fun i hi => ?_, hs1.put hsz q1 q2 q3⟩))
      show K (bubble (arrOf st2) (lo + k) (lo + k - (lo + l))) i = _
      rw [K_bubble hsz (by omega), if_neg (by omega), if_neg (by omega)]
  · rintro c st1 ⟨rfl, B1, F1, hs1⟩
    rw [show max (max ok 1) n = n by omega] at hs1
    exact ⟨rfl, B1, F1, hs1⟩
  · rintro c st1 ⟨rfl, B1, F1, hs1⟩
    exact wpS_pure (h st1 B1 F1 hs1)
end
end Mine
end
section
open PySem PySem.W PyProof.Rows
set_option maxRecDepth 100000
namespace Mine
theorem wr_list (sa : Nat) : ∀ (l : List Keyed) (i : Nat) (a : Array Keyed), sa + i + l.length ≤ a.size →
    ((l.zipIdx i).foldl (fun a (x : Keyed × Nat) => a.setIfInBounds (sa + x.2) x.1) a).toList = a.toList.take (sa + i) ++ l ++ a.toList.drop (sa + i + l.length)
  | [], i, a, _ => by simp
  | x :: l, i, a, h => by
    rw [List.zipIdx_cons, List.foldl_cons]
    rw [List.length_cons] at h
    rw [wr_list sa l (i + 1) _ (by rw [Array.size_setIfInBounds]; omega)]
    have hs : sa + i < a.toList.length := by rw [Array.length_toList]; omega
    rw [Array.toList_setIfInBounds]
    have e1 : List.take (sa + (i + 1)) (a.toList.set (sa + i) x) = List.take (sa + i) a.toList ++ [x] := by
      rw [show sa + (i + 1) = sa + i + 1 by omega, List.take_add_one, List.getElem?_set_self hs, List.take_set]
      rw [List.set_eq_of_length_le (by rw [List.length_take]; omega)]
      rfl
    rw [e1, List.drop_set_of_lt (by omega), List.length_cons, show sa + (i + 1) + l.length = sa + i + (l.length + 1) by omega]
    simp
theorem wr_eq {a r : Array Keyed} {sa : Nat} (h : sa + r.size ≤ a.size) : r.toList.zipIdx.foldl (fun a (x : Keyed × Nat) => a.setIfInBounds (sa + x.2) x.1) a = a.extract 0 sa ++ r ++ a.extract (sa + r.size) a.size := by
  apply Array.ext'
  rw [wr_list sa _ 0 _ (by simpa using h)]
  simp only [Array.toList_append, extract_list, Nat.add_zero, List.drop_zero, Nat.sub_zero, Array.length_toList]
  congr 1
  rw [List.take_of_length_le]
  simp
theorem IntK.extract {xs : Array Keyed} {i j : Nat} (h : IntK xs) (hj : j ≤ xs.size) : IntK (xs.extract i j) := fun k hk => by
  rw [ext_size hj] at hk
  obtain ⟨t, q, e⟩ := h (i + k) (by omega)
  refine ⟨t, q, ?_⟩
  rw [K_extract hj hk, Array.getElem?_extract, if_pos (by rw [Nat.min_eq_left hj]; exact hk), e]
theorem SoR.le {xs : Array Keyed} {lo k i j : Nat} (h : SoR xs lo k) (h1 : lo ≤ i) (h2 : i ≤ j) (h3 : j < lo + k) : K xs i ≤ K xs j := by
  have := h (i - lo) (j - lo) (Nat.sub_le_sub_right h2 lo) (by omega)
  rwa [Nat.add_sub_cancel' h1, Nat.add_sub_cancel' (Nat.le_trans h1 h2)] at this
theorem SoR.ext {xs : Array Keyed} {lo k i j : Nat} (h : SoR xs lo k) (hz : lo + k ≤ xs.size) (h1 : lo ≤ i) (h2 : j ≤ lo + k) : Srt (xs.extract i j) := fun u v huv hv => by
  have hj : j ≤ xs.size := Nat.le_trans h2 hz
  rw [ext_size hj] at hv
  rw [K_extract hj (Nat.lt_of_le_of_lt huv hv), K_extract hj hv]
  exact h.le (Nat.le_trans h1 (Nat.le_add_right _ _)) (Nat.add_le_add_left huv _) (by omega)
/-- two runs, the second right behind the first -/
structure Two (a : Array Keyed) (n1 n2 : Nat) : Prop where
  size : n1 + n2 = a.size
  one : SoR a 0 n1
  two : SoR a n1 n2
theorem Two.flat {a : Array Keyed} {n1 n2 : Nat} (T : Two a n1 n2) (h1 : 1 ≤ n1) (hc : K a (n1 - 1) ≤ K a n1) : Srt a := fun i j hij hj => by
  have z := T.size
  by_cases hjn : j < n1
  · exact T.one.le (by omega) hij (by omega)
  · by_cases hin : i < n1
    · have a1 := T.one.le (i := i) (j := n1 - 1) (by omega) (by omega) (by omega)
      have a2 := T.two.le (i := n1) (j := j) (by omega) (by omega) (by omega)
      omega
    · exact T.two.le (by omega) hij (by omega)
theorem Two.merged {a r : Array Keyed} {n1 n2 k m : Nat} (T : Two a n1 n2) (hk : k < n1) (hm : 0 < m) (hm2 : m ≤ n2) (c1 : ∀ i, i < k → K a i ≤ K a n1) (c5 : ∀ j, m ≤ j → j < n2 → K a (n1 - 1) ≤ K a (n1 + j))
    (M : Mg (a.extract k n1) (a.extract n1 (n1 + m)) r) : (a.extract 0 k ++ r ++ a.extract (n1 + m) a.size).Perm a ∧ Srt (a.extract 0 k ++ r ++ a.extract (n1 + m) a.size) := by
  have z := T.size
  constructor
  · rw [Array.perm_iff_toList_perm]
    simp only [Array.toList_append]
    refine ((M.perm.append_left _).append_right _).trans (.of_eq ?_)
    simp only [extract_list, List.drop_zero, Nat.sub_zero]
    have e1 : a.toList.drop (n1 + m) = (a.toList.drop (n1 + m)).take (a.size - (n1 + m)) := by rw [List.take_of_length_le]; simp
    rw [← e1, ← List.append_assoc, ← take_split (by omega), show n1 + m - n1 = m by omega]
    have e2 := take_split (l := a.toList) (i := n1) (j := n1 + m) (by omega)
    rw [show n1 + m - n1 = m by omega] at e2
    rw [← e2, List.take_append_drop]
  · refine srt_of ?_
    have hr : ∀ x ∈ kl r, (∃ i, k ≤ i ∧ i < n1 ∧ x = K a i) ∨ ∃ j, n1 ≤ j ∧ j < n1 + m ∧ x = K a j := by
      intro x hx
      have := ((M.perm.map fun p : Keyed => numOf p.1).mem_iff (a := x)).mp hx
      rw [List.map_append] at this
      rcases List.mem_append.mp this with h | h
      · exact .inl (mem_extract (by omega) h)
      · exact .inr (mem_extract (by omega) h)
    rw [kl_append, kl_append, List.pairwise_append, List.pairwise_append]
    refine ⟨⟨(T.one.ext (by omega) (by omega) (by omega)).kl, M.srt.kl, fun x hx y hy => ?_⟩, (T.two.ext (by omega) (by omega) (by omega)).kl, fun x hx y hy => ?_⟩
    · obtain ⟨i, i1, i2, rfl⟩ := mem_extract (by omega) hx
      rcases hr y hy with ⟨j, j1, j2, rfl⟩ | ⟨j, j1, j2, rfl⟩
      · exact T.one.le (by omega) (by omega) (by omega)
      · exact Int.le_trans (c1 i i2) (T.two.le (by omega) j1 (by omega))
    · obtain ⟨j, j1, j2, rfl⟩ := mem_extract (by omega) hy
      rcases List.mem_append.mp hx with hx | hx
      · obtain ⟨i, i1, i2, rfl⟩ := mem_extract (by omega) hx
        exact Int.le_trans (c1 i i2) (T.two.le (by omega) (by omega) (by omega))
      · rcases hr x hx with ⟨i, i1, i2, rfl⟩ | ⟨i, i1, i2, rfl⟩
        · have := c5 (j - n1) (by omega) (by omega)
          rw [show n1 + (j - n1) = j by omega] at this
          exact Int.le_trans (T.one.le (by omega) (by omega) (by omega)) this
        · exact T.two.le (by omega) (by omega) (by omega)
section
variable {prog : Program} {w : World} {A : Around} {E : Value → Shared → Prop} {s : Shared} {a₀ : Array Keyed}
theorem wpS_set {st st' : SortSt} {Q : PUnit → SortSt → Prop} (h : Q ⟨⟩ st') : wpS (model prog w) A E s (set st' : StateT SortSt Sem PUnit) Q st := by
  unfold wpS; rw [StateT.run_set]; exact wpAny_pure ⟨rfl, h⟩
theorem wpS_mergeAt {st : SortSt} {n1 n2 pw : Nat} {Q : Bool → SortSt → Prop} (h0 : IntKeys a₀) (h1 : 1 ≤ n1) (h2 : 1 ≤ n2) (hB : SB a₀ #[(0, n1, pw), (n1, n2, 0)] st) (T : Two (arrOf st) n1 n2)
    (h : ∀ st', SB a₀ #[(0, n1 + n2, pw)] st' → Srt (arrOf st') → Q true st') : wpS (model prog w) A E s (mergeAt' 0) Q st := by
  have z := T.size
  have hik : IntK (arrOf st) := fun i hi => hB.at h0 (by rw [← hB.size]; exact hi)
  unfold mergeAt'
  refine wpS_bind (wpS_get ?_)
  have p0 : (pendingOf st)[0]? = some (0, n1, pw) := by rw [hB.pend]; rfl
  have p1 : (pendingOf st)[0 + 1]? = some (n1, n2, 0) := by rw [hB.pend]; rfl
  dsimp -zeta -zetaHave only
  rw [p0, p1]
  dsimp -zeta -zetaHave only
  refine wpS_bind (wpS_set ?_)
  have B1 : SB a₀ #[(0, n1 + n2, pw)] (SortSt.mk' (kindOf st) (arrOf st) (((pendingOf st).setIfInBounds 0 (0, n1 + n2, pw)).eraseIdxIfInBounds (0 + 1)) (gallopOf st) (failedOf st)) := ⟨hB.perm, hB.kind, hB.failed, by
    show ((pendingOf st).setIfInBounds 0 (0, n1 + n2, pw)).eraseIdxIfInBounds (0 + 1) = _
    rw [hB.pend]; simp [Array.eraseIdxIfInBounds]⟩
  have ea : arrOf (SortSt.mk' (kindOf st) (arrOf st) (((pendingOf st).setIfInBounds 0 (0, n1 + n2, pw)).eraseIdxIfInBounds (0 + 1)) (gallopOf st) (failedOf st)) = arrOf st := rfl
  change wpS _ _ _ _ _ _ (SortSt.mk' (kindOf st) (arrOf st) (((pendingOf st).setIfInBounds 0 (0, n1 + n2, pw)).eraseIdxIfInBounds (0 + 1)) (gallopOf st) (failedOf st))
  generalize SortSt.mk' (kindOf st) (arrOf st) (((pendingOf st).setIfInBounds 0 (0, n1 + n2, pw)).eraseIdxIfInBounds (0 + 1)) (gallopOf st) (failedOf st) = st1 at B1 ea ⊢
  obtain ⟨t1, q1, f1⟩ := hik n1 (by omega)
  refine wpS_bind (wpS_elem f1 ?_)
  refine wpS_bind (wpS_gallop (left := false) B1.kind hik (show 0 + n1 ≤ (arrOf st).size by omega) (by omega) (fun i j hij hj => T.one i j hij hj) fun k k1 k2 k3 => ?_)
  have c1 : ∀ i, i < k → K (arrOf st) i ≤ K (arrOf st) n1 := fun i hi => by have := bey_f (k2 i hi); rwa [Nat.zero_add] at this
  have c3 : ∀ i, k ≤ i → i < n1 → K (arrOf st) n1 < K (arrOf st) i := fun i hi hi2 => by have := bey_f' (k3 i hi hi2); rwa [Nat.zero_add] at this
  clear k2 k3
  dsimp -zeta -zetaHave only
  by_cases hk : n1 - k = 0
  · refine wpS_pos (by simpa using hk) ?_
    exact wpS_pure (h st1 B1 (by rw [ea]; exact T.flat h1 (c1 _ (by omega))))
  rw [if_neg (by simpa using hk), show 0 + k + (n1 - k) - 1 = n1 - 1 by rw [Nat.zero_add, Nat.add_sub_cancel' k1]]
  obtain ⟨t2, q2, f2⟩ := hik (n1 - 1) (by omega)
  refine wpS_bind (wpS_elem f2 ?_)
  refine wpS_bind (wpS_gallop (left := true) B1.kind hik (show n1 + n2 ≤ (arrOf st).size by omega) (by omega) (fun i j hij hj => T.two i j hij hj) fun m m1 m2 m3 => ?_)
  have c4 : ∀ j, j < m → K (arrOf st) (n1 + j) < K (arrOf st) (n1 - 1) := fun j hj => bey_t (m2 j hj)
  have c5 : ∀ j, m ≤ j → j < n2 → K (arrOf st) (n1 - 1) ≤ K (arrOf st) (n1 + j) := fun j hj hj2 => bey_t' (m3 j hj hj2)
  clear m2 m3
  dsimp -zeta -zetaHave only
  by_cases hm : m = 0
  · refine wpS_pos (by simpa using hm) ?_
    exact wpS_pure (h st1 B1 (by rw [ea]; exact T.flat h1 (c5 0 (by omega) (by omega))))
  refine wpS_neg (by simpa using hm) ?_
  have b1 : n1 ≤ (arrOf st).size := Nat.le.intro z
  have b2 : n1 + m ≤ (arrOf st).size := by rw [← z]; exact Nat.add_le_add_left m1 n1
  have kn : k < n1 := Nat.lt_of_sub_ne_zero hk
  have mp : 0 < m := Nat.pos_of_ne_zero hm
  extract_lets x y jp
  have ex : x = (arrOf st).extract k n1 := by show (arrOf st).extract (0 + k) n1 = _; rw [Nat.zero_add]
  have ey : y = (arrOf st).extract n1 (n1 + m) := rfl
  have hjp : ∀ r st2, Mg x y r → Gm st1 st2 → wpS (model prog w) A E s (jp r) Q st2 := by
    intro r st2 M G
    rw [ex, ey] at M
    have hr : r.size = n1 + m - k := by
      have := M.perm.length_eq
      rw [List.length_append, Array.length_toList, Array.length_toList, Array.length_toList, ext_size b1, ext_size b2] at this
      rw [this, Nat.add_sub_cancel_left, ← Nat.sub_add_comm k1]
    obtain ⟨w1, w2⟩ := T.merged kn mp m1 c1 c5 M
    refine wpS_bind (wpS_modify ?_)
    refine wpS_bind (wpS_get ?_)
    have e : List.foldl (fun a (x : Keyed × Nat) => a.setIfInBounds (0 + k + x.2) x.1) (arrOf st2) r.toList.zipIdx = (arrOf st).extract 0 k ++ r ++ (arrOf st).extract (n1 + m) (arrOf st).size := by
      have q : k + r.size = n1 + m := by rw [hr, Nat.add_sub_cancel' (Nat.le_trans k1 (Nat.le_add_right _ _))]
      rw [G.arr, ea, wr_eq (by rw [Nat.zero_add, q]; exact b2), Nat.zero_add, q]
    have hf : failedOf st2 = none := G.failed.trans B1.failed
    have := h (setArr st2 (List.foldl (fun a (x : Keyed × Nat) => a.setIfInBounds (0 + k + x.2) x.1) (arrOf st2) r.toList.zipIdx)) ⟨by
      show (List.foldl (fun a (x : Keyed × Nat) => a.setIfInBounds (0 + k + x.2) x.1) (arrOf st2) r.toList.zipIdx).Perm a₀
      rw [e]; exact w1.trans hB.perm, G.kind.trans B1.kind, hf, G.pend.trans B1.pend⟩ (by
      show Srt (List.foldl (fun a (x : Keyed × Nat) => a.setIfInBounds (0 + k + x.2) x.1) (arrOf st2) r.toList.zipIdx)
      rw [e]; exact w2)
    refine wpS_pure ?_
    show Q (failedOf st2).isNone _
    rw [hf]
    exact this
  clear_value jp
  have ix : IntK x := by rw [ex]; exact hik.extract b1
  have iy : IntK y := by rw [ey]; exact hik.extract b2
  have sx : Srt x := by rw [ex]; exact T.one.ext (by rw [Nat.zero_add]; exact b1) (Nat.zero_le _) (by rw [Nat.zero_add]; exact Nat.le_refl _)
  have sy : Srt y := by rw [ey]; exact T.two.ext (Nat.le_of_eq z) (Nat.le_refl _) (Nat.add_le_add_left m1 n1)
  have zx : x.size = n1 - k := by rw [ex, ext_size b1]
  have zy : y.size = m := by rw [ey, ext_size b2, Nat.add_sub_cancel_left]
  have px : 0 < n1 - k := Nat.sub_pos_of_lt kn
  have o1 : K y 0 ≤ K x 0 := by
    rw [ex, ey, K_extract b2 (by rw [Nat.add_sub_cancel_left]; exact mp), K_extract b1 px]
    exact Int.le_of_lt (c3 _ (Nat.le_refl _) kn)
  have o2 : ∀ j, j < y.size → K y j ≤ K x (x.size - 1) := fun j hj => by
    rw [zy] at hj
    rw [zx, ex, ey, K_extract b2 (by rw [Nat.add_sub_cancel_left]; exact hj), K_extract b1 (Nat.sub_lt px Nat.one_pos), ← Nat.add_sub_assoc px, Nat.add_sub_cancel' k1]
    exact Int.le_of_lt (c4 _ hj)
  split
  · exact wpS_bind (wpS_mergeLo B1.kind ix iy sx sy (by rw [zx]; exact px) (by rw [zy]; exact mp) o1 o2 fun r st2 M G => hjp r st2 M G)
  · exact wpS_bind (wpS_mergeHi B1.kind ix iy sx sy (by rw [zx]; exact px) (by rw [zy]; exact mp) o1 o2 fun r st2 M G => hjp r st2 M G)
end
end Mine
end
section
open PySem PySem.W PyProof.Rows
set_option maxRecDepth 100000
namespace Mine
section
variable {prog : Program} {w : World} {A : Around} {E : Value → Shared → Prop} {s : Shared} {a₀ : Array Keyed}
noncomputable def TwoR (a₀ : Array Keyed) (st : SortSt) : Prop := ∃ n1 pw, 32 ≤ n1 ∧ n1 < 64 ∧ SB a₀ #[(0, n1, pw), (n1, 64 - n1, 0)] st ∧ Two (arrOf st) n1 (64 - n1)
noncomputable def OneR (a₀ : Array Keyed) (st : SortSt) : Prop := ∃ pw, SB a₀ #[(0, 64, pw)] st ∧ Srt (arrOf st)
theorem wpS_sortRuns64 {st : SortSt} {Q : Unit → SortSt → Prop} (h0 : IntKeys a₀) (hB : SB a₀ #[] st) (h64 : a₀.size = 64)
    (h : ∀ st', (arrOf st').Perm a₀ → failedOf st' = none → SortedTo (arrOf st') a₀.size → Q () st') : wpS (model prog w) A E s sortRuns' Q st := by
  rw [sortRuns'_eq]
  refine wpS_bind (wpS_get ?_)
  have hz : (arrOf st).size = 64 := hB.size.trans h64
  have hmr : minRun' 64 64 0 = 32 := by
    rw [minRun'_succ, if_neg (by omega), minRun'_succ, if_pos (by omega)]
    decide
  rw [hz]
  extract_lets size minrun lo0
  have e1 : size = 64 := rfl
  have e2 : minrun = 32 := hmr
  have e3 : lo0 = 0 := rfl
  clear_value size minrun lo0
  subst e1 e2 e3
  refine wpS_bind (wpS_mono (wpS_forRange
    (I := fun x c st' => (x = 0 ∧ c = (none, 0) ∧ SB a₀ #[] st') ∨ (x = 1 ∧ ∃ n1, 32 ≤ n1 ∧ n1 ≤ 64 ∧ c = (none, n1) ∧ SB a₀ #[(0, n1, 0)] st' ∧ SoR (arrOf st') 0 n1) ∨ (x = 2 ∧ c = (none, 64) ∧ TwoR a₀ st'))
    (Q := fun c st' => c = (none, 64) ∧ (OneR a₀ st' ∨ TwoR a₀ st')) ?_ ?_ (.inl ⟨rfl, rfl, hB⟩)) ?_)
  · rintro x c st1 _ hx (⟨rfl, rfl, B1⟩ | ⟨rfl, n1, q1, q2, rfl, B1, s1⟩ | ⟨rfl, rfl, T⟩)
    · extract_lets lo jp force n2
      have e1 : lo = 0 := rfl
      have e2 : force = 32 := rfl
      have e3 : n2 = 32 := rfl
      clear_value lo n2 force
      subst e1 e2 e3
      have hjp : ∀ r n st2, 32 ≤ n → n ≤ 64 → SB a₀ #[] st2 → SoR (arrOf st2) 0 n → wpS (model prog w) A E s (jp r n) (fun r st' => match r with
          | .done c' => c' = (none, 64) ∧ (OneR a₀ st' ∨ TwoR a₀ st')
          | .yield c' => (0 + 1 = 0 ∧ c' = (none, 0) ∧ SB a₀ #[] st') ∨ (0 + 1 = 1 ∧ ∃ n1, 32 ≤ n1 ∧ n1 ≤ 64 ∧ c' = (none, n1) ∧ SB a₀ #[(0, n1, 0)] st' ∧ SoR (arrOf st') 0 n1) ∨ (0 + 1 = 2 ∧ c' = (none, 64) ∧ TwoR a₀ st')) st2 := by
        intro r n st2 g1 g2 B2 s2
        refine wpS_bind (wpS_get ?_)
        have hb : (pendingOf st2).back? = none := by rw [B2.pend]; rfl
        rw [hb]
        dsimp only
        refine wpS_bind (wpS_modify (wpS_pure (.inr (.inl ⟨rfl, n, g1, g2, by rw [Nat.zero_add], ⟨B2.perm, B2.kind, B2.failed, ?_⟩, s2⟩))))
        show (pendingOf st2).push _ = _
        rw [B2.pend]; rfl
      clear_value jp
      refine wpS_neg (by omega) ?_
      refine wpS_bind (wpS_countRunL h0 (by omega) (by omega) B1 fun m st2 B2 F2 m1 m2 s2 => ?_)
      dsimp only
      by_cases hm : m < 32
      · refine wpS_pos hm ?_
        refine wpS_bind (wpS_lift (wpAny_rule ⟨rfl, ?_⟩))
        refine wpS_bind (wpS_binarySortL h0 (by omega) m1 (by omega) B2 s2 fun st3 B3 F3 s3 => ?_)
        refine wpS_neg (by decide) ?_
        exact wpS_mono (hjp _ _ _ (by omega) (by omega) B3 s3) fun r st' h' => by cases r <;> exact h'
      · refine wpS_neg hm ?_
        exact wpS_mono (hjp _ _ _ (by omega) (by omega) B2 s2) fun r st' h' => by cases r <;> exact h'
    · extract_lets lo jp force n2
      have e1 : lo = n1 := rfl
      have e2 : force = min (64 - lo) 32 := rfl
      have e3 : n2 = force := rfl
      clear_value lo n2 force
      subst e1 e2 e3
      by_cases hlo : lo ≥ 64
      · refine wpS_pos hlo ?_
        have : lo = 64 := by omega
        subst this
        refine wpS_pure ⟨rfl, .inl ⟨0, B1, fun i j hij hj => ?_⟩⟩
        exact s1.le (by omega) hij (by rw [B1.size] at hj; omega)
      refine wpS_neg hlo ?_
      have hjp : ∀ r n st2, n = 64 - lo → SB a₀ #[(0, lo, 0)] st2 → Fx lo st1 st2 → SoR (arrOf st2) lo n → wpS (model prog w) A E s (jp r n) (fun r st' => match r with
          | .done c' => c' = (none, 64) ∧ (OneR a₀ st' ∨ TwoR a₀ st')
          | .yield c' => (1 + 1 = 0 ∧ c' = (none, 0) ∧ SB a₀ #[] st') ∨ (1 + 1 = 1 ∧ ∃ n1, 32 ≤ n1 ∧ n1 ≤ 64 ∧ c' = (none, n1) ∧ SB a₀ #[(0, n1, 0)] st' ∧ SoR (arrOf st') 0 n1) ∨ (1 + 1 = 2 ∧ c' = (none, 64) ∧ TwoR a₀ st')) st2 := by
        intro r n st2 g1 B2 F2 s2
        have T2 : Two (arrOf st2) lo (64 - lo) := ⟨by rw [B2.size]; omega, fun i j hij hj => by rw [Nat.zero_add, Nat.zero_add, F2 i (by omega), F2 j (by omega)]; exact s1.le (by omega) hij (by omega), by rw [← g1]; exact s2⟩
        refine wpS_bind (wpS_get ?_)
        have hb : (pendingOf st2).back? = some (0, lo, 0) := by rw [B2.pend]; rfl
        rw [hb]
        dsimp -zeta -zetaHave only
        extract_lets lo2 jp2 pw
        have e4 : lo2 = lo + n := rfl
        clear_value pw
        refine wpS_bind (wpS_mono (wpS_forRange (I := fun _ c st' => st' = st2 ∧ c = (none, ())) (Q := fun c st' => st' = st2 ∧ c = (none, ())) ?_ (fun _ _ hh => hh) ⟨rfl, rfl⟩) ?_)
        · rintro x c st3 _ _ ⟨rfl, rfl⟩
          refine wpS_bind (wpS_get ?_)
          have hp : (if (pendingOf st3).size > 1 then (pendingOf st3)[(pendingOf st3).size - 2]? else none) = none := by rw [B2.pend]; rfl
          dsimp only
          rw [hp]
          exact wpS_pure ⟨rfl, rfl⟩
        · rintro c st3 ⟨rfl, rfl⟩
          dsimp only
          refine wpS_bind (wpS_modify ?_)
          refine wpS_bind (wpS_modify (wpS_pure ?_))
          refine Or.inr (Or.inr ⟨rfl, ?_, lo, pw, q1, by omega, ⟨B2.perm, B2.kind, B2.failed, ?_⟩, T2⟩)
          · rw [e4, g1, show lo + (64 - lo) = 64 by omega]
          · show ((pendingOf st3).modify ((pendingOf st3).size - 1) _).push _ = _
            rw [B2.pend, g1]; rfl
      clear_value jp
      refine wpS_bind (wpS_countRunL h0 (by omega) (by omega) B1 fun m st2 B2 F2 m1 m2 s2 => ?_)
      dsimp only
      by_cases hm : m < 32
      · refine wpS_pos hm ?_
        refine wpS_bind (wpS_lift (wpAny_rule ⟨rfl, ?_⟩))
        refine wpS_bind (wpS_binarySortL h0 (by omega) m1 (by omega) B2 s2 fun st3 B3 F3 s3 => ?_)
        refine wpS_neg (by decide) ?_
        exact wpS_mono (hjp _ _ _ (by omega) B3 (F2.trans F3) s3) fun r st' h' => by cases r <;> exact h'
      · refine wpS_neg hm ?_
        exact wpS_mono (hjp _ _ _ (by omega) B2 F2 s2) fun r st' h' => by cases r <;> exact h'
    · dsimp only
      refine wpS_pos (by omega) ?_
      exact wpS_pure ⟨rfl, .inr T⟩
  · rintro c st1 (⟨hx, _⟩ | ⟨hx, _⟩ | ⟨hx, _⟩) <;> omega
  · rintro c st1 ⟨rfl, R⟩
    dsimp only
    refine wpS_bind (wpS_mono (wpS_forRange (I := fun x c st' => c = (none, ()) ∧ ((x = 0 ∧ TwoR a₀ st') ∨ OneR a₀ st')) (Q := fun c st' => c = (none, ()) ∧ OneR a₀ st') ?_ ?_ ⟨rfl, R.symm.imp_left fun T => ⟨rfl, T⟩⟩) ?_)
    · rintro x c st2 _ _ ⟨rfl, ⟨rfl, n1, pw, g1, g2, B2, T⟩ | ⟨pw, B2, S2⟩⟩
      · refine wpS_bind (wpS_get ?_)
        have hp : (pendingOf st2).size = 2 := by rw [B2.pend]; rfl
        refine wpS_neg (by omega) ?_
        simp only [hp]
        refine wpS_bind ?_
        simp only [Nat.sub_self, Nat.lt_irrefl, gt_iff_lt, if_false, Option.any_none, Bool.false_eq_true]
        refine wpS_mergeAt h0 (by omega) (by omega) B2 T fun st3 B3 S3 => ?_
        simp only [Bool.not_true, Bool.false_eq_true, if_false]
        refine wpS_pure ⟨rfl, .inr ⟨pw, ?_, S3⟩⟩
        rwa [show n1 + (64 - n1) = 64 by omega] at B3
      · refine wpS_bind (wpS_get ?_)
        have hp : (pendingOf st2).size = 1 := by rw [B2.pend]; rfl
        refine wpS_pos (by omega) ?_
        exact wpS_pure ⟨rfl, pw, B2, S2⟩
    · rintro c st2 ⟨rfl, ⟨hx, _⟩ | R⟩
      · omega
      · exact ⟨rfl, R⟩
    · rintro c st2 ⟨rfl, pw, B2, S2⟩
      exact wpS_pure (h _ B2.perm B2.failed fun i j hij hj => S2 i j hij (by rw [B2.size]; exact hj))
end
end Mine
end
section
open PySem PySem.W PyProof.Rows
set_option maxRecDepth 100000
namespace Mine
section
variable {prog : Program} {w : World} {A : Around} {E : Value → Shared → Prop} {s : Shared}
theorem sort64 {a : Addr} {vs : List Value} {ns : List Int} {n : Nat} {P : PySem.Fin → Shared → Prop} (ho : s.heap.get? a = some (seqObj "list" vs.toArray n)) (hI : IntsAre vs ns) (h64 : vs.length = 64)
    (h : ∀ (out : Array Value) (ns' : List Int), IntsAre out.toList ns' → ns'.Perm ns → ns'.Pairwise (· ≤ ·) → P (.done (.ret .none)) { s with heap := sortedHeap s.heap a vs out }) :
    wpAny (model prog w) A (Builtin.«list.sort» ⟨[.ref a], []⟩) P E s := by
  rw [list_sort_plain]
  have ha : a < s.heap.objs.size := Heap.lt_size ho
  obtain ⟨e1, ho1⟩ : ∃ e1, (s.heap.update a (Obj.mapSeq fun _ => #[])).get? a = some (seqObj "list" #[] e1) := ⟨_, get?_update_seq ho (fun _ => #[])⟩
  have ho6 : (((s.heap.update a (Obj.mapSeq fun _ => #[])).push (seqObj "tuple" vs.toArray 0)).push (seqObj "list" #[] 0)).get? a = some (seqObj "list" #[] e1) :=
    Heap.get?_push_of_some _ (Heap.get?_push_of_some _ ho1)
  refine wpAny_bind (listItems_at ho rfl (wpAny_bind (listUpdate_at ho rfl ?_ (by rw [List.size_toArray, h64, sizeLine_eq]; omega))))
  refine wpAny_bind (seqEpoch_at ho1 rfl (wpAny_bind (wpAny_newTuple (wpAny_bind (wpAny_newList (wpAny_holding ?_))))))
  show wpAny (model prog w) A _ P E { s with heap := ((s.heap.update a (Obj.mapSeq fun _ => #[])).push (seqObj "tuple" vs.toArray 0)).push (seqObj "list" #[] 0) }
  dsimp only
  have hz : ¬ vs.toArray.size < 2 := by rw [List.size_toArray]; omega
  rw [if_neg hz, if_neg hz]
  have hk : keyKind' vs.toArray = pure oneType' := by
    match vs, h64, hI with
    | [], h64, _ => simp at h64
    | [_], h64, _ => simp at h64
    | v₁ :: v₂ :: rest, _, hI => exact keyKind_ints hI
  rw [hk]
  refine wpAny_bind (wpAny_pure ?_)
  refine wpAny_bind (wpAny_mono (wpS_sortRuns64 (a₀ := pairsOf vs) (st := SortSt.mk' oneType' (vs.toArray.zip vs.toArray) #[] 7 none)
    (Q := fun _ st' => (arrOf st').Perm (pairsOf vs) ∧ failedOf st' = none ∧ SortedTo (arrOf st') (pairsOf vs).size)
    hI.intKeys ⟨Array.Perm.refl _, rfl, rfl, rfl⟩ (by rw [pairsOf_size]; exact h64) fun st' a1 a2 a3 => ⟨a1, a2, a3⟩) ?_ fun _ _ e => e)
  rintro ⟨⟨⟩, st'⟩ s' ⟨rfl, hp, hf, hs⟩
  dsimp only
  refine wpAny_bind (seqEpoch_at ho6 rfl ?_)
  refine wpAny_bind (listUpdate_at ho6 rfl ?_ (hsz2 := by refine Nat.le_trans (Nat.le_of_eq ((Array.size_map ..).trans (hp.size_eq.trans (pairsOf_size _)))) ?_; rw [sizeLine_eq]; omega))
  rw [hf]
  simp only [bne_self_eq_false, Bool.false_eq_true, if_false]
  obtain ⟨ns', b1, b2, b3⟩ := sorted_out hI hp hs
  exact wpAny_pure (h _ ns' b1 b2 b3)
theorem sorted64 {l : Addr} {vs : List Value} {ns : List Int} {Q : Value → Shared → Prop} (hl : s.heap.IsList l vs.toArray) (hI : IntsAre vs ns) (h64 : vs.length = 64)
    (h : ∀ (out : Array Value) (ns' : List Int), IntsAre out.toList ns' → ns'.Perm ns → ns'.Pairwise (· ≤ ·) → Q (.ref (s.heap.objs.size + 1)) { s with heap := sortedAll s.heap vs out }) :
    wpAny (model prog w) A (call (.builtin "sorted") [.ref l]) Q E s := by
  have hsz : ((s.heap.push (seqObj "list" #[] 0)).update s.heap.objs.size (Obj.mapSeq (· ++ vs.toArray))).objs.size = s.heap.objs.size + 1 := by rw [Heap.size_update, size_push']
  have hoL : (((s.heap.push (seqObj "list" #[] 0)).update s.heap.objs.size (Obj.mapSeq (· ++ vs.toArray))).push (seqObj "list" vs.toArray 0)).get? (s.heap.objs.size + 1) = some (seqObj "list" vs.toArray 0) := by
    rw [← hsz]; exact Heap.get?_push_size _ rfl
  refine Calls.call_function_entry kind_sorted plain_sorted entry_sorted (args_sorted1 _) ?_
  unfold Builtin.«sorted»
  refine wpAny_bind (m := checkCount "sorted" 1 1 _) (wpAny_pure ?_)
  refine wpAny_bind (collect_list hl ?_ (by rw [h64, sizeLine_eq]; omega))
  refine wpAny_bind (wpAny_newList ?_)
  show wpAny _ _ _ _ _ { s with heap := ((s.heap.push (seqObj "list" #[] 0)).update s.heap.objs.size (Obj.mapSeq (· ++ vs.toArray))).push (seqObj "list" vs.toArray 0) }
  rw [hsz]
  refine wpAny_bind (wpAny_holding (wpAny_call_entry slot_list_sort ⟨_, hoL, rfl⟩ entry_list_sort (sort64 hoL hI h64 fun out ns' a1 a2 a3 => ⟨_, rfl, ?_⟩) (args_list_sort _)))
  exact wpAny_pure ⟨_, rfl, h out ns' a1 a2 a3⟩
end
end Mine
end
section
open PySem PySem.W PyProof.Rows
set_option maxRecDepth 100000
namespace Mine
section
variable {prog : Program} {w : World} {A : Around} {E : Value → Shared → Prop} {s : Shared} {h₁ : Heap} {os : OsState} {cs r : Cels} {G : Array GenState} {L : Addr} {m : Str → Option Value}
theorem r_sorted {a : Addr} {vs : List Value} {ns : List Int} {Q : Value → Shared → Prop} (B : Sh h₁ os ((L, nsP m) :: cs) G s) (hl : s.heap.IsList a vs.toArray) (hi : IntsAre vs ns) (hz : ns.length ≤ 64)
    (h : ∀ b us ms s', IntsAre us ms → ms.Perm ns → ms.Pairwise (· ≤ ·) → Sh h₁ os ((L, nsP m) :: (b, lstP us) :: cs) G s' → Q (.ref b) s') :
    wpAny (model prog w) A (call (.builtin "sorted") [.ref a]) Q E s := by
  by_cases h64 : vs.length < 64
  · refine sorted_ints hl hi h64 fun out ns' a1 a2 a3 => ?_
    obtain ⟨e, he⟩ := sortedAll_at s.heap vs out
    refine h _ out.toList ns' _ a1 a2 a3 ((B.heap' (B.hp.new (fun _ _ => sortedAll_old) ⟨_, he, e, ?_⟩ (Nat.le_succ _))).perm (.swap ..))
    rw [Array.toArray_toList]
  · refine sorted64 hl hi (by have := hi.length; omega) fun out ns' a1 a2 a3 => ?_
    obtain ⟨e, he⟩ := sortedAll_at s.heap vs out
    refine h _ out.toList ns' _ a1 a2 a3 ((B.heap' (B.hp.new (fun _ _ => sortedAll_old) ⟨_, he, e, ?_⟩ (Nat.le_succ _))).perm (.swap ..))
    rw [Array.toArray_toList]
end
end Mine
end
namespace Mine
local macro_rules | `(tactic| walk_at "pm") => `(tactic| (apply Mine.perm_of_mk; simp only [Mine.Bag.mk_append, Mine.Bag.mk_cons, Mine.Bag.mk_nil, Mine.Bag.add_zero, Mine.Bag.zero_add]; try (have h1 := Mine.bagA (α := Addr × Mine.Cel); have h2 := Mine.bagC (α := Addr × Mine.Cel); ac_rfl)))
local macro_rules | `(tactic| walk_at "nm") => `(tactic| first
  | ((with_reducible show wpAny _ _ (eval _ (genEnv _ _ _ _ _ _)) _ _ _); first | (refine' gx_ld ?k1 ?k2 ?k3 ?k4 ?k5 ?_; (case k3 => decide +kernel); (case k1 => assumption); (case k2 => first | exact rfl | assumption); (case k4 => decide +kernel); (case k5 => decide +kernel)) | (refine' gx_free ?k1 ?k2 ?k6 ?k3 ?k4 ?k5 ?k7 ?_; (case k3 => decide +kernel); (case k1 => assumption); (case k2 => first | assumption | exact rfl); (case k6 => walk_at "mem"); (case k4 => decide +kernel); (case k5 => decide +kernel); (case k7 => decide +kernel)))
  | ((with_reducible show wpAny _ _ (eval _ (compEnvC _ _ _ (envOfC _ _ _ _ _))) _ _ _); first | (refine' k_ld ?k1 ?k2 ?k3 ?k4 ?k5 ?_; (case k3 => decide +kernel); (case k1 => assumption); (case k2 => first | exact rfl | assumption); (case k4 => decide +kernel); (case k5 => decide +kernel)) | (refine' k_cell ?k1 ?k2 ?k6 ?k3 ?k4 ?k5 ?_; (case k3 => decide +kernel); (case k1 => assumption); (case k2 => first | assumption | exact rfl); (case k6 => walk_at "mem"); (case k4 => decide +kernel); (case k5 => decide +kernel)) | (refine' k_bi ?k0 ?k1 ?k2 ?k3 ?k4 ?k5 ?_; (case k0 => assumption); (case k2 => exact rfl); (case k1 => assumption); (case k3 => decide +kernel); (case k4 => decide +kernel); (case k5 => decide +kernel)) | (refine' k_gl ?k0 ?k1 ?k2 ?k3 ?k4 ?k5 ?_; (case k0 => assumption); (case k2 => exact rfl); (case k1 => assumption); (case k3 => decide +kernel); (case k4 => decide +kernel); (case k5 => decide +kernel)))
  | ((with_reducible show wpAny _ _ (eval _ (envOfC _ _ _ _ _)) _ _ _); first | (refine' c_ld ?k1 ?k2 ?k3 ?k4 ?k5 ?_; (case k3 => decide +kernel); (case k1 => assumption); (case k2 => first | exact rfl | assumption); (case k4 => decide +kernel); (case k5 => decide +kernel)) | (refine' c_cell ?k1 ?k2 ?k6 ?k3 ?k4 ?k5 ?_; (case k3 => decide +kernel); (case k1 => assumption); (case k2 => first | assumption | exact rfl); (case k6 => walk_at "mem"); (case k4 => decide +kernel); (case k5 => decide +kernel)) | (refine' c_bi ?k0 ?k1 ?k2 ?k3 ?k4 ?k5 ?_; (case k0 => assumption); (case k2 => exact rfl); (case k1 => assumption); (case k3 => decide +kernel); (case k4 => decide +kernel); (case k5 => decide +kernel)) | (refine' c_gl ?k0 ?k1 ?k2 ?k3 ?k4 ?k5 ?_; (case k0 => assumption); (case k2 => exact rfl); (case k1 => assumption); (case k3 => decide +kernel); (case k4 => decide +kernel); (case k5 => decide +kernel)))
  | (refine' t_ld ?k1 ?k2 ?k3 ?k4 ?k5 ?_; (case k3 => decide +kernel); (case k1 => assumption); (case k2 => first | exact rfl | assumption); (case k4 => decide +kernel); (case k5 => decide +kernel))
  | (refine' t_bi ?k0 ?k1 ?k2 ?k3 ?k4 ?k5 ?_; (case k0 => assumption); (case k2 => exact rfl); (case k1 => assumption); (case k3 => decide +kernel); (case k4 => decide +kernel); (case k5 => decide +kernel))
  | (refine' t_gl ?k0 ?k1 ?k2 ?k3 ?k4 ?k5 ?_; (case k0 => assumption); (case k2 => exact rfl); (case k1 => assumption); (case k3 => decide +kernel); (case k4 => decide +kernel); (case k5 => decide +kernel)))
local macro_rules | `(tactic| walk_at "mem") => `(tactic| (repeat (first | exact List.Mem.head _ | assumption | apply List.Mem.tail)))
local macro_rules | `(tactic| walk_at "upd") => `(tactic| (repeat (first | exact Mine.Upd.here | assumption | apply Mine.Upd.there)))
local macro_rules | `(tactic| walk_at "w") => `(tactic| first
  | ((with_reducible show wpAny _ _ (execs (_ :: _) _) _ _ _); refine wpAny_execs_cons ?_)
  | walk_at "v")
local macro_rules | `(tactic| walk_at "v") => `(tactic| first
  | ((with_reducible show wpAny _ _ (execs [] _) _ _ _); refine wpAny_execs_nil ?_)
  | ((with_reducible show wpAny _ _ (exec (Stmt.If _ _ _ _) _) _ _ _); refine wpAny_If ?_)
  | ((with_reducible show wpAny _ _ (exec (Stmt.Return (some _) _) _) _ _ _); refine wpAny_Return_some ?_)
  | ((with_reducible show wpAny _ _ (exec (Stmt.Assign [PySem.Expr.Name _ _] _ _) _) _ _ _); refine wpAny_Assign_Name ?_)
  | ((with_reducible show wpAny _ _ (exec (Stmt.Assign [PySem.Expr.Subscript _ _ _] _ _) _) _ _ _); refine wpAny_Assign_Subscript ?_)
  | ((with_reducible show wpAny _ _ (exec (Stmt.Expr _ _) _) _ _ _); refine wpAny_Expr_any ?_)
  | ((with_reducible show wpAny _ _ (PySem.isTrue (PySem.Expr.Compare _ [_] [_] _) _ _) _ _ _); refine wpAny_isTrue_Compare1 ?_)
  | ((with_reducible show wpAny _ _ (PySem.isTrue (PySem.Expr.BoolOp _ _ _) _ _) _ _ _); refine wpAny_isTrue_BoolOp ?_)
  | ((with_reducible show wpAny _ _ (PySem.isTrue (PySem.Expr.UnaryOp UnaryOp.Not _ _) _ _) _ _ _); refine wpAny_isTrue_Not ?_)
  | ((with_reducible show wpAny _ _ (PySem.isTrue _ _ _) _ _ _); refine wpAny_isTrue_value ?_)
  | ((with_reducible show wpAny _ _ (allTrue BoolOp.And (_ :: _) _) _ _ _); refine wpAny_allTrue_And_cons ?_)
  | ((with_reducible show wpAny _ _ (allTrue BoolOp.And [] _) _ _ _); refine wpAny_allTrue_And_nil ?_)
  | ((with_reducible show wpAny _ _ (allTrue BoolOp.Or (_ :: _) _) _ _ _); refine wpAny_allTrue_Or_cons ?_)
  | ((with_reducible show wpAny _ _ (allTrue BoolOp.Or [] _) _ _ _); refine wpAny_allTrue_Or_nil ?_)
  | ((with_reducible show wpAny _ _ (eval (PySem.Expr.Name _ _) _) _ _ _); walk_at "nm")
  | ((with_reducible show wpAny _ _ (eval (PySem.Expr.Constant (Const.int _) _ _) _) _ _ _); refine' r_int ?k1 ?_; (case k1 => assumption); intro _ _ _)
  | ((with_reducible show wpAny _ _ (eval (PySem.Expr.Constant (Const.str _) _ _) _) _ _ _); refine' r_str ?k1 ?_; (case k1 => assumption); intro _ _ _)
  | ((with_reducible show wpAny _ _ (eval (PySem.Expr.Constant (Const.bool _) _ _) _) _ _ _); refine r_bool ?_)
  | ((with_reducible show wpAny _ _ (eval (PySem.Expr.Constant Const.none _ _) _) _ _ _); refine r_none ?_)
  | ((with_reducible show wpAny _ _ (eval (PySem.Expr.BinOp _ _ _ _) _) _ _ _); refine wpAny_BinOp ?_)
  | ((with_reducible show wpAny _ _ (eval (PySem.Expr.Compare _ [_] [_] _) _) _ _ _); refine wpAny_Compare1 ?_)
  | ((with_reducible show wpAny _ _ (eval (PySem.Expr.IfExp _ _ _ _) _) _ _ _); refine wpAny_IfExp ?_)
  | ((with_reducible show wpAny _ _ (eval (PySem.Expr.UnaryOp _ _ _) _) _ _ _); refine wpAny_UnaryOp ?_)
  | ((with_reducible show wpAny _ _ (eval (PySem.Expr.BoolOp BoolOp.And [_, _] _) _) _ _ _); refine wpAny_And2 ?_)
  | ((with_reducible show wpAny _ _ (eval (PySem.Expr.BoolOp BoolOp.Or [_, _] _) _) _ _ _); refine wpAny_Or2 ?_)
  | ((with_reducible show wpAny _ _ (eval (PySem.Expr.Tuple _ _ _) _) _ _ _); refine Tuple_ ?_)
  | ((with_reducible show wpAny _ _ (eval (PySem.Expr.List _ _) _) _ _ _); refine List_ ?_)
  | ((with_reducible show wpAny _ _ (eval (PySem.Expr.Subscript _ (PySem.Expr.Slice _ _ _ _) _) _) _ _ _); refine r_sliceG ?_)
  | ((with_reducible show wpAny _ _ (evalPart (some _) _) _ _ _); refine wpAny_evalPart_some ?_)
  | ((with_reducible show wpAny _ _ (evalPart none _) _ _ _); refine wpAny_evalPart_none ?_)
  | ((with_reducible show wpAny _ _ (eval (PySem.Expr.Subscript _ _ _) _) _ _ _); refine Subscript_ ?_)
  | ((with_reducible show wpAny _ _ (eval (PySem.Expr.Call (PySem.Expr.Attribute _ _ _) _ [] _) _) _ _ _); refine MethodCall_ ?_)
  | ((with_reducible show wpAny _ _ (eval (PySem.Expr.Call _ _ [] _) _) _ _ _); refine Call_ ?_)
  | ((with_reducible show wpAny _ _ (spliced (backTo _ (starEach (_ :: _) _))) _ _ _); refine spliced_more ?_)
  | ((with_reducible show wpAny _ _ (spliced (backTo _ (starEach [] _))) _ _ _); refine spliced_none ?_)
  | ((with_reducible show wpAny _ _ (callWith _ (Value.builtin _) [] (backTo _ (starEach (_ :: _) _)) []) _ _ _); refine PyProof.Rows.callWith_builtin1 ?_)
  | ((with_reducible show wpAny _ _ (callWith _ (Value.type _) [] (backTo _ (starEach (_ :: _) _)) []) _ _ _); refine PyProof.Rows.callWith_type1 ?_)
  | ((with_reducible show wpAny _ _ (callWith _ (Value.builtin _) _ (backTo _ (starEach (_ :: _) _)) []) _ _ _); refine callWith_method1 ?_)
  | ((with_reducible show wpAny _ _ (newList _) _ _ _); refine' r_newList ?k1 ?_; (case k1 => assumption); intro _ _ _)
  | ((with_reducible show wpAny _ _ (newTuple _) _ _ _); refine' r_newTuple ?k1 ?_; (case k1 => assumption); intro _ _ _)
  | ((with_reducible show wpAny _ _ (storeName _ _ _) _ _ _); first | (refine' r_set ?k1 ?_ ?k3 ?k4; (case k1 => assumption); (case k3 => decide +kernel); (case k4 => decide +kernel); intro _ _) | (refine' c_set ?k1 ?_ ?k3 ?k4; (case k1 => assumption); (case k3 => decide +kernel); (case k4 => decide +kernel); intro _ _))
  | ((with_reducible show wpAny _ _ (assignInOrder _ _) _ _ _); first | (refine wpAny_assignInOrder_more ?_; refine wpAny_assign_Name ?_) | refine wpAny_assignInOrder_none ?_)
  | ((with_reducible show wpAny _ _ (truthy (Value.bool _)) _ _ _); refine wpAny_truthy_bool ?_)
  | ((with_reducible show wpAny _ _ (compareOp CmpOp.GtE (Value.int _ _) (Value.int _ _)) _ _ _); refine P.ge_int ?_)
  | ((with_reducible show wpAny _ _ (compareOp CmpOp.NotEq (Value.str _ _) (Value.str _ _)) _ _ _); refine ne_str ?_)
  | ((with_reducible show wpAny _ _ (compareOp CmpOp.Is Value.none Value.none) _ _ _); refine wpAny_is_plain rfl ?_)
  | ((with_reducible show wpAny _ _ (compareOp CmpOp.Is (Value.ref _) Value.none) _ _ _); refine wpAny_is_plain rfl ?_)
  | ((with_reducible show wpAny _ _ (compareOp CmpOp.Is (Value.type _) (Value.type _)) _ _ _); refine wpAny_is_plain rfl ?_)
  | ((with_reducible show wpAny _ _ (call (Value.type "type") [Value.int _ _]) _ _ _); refine call_type_of (Tx := "int") rfl rfl ?_)
  | ((with_reducible show wpAny _ _ (call (Value.type "type") [Value.str _ _]) _ _ _); refine call_type_of (Tx := "str") rfl rfl ?_)
  | ((with_reducible show wpAny _ _ (call (Value.type "type") [Value.none]) _ _ _); refine call_type_of (Tx := "NoneType") rfl rfl ?_)
  | ((with_reducible show wpAny _ _ (inplaceOp Operator.Add (Value.int _ _) (Value.int _ _)) _ _ _); refine' r_iadd ?k1 ?_; (case k1 => assumption); intro _ _ _)
  | ((with_reducible show wpAny _ _ (exec (Stmt.AugAssign (PySem.Expr.Subscript _ _ _) _ _ _) _) _ _ _); refine wpAny_AugAssign_Subscript_any ?_)
  | ((with_reducible show wpAny _ _ (compareOp CmpOp.Eq (Value.int _ _) (Value.int _ _)) _ _ _); refine eq_int ?_)
  | ((with_reducible show wpAny _ _ (compareOp CmpOp.Lt (Value.int _ _) (Value.int _ _)) _ _ _); refine PyProof.Rows.lt_int ?_)
  | ((with_reducible show wpAny _ _ (binaryOp Operator.Add (Value.int _ _) (Value.int _ _)) _ _ _); refine' r_add ?k1 ?_; (case k1 => assumption); intro _ _ _)
  | ((with_reducible show wpAny _ _ (binaryOp Operator.Sub (Value.int _ _) (Value.int _ _)) _ _ _); refine' r_sub ?k1 ?_; (case k1 => assumption); intro _ _ _)
  | ((with_reducible show wpAny _ _ (binaryOp Operator.Mod (Value.int _ _) (Value.int _ _)) _ _ _); refine' r_mod ?k1 ?k2 ?_; (case k1 => assumption); (case k2 => first | decide | omega); intro _ _ _)
  | ((with_reducible show wpAny _ _ (unaryOp UnaryOp.USub (Value.int _ _)) _ _ _); refine' r_neg ?k1 ?_; (case k1 => assumption); intro _ _ _)
  | ((with_reducible show wpAny _ _ (call (Value.builtin "abs") [Value.int _ _]) _ _ _); refine' r_abs ?k1 ?_; (case k1 => assumption); intro _ _ _)
  | ((with_reducible show wpAny _ _ (call (Value.type "str") [Value.int _ _]) _ _ _); refine' r_strInt ?k1 ?k2 ?_; (case k1 => assumption); rotate_left; intro _ _ _))

section
noncomputable abbrev PP : Program := PySem.Challenge.pw_dn0164_04
noncomputable def dFail : { b : Arguments × List Stmt × Scope // b = ((PP.theDef "_fail_neg").getD default) } := by
  refine ⟨?b, Eq.symm ?h⟩
  case h => conv => lhs; whnf
noncomputable abbrev prFail : Arguments := dFail.1.1
noncomputable abbrev bdFail : List Stmt := dFail.1.2.1
noncomputable abbrev scFail : Scope := dFail.1.2.2
noncomputable def fLoop : Stmt → PySem.Expr × List Stmt
  | .For t _ b _ _ => (t, b)
  | _ => (.Constant .none 0 ⟨0, 0, 0, 0⟩, [])
noncomputable def dLoop : { b : PySem.Expr × List Stmt // b = fLoop (bdFail.headD (.Pass ⟨0, 0, 0, 0⟩)) } := by
  refine ⟨?b, Eq.symm ?h⟩
  case h => conv => lhs; whnf
noncomputable abbrev fTarget : PySem.Expr := dLoop.1.1
noncomputable abbrev fBody : List Stmt := dLoop.1.2
noncomputable abbrev fEnv (L f : Addr) (cd : Value) : Env := envOf "_fail_neg" scFail L f cd
noncomputable abbrev fCode (it : Value) (env : Env) : Code := .forLoop fTarget it fBody [] env
noncomputable def fK (f : Flow) : Sem PySem.Fin := .pure (.done (.ret (match f with | .ret v => v | _ => .none)))
noncomputable def fH (env : Env) (e : Value) : Sem PySem.Fin := (leaving env e).wrap (fun _ => .raise e) .raise id id
noncomputable def fFrames (env : Env) (p : Pos) : List Frame := [.ret (loopK env fK (fH env) id id) none false [] (.func bdFail env) p []]

section
variable {w : World} {A : Around} {s : Shared} {h₁ : Heap} {os : OsState} {cs : Cels} {G : Array GenState} {L f C N : Addr} {m mg mb : Str → Option Value} {cd : Value} {glV biV : List (Str × Value)} {Φ : End → Shared → Prop} {p : Pos} {outer : List Env}

theorem fOver_frames {it : Value} (hfr : A.frames = some outer) : (A.over (fCode it (fEnv L f cd)) (fFrames (fEnv L f cd) p)).frames = some (fEnv L f cd :: outer) := by
  obtain ⟨hd, d, fr, gs, u⟩ := A
  dsimp only at hfr
  subst hfr
  rfl
/-- an error goes out of the guard's loop and its frame -/
theorem fail_out {it : Value} {e : Addr} {Cx v0 : Value} (hfr : A.frames = some outer) (F : Fly h₁ os cs G e Cx v0 none s ∨ Fly h₁ os cs G e Cx v0 (some .none) s) (hF : FramesIn (fEnv L f cd :: outer) cs)
    (h : ∀ s', Fly h₁ os cs G e Cx v0 (some .none) s' → Φ (.ret (.error (.ref e))) s') :
    Sg (model PP w) A Φ (fCode it (fEnv L f cd)) (outLoop (fEnv L f cd) (.ref e)) (fFrames (fEnv L f cd) p) s := by
  have go : ∀ s', Fly h₁ os cs G e Cx v0 (some (rawInt L)) s' → wpAny (model PP w) (A.over (fCode it (fEnv L f cd)) (fFrames (fEnv L f cd) p)) (theTreesLotGoes (.ref e)) (fun _ s'' => Sg (model PP w) A Φ (fCode it (fEnv L f cd)) (.raise (.ref e)) (fFrames (fEnv L f cd) p) s'') (fun x s'' => Sg (model PP w) A Φ (fCode it (fEnv L f cd)) (.raise x) (fFrames (fEnv L f cd) p) s'') s' := by
    intro s' F'
    refine wpAny_theTreesLotGoes ?_
    refine sg_leaf (.error (.ref e)) ?_
    unfold loopK
    show Sg _ _ _ _ ((Sem.bind _ fun _ => Sem.raise (.ref e)).wrap fK (fH (fEnv L f cd)) id id) [] s'
    refine sg_bw ?_
    obtain ⟨tb, B⟩ := id F'
    obtain ⟨oe, he, hcl, hd⟩ := B.get (.head _)
    refine wpAny_bind (wpAny_field he hd (x := .ref tb) rfl ?_)
    rw [if_neg (show ¬ ((Value.ref tb == Value.none) = true) from by simp)]
    refine f_set F' fun s'' F'' => ?_
    show Sg _ _ _ _ (fH (fEnv L f cd) (.ref e)) [] s''
    unfold fH
    exact sg_wrap (f_leave (env := fEnv L f cd) F'' rfl fun s₃ F₃ => sg_end (.error (.ref e)) (h s₃ F₃))
  unfold outLoop
  refine sg_bind (wpAny_bind ?_)
  rcases F with F | F
  · exact n_first F (fOver_frames hfr) hF rfl go
  · exact n_next F (fOver_frames hfr) hF rfl go

/-- one turn of a guard, from the loop's head on -/
theorem guard_head {it : Value} (T : Tp glV biV h₁ mg mb) (X : Er h₁ C N) (hx : glV.lookup (Str.ofString "StatisticsError") = some (.ref C)) (hh : A.handled = none) (hfr : A.frames = some outer)
    (hn : wpAny (model PP w) (A.over (fCode it (fEnv L f cd)) (fFrames (fEnv L f cd) p)) (pyNext it) (fun r s₁ => match r with
      | none => Φ (.ret (.ok (.ret .none))) s₁
      | some v => ∃ cs G m ew, Sh h₁ os ((L, nsP m) :: cs) G s₁ ∧ m "errmsg" = some ew ∧ FramesIn outer cs ∧ ((∃ i t, v = .int i t ∧
          (i < 0 → ∀ e t m' s', (∀ y, y ≠ Str.ofString "x" → m' y = m y) → Fly h₁ os ((t, tupP [ew]) :: (L, nsP m') :: cs) G e (.ref C) (.ref t) (some .none) s' → Φ (.ret (.error (.ref e))) s') ∧
          (0 ≤ i → ∀ m' s' l k q, (∀ y, y ≠ Str.ofString "x" → m' y = m y) → Sh h₁ os ((L, nsP m') :: cs) G s' → Ready (model PP w) (fCode it (fEnv L f cd)) (fFrames (fEnv L f cd) p) (.suspended k l (fCode it (fEnv L f cd)) q (fFrames (fEnv L f cd) p) false) →
            Φ (.susp v false l k (fCode it (fEnv L f cd)) q (fFrames (fEnv L f cd) p)) s')) ∨
        (∃ x t, v = .str x t ∧ ∀ e v0 m' s', (∀ y, y ≠ Str.ofString "x" → m' y = m y) → Fly h₁ os ((L, nsP m') :: cs) G e (.type "TypeError") v0 (some .none) s' → Φ (.ret (.error (.ref e))) s')))
      (fun e s₁ => ∃ cs G a Cx v0, e = .ref a ∧ Fly h₁ os cs G a Cx v0 (some .none) s₁ ∧ FramesIn (fEnv L f cd :: outer) cs ∧ ∀ s', Fly h₁ os cs G a Cx v0 (some .none) s' → Φ (.ret (.error e)) s') s) :
    Sg (model PP w) A Φ (fCode it (fEnv L f cd)) ((model PP w).den (fCode it (fEnv L f cd))) (fFrames (fEnv L f cd) p) s := by
  refine sg_forLoop (wpAny_mono hn (fun r s₁ h₁' => ?_) fun e s₁ h₁' => ?_)
  · cases r with
    | none =>
      refine sg_again rfl ?_
      refine sg_bind (wpAny_noted (wpAny_execs_nil ?_))
      refine sg_leaf (.ok .next) ?_
      refine sg_end (.ok (.ret .none)) h₁'
    | some v =>
      obtain ⟨cs, G, m, ew, B, hew, hF, hcase⟩ := h₁'
      refine r_st B rfl ?_ (by decide +kernel) (by decide +kernel)
      intro s B
      have hx' : (fun y => if y = (Str.ofString "x") then some v else m y) (Str.ofString "x") = some v := if_pos rfl
      have hw' : (fun y => if y = (Str.ofString "x") then some v else m y) (Str.ofString "errmsg") = some ew := hew
      have hoth : ∀ y, y ≠ Str.ofString "x" → (fun y => if y = (Str.ofString "x") then some v else m y) y = m y := fun y hy => if_neg hy
      generalize (fun y => if y = (Str.ofString "x") then some v else m y) = m' at B hx' hw' hoth
      have hFF : FramesIn (fEnv L f cd :: outer) ((L, nsP m') :: cs) := hF.tail.cons (by show scFail.kind ≠ _; decide +kernel) rfl (.head _)
      refine sg_execs_cons ?_
      refine sg_wrap ?_
      refine wpAny_If ?_
      refine wpAny_isTrue_Compare1 ?_
      refine t_ld B hx' (by decide +kernel) (by decide +kernel) (by decide +kernel) ?_
      refine r_int B ?_
      intro t0 s B
      rcases hcase with ⟨i, t, rfl, hlt, hge⟩ | ⟨x, t, rfl, hst⟩
      · refine PyProof.Rows.lt_int ?_
        refine wpAny_truthy_bool ?_
        by_cases hi : i < 0
        · rw [if_pos (by simpa using hi)]
          refine wpAny_execs_cons ?_
          refine r_raise T X hh B hx hw' (by decide +kernel) (by decide +kernel) (by decide +kernel) (by decide +kernel) (by decide +kernel) ?_
          intro e te s F
          exact fail_out hfr (.inl F) hFF.tail fun s' F' => hlt hi e te m' s' hoth F'
        · rw [if_neg (by simpa using hi)]
          refine wpAny_execs_nil ?_
          refine sg_execs_cons ?_
          refine sg_Yield rfl rfl ?_
          refine t_ld B hx' (by decide +kernel) (by decide +kernel) (by decide +kernel) ?_
          intro l k q hk
          refine hge (by omega) m' s l k q hoth B ⟨k, l, q, rfl, fun A' Φ' s' hs => hk A' Φ' s' ?_⟩
          exact sg_again rfl hs
      · refine r_lt_str_int hh B ?_
        intro e v0 s F
        exact fail_out hfr (.inl F) hFF fun s' F' => hst e v0 m' s' hoth F'
  · obtain ⟨cs, G, a, Cx, v0, rfl, F, hF, h⟩ := h₁'
    exact fail_out hfr (.inr F) hF h
end
end
section
/-- cells within cells -/
noncomputable def Sb (Y X : Cels) : Prop := ∃ Z, (Y ++ Z).Perm X
theorem Sb.cons {Y X : Cels} (p : Addr × Cel) (h : Sb Y X) : Sb (p :: Y) (p :: X) := let ⟨Z, q⟩ := h; ⟨Z, q.cons p⟩
theorem Sh.sb {h₁ : Heap} {os : OsState} {Y X : Cels} {G : Array GenState} {s : Shared} (B : Sh h₁ os X G s) (h : Sb Y X) : Sh h₁ os Y G s := by
  obtain ⟨Z, p⟩ := h
  exact (B.perm p.symm).sub (List.sublist_append_left ..)
theorem Fly.sb {h₁ : Heap} {os : OsState} {Y X : Cels} {G : Array GenState} {s : Shared} {e : Addr} {C v0 : Value} {fl : Option Value} (F : Fly h₁ os X G e C v0 fl s) (h : Sb Y X) : Fly h₁ os Y G e C v0 fl s := by
  cases fl with
  | none => exact Sh.sb F (h.cons _)
  | some v => obtain ⟨tb, B⟩ := F; exact ⟨tb, B.sb ((h.cons _).cons _)⟩

/-- a guard's own frame -/
noncomputable def gfP (v : Value) (x : Str) : Cel := fun o => ∃ m, nsP m o ∧ m (Str.ofString "values") = some v ∧ ∃ t, m (Str.ofString "errmsg") = some (.str x t)
theorem Sh.openF {h₁ : Heap} {os : OsState} {X : Cels} {G : Array GenState} {s : Shared} {a : Addr} {v : Value} {x : Str} (B : Sh h₁ os ((a, gfP v x) :: X) G s) :
    ∃ m t, Sh h₁ os ((a, nsP m) :: X) G s ∧ m (Str.ofString "values") = some v ∧ m (Str.ofString "errmsg") = some (.str x t) := by
  obtain ⟨o, ho, m, hm, hv, t, hw⟩ := B.get (.head _)
  exact ⟨m, t, ⟨B.hp.chg .here (fun _ _ _ e => e) ⟨o, ho, hm⟩, B.gens, B.os⟩, hv, hw⟩
theorem Sh.close {h₁ : Heap} {os : OsState} {X X' : Cels} {G : Array GenState} {s : Shared} {a : Addr} {v : Value} {x : Str} {m : Str → Option Value} {t : Tok} (B : Sh h₁ os X G s) (u : Upd a (nsP m) (gfP v x) X X')
    (hv : m (Str.ofString "values") = some v) (hw : m (Str.ofString "errmsg") = some (.str x t)) : Sh h₁ os X' G s := ⟨B.hp.weak u fun o q => ⟨m, q, hv, t, hw⟩, B.gens, B.os⟩
theorem Fly.close {h₁ : Heap} {os : OsState} {X X' : Cels} {G : Array GenState} {s : Shared} {e : Addr} {C v0 : Value} {fl : Option Value} {a : Addr} {v : Value} {x : Str} {m : Str → Option Value} {t : Tok} (F : Fly h₁ os X G e C v0 fl s) (u : Upd a (nsP m) (gfP v x) X X')
    (hv : m (Str.ofString "values") = some v) (hw : m (Str.ofString "errmsg") = some (.str x t)) : Fly h₁ os X' G e C v0 fl s := by
  cases fl with
  | none => exact Sh.close F (.there u) hv hw
  | some w => obtain ⟨tb, B⟩ := F; exact ⟨tb, B.close (.there (.there u)) hv hw⟩

section
variable {w : World} {cd : Value} {h₁ : Heap} {os : OsState} {X : Cels} {G : Array GenState} {A : Around} {s : Shared} {m : Str → Option Value} {Φ : End → Shared → Prop}
theorem fresh_go {L f : Addr} {v : Value} (B : Sh h₁ os ((L, nsP m) :: X) G s) (hv : m (Str.ofString "values") = some v)
    (h : wpAny (model PP w) (A.over (.func bdFail (fEnv L f cd)) []) (pyIter v) (fun it s₂ => ∀ p, Sg (model PP w) A Φ (fCode it (fEnv L f cd)) ((model PP w).den (fCode it (fEnv L f cd))) (fFrames (fEnv L f cd) p) s₂) (fun _ _ => False) s) :
    Sg (model PP w) A Φ (.func bdFail (fEnv L f cd)) ((model PP w).den (.func bdFail (fEnv L f cd))) [] s := by
  refine sg_func ?_
  refine sg_execs_cons ?_
  refine sg_For ?_
  refine t_ld B hv (by decide +kernel) (by decide +kernel) (by decide +kernel) ?_
  refine wpAny_mono h (fun it s₂ h₂ p => ?_) fun _ _ x => x.elim
  have e : (fun fl => match fl with | .next => (execs [] (fEnv L f cd)).wrap fK (fH (fEnv L f cd)) id id | fl => fK fl) = fK := funext fun fl => by cases fl <;> rfl
  have := h₂ p
  unfold fFrames at this
  rw [← e] at this
  exact this

end
end
section
theorem frm_other {l : List (Str × Value)} {x y : Str} {v : Value} (h : y ≠ x) : frm ((x, v) :: l) y = frm l y := by
  unfold frm
  rw [List.lookup_cons]
  have : (y == x) = false := by simpa using h
  rw [this]
theorem bare_push {G : Array GenState} {gs : GenState} (h : AllBare G) (hg : gs.bare = true) : AllBare (G.push gs) := fun y m => by
  rcases Array.mem_push.mp m with m | rfl
  · exact h y m
  · exact hg
theorem bare_set {G : Array GenState} {gs : GenState} {i : Nat} (h : AllBare G) (hg : gs.bare = true) : AllBare (G.setIfInBounds i gs) := fun y m => by
  obtain ⟨j, hj, rfl⟩ := Array.mem_iff_getElem.mp m
  rw [Array.getElem_setIfInBounds (by simpa using hj)]
  split
  · exact hg
  · exact h _ (Array.getElem_mem _)
/-- the maker of guards -/
structure Gn (h₁ : Heap) (D : Addr) (cdg : Value) : Prop where
  ex : ∃ o pm doc, h₁.get? 35 = some o ∧ o.data = .func { Calls.docDef "_fail_neg" prFail bdFail scFail pm cdg doc with defaults := .ref D }
  dflt : ∃ o t n, h₁.get? D = some o ∧ o.data = .seq #[.str "negative value" t] n
  code : h₁.CodeRec cdg "_fail_neg"
theorem Gn.fn {h₁ : Heap} {D : Addr} {cdg : Value} (F : Gn h₁ D cdg) : ∃ o fd, h₁.get? 35 = some o ∧ o.data = .func fd := let ⟨o, _, _, a, b⟩ := F.ex; ⟨o, _, a, b⟩
theorem gen_make {w : World} {h₁ : Heap} {os : OsState} {cdg : Value} {mg mb : Str → Option Value} {G : Array GenState} {A : Around} {s : Shared} {L : Addr} {glV biV : List (Str × Value)} {D : Addr} {R : Result → Shared → Prop} {v : Value} {x : Str} {tx : Tok} {m : Str → Option Value} {cs : Cels} (T : Tp glV biV h₁ mg mb) (FG : Gn h₁ D cdg) (hdep : A.depth < recursionLimit) (B : Sh h₁ os ((L, nsP m) :: cs) G s)
    (h : ∀ a gf s', Sh h₁ os ((L, nsP m) :: (a, genP G.size) :: (gf, gfP v x) :: cs) (G.push (.fresh (.func bdFail (fEnv gf 35 cdg)))) s' → R (.ok (.ret (.ref a))) s') :
    codeAny (model PP w) A (.call (.ref 35) ⟨[v, .str x tx], []⟩) R s := by
  obtain ⟨o, pm, doc, ho, hd⟩ := FG.ex
  obtain ⟨od, td, nd, hod, hdd⟩ := FG.dflt
  have hb : BindsTo s { Calls.docDef "_fail_neg" prFail bdFail scFail pm cdg doc with defaults := .ref D } ⟨[v, .str x tx], []⟩ [("values", v), ("errmsg", .str x tx)] := BindsTo.of_defaults rfl (B.hp.old _ _ hod) hdd rfl rfl
  refine call_gen B T.lim hdep ho hd (by show scFail.isCoroutine = false; decide +kernel) (by show scFail.isGenerator = true; decide +kernel) rfl FG.code hb (by show ∀ x ∈ scFail.names, _; decide +kernel) (locs rfl) (by show scFail.kind = .function; decide +kernel) ?_
  rintro a g gf s' rfl B'
  refine h a gf s' ?_
  refine B'.close (.there (.there .here)) ?_ (t := tx) ?_
  · rfl
  · rfl
end
section
section
variable {w : World} {A : Around} {E : Value → Shared → Prop} {s : Shared} {h₁ : Heap} {os : OsState} {cs : Cels} {G : Array GenState} {mg mb : Str → Option Value} {glV biV : List (Str × Value)}
/-- the guard's state before its next item -/
noncomputable def GdSt (w : World) (S gf : Addr) (cdg : Value) (gs : GenState) : Prop := gs = .fresh (.func bdFail (fEnv gf 35 cdg)) ∨ ∃ p, Ready (model PP w) (fCode (.ref S) (fEnv gf 35 cdg)) (fFrames (fEnv gf 35 cdg) p) gs
theorem guard4 {gb g2 gf S R : Addr} {cdg : Value} {i : Nat} {rvs : List Value} {gs2 : GenState} {Q : Option Value → Shared → Prop} {words : Str} {outer : List Env}
    (T : Tp glV biV h₁ mg mb) (hE : Er h₁ 24 23) (hSE : glV.lookup (Str.ofString "StatisticsError") = some (.ref 24)) (hh : A.handled = none) (hfr : A.frames = some outer) (hF : FramesIn outer cs) (hdep : A.depth + 1 < recursionLimit)
    (hg2 : G[g2]? = some gs2) (hs2 : GdSt w S gf cdg gs2) (hint : ∀ v, rvs[i]? = some v → ∃ x t, v = .int x t)
    (B : Sh h₁ os ((gf, gfP (.ref S) words) :: (S, litP R i) :: cs) G s) (mb2 : (gb, genP g2) ∈ cs) (m2 : (R, lstP rvs) ∈ cs)
    (hend : rvs.length ≤ i → ∀ s', Sh h₁ os ((gf, gfP (.ref S) words) :: (S, lendP) :: cs) (G.setIfInBounds g2 .finished) s' → Q none s')
    (hok : ∀ x t, rvs[i]? = some (.int x t) → 0 ≤ x → ∀ gs2' s', GdSt w S gf cdg gs2' → gs2'.bare = true → Sh h₁ os ((gf, gfP (.ref S) words) :: (S, litP R (i + 1)) :: cs) (G.setIfInBounds g2 gs2') s' → Q (some (.int x t)) s')
    (hbad : ∀ x t, rvs[i]? = some (.int x t) → x < 0 → ∀ e te tw s', Fly h₁ os ((te, tupP [.str words tw]) :: (gf, gfP (.ref S) words) :: (S, litP R (i + 1)) :: cs) (G.setIfInBounds g2 .finished) e (.ref 24) (.ref te) (some .none) s' → E (.ref e) s') :
    wpAny (model PP w) A (pyNext (.ref gb)) Q E s := by
  have hsz2 : g2 < G.size := (Array.getElem?_eq_some_iff.mp hg2).1
  have hg : s.heap.IsGen gb g2 := (B.get (.tail _ (.tail _ mb2))).gen
  have B0 := B.setGen g2 .running
  obtain ⟨m, tw, B1, hv, hw⟩ := B0.openF
  have nv : Str.ofString "values" ≠ Str.ofString "x" := by decide +kernel
  have nw : Str.ofString "errmsg" ≠ Str.ofString "x" := by decide +kernel
  have comm : ∀ y : GenState, (G.setIfInBounds g2 .running).setIfInBounds g2 y = G.setIfInBounds g2 y := fun y => by rw [Array.setIfInBounds_setIfInBounds]
  have head : ∀ {A' : Around} {p : Pos}, A'.handled = none → A'.frames = some outer → A'.depth = A.depth → Sg (model PP w) A' (fun e s₁ => e.quiet = true ∧ (match e with
      | .susp v .. => Q (some v) (s₁.setGen g2 e.genState)
      | .ret (.ok f) => f = .ret .none ∧ ∃ os cs G, Sh h₁ os cs G (s₁.setGen g2 .finished) ∧ ∀ s', Sh h₁ os cs G s' → Q none s'
      | .ret (.error x) => ∃ os cs G e Cx v0 fl, x = .ref e ∧ Fly h₁ os cs G e Cx v0 fl (s₁.setGen g2 .finished) ∧ NoStop h₁ Cx ∧ (s₁.heap.IsGen gb g2) ∧ E x (s₁.setGen g2 .finished)))
      (fCode (.ref S) (fEnv gf 35 cdg)) ((model PP w).den (fCode (.ref S) (fEnv gf 35 cdg))) (fFrames (fEnv gf 35 cdg) p) (s.setGen g2 .running) := by
    intro A' p hh' hfr' hdp
    refine guard_head (os := os) T hE hSE hh' hfr' ?_
    cases hx : rvs[i]? with
    | none =>
      have hi : rvs.length ≤ i := by rw [List.getElem?_eq_none_iff] at hx; exact hx
      refine x_lit_end (os := os) hh' B1 (.there .here) (B1.get (.tail _ (.tail _ m2))).lst hx fun s' B' => ?_
      have B3 := (B'.close .here hv hw).setGen g2 .finished
      rw [comm] at B3
      exact ⟨rfl, rfl, os, _, _, B3, hend hi⟩
    | some v =>
      obtain ⟨x, t, rfl⟩ := hint v hx
      refine x_lit_item B1 (.there .here) (B1.get (.tail _ (.tail _ m2))).lst hx fun s' B4 => ?_
      refine ⟨_, _, m, _, B4, hw, hF.tail, .inl ⟨x, t, rfl, fun hn e te m' s'' ho F => ?_, fun hn m' s'' l k q ho B' hR => ?_⟩⟩
      · have F2 := F.close (.there .here) ((ho _ nv).trans hv) ((ho _ nw).trans hw)
        have F3 := F2.setGen g2 .finished
        rw [comm] at F3
        exact ⟨rfl, os, _, _, e, .ref 24, .ref te, some .none, rfl, F3, hE.noStop, (F.sh.get (.tail _ (.tail _ (.tail _ mb2)))).gen, hbad x t hx hn e te tw _ F3⟩
      · have B5 := (B'.close .here ((ho _ nv).trans hv) ((ho _ nw).trans hw)).setGen g2 (.suspended k l (fCode (.ref S) (fEnv gf 35 cdg)) q (fFrames (fEnv gf 35 cdg) p) false)
        rw [comm] at B5
        exact ⟨rfl, hok x t hx hn _ _ (.inr ⟨p, hR⟩) rfl B5⟩
  refine gen_pyNext (h₁ := h₁) hh hg (by rw [B.gens]; exact hg2) (T.lim.keeps B.hp.old) (by omega) ?_ (fun e s₁ he => he)
  rcases hs2 with rfl | ⟨p, R'⟩
  · refine fresh_go B1 hv ?_
    exact i_lit (B1.get (.tail _ (.head _))).lit fun p => head hh hfr rfl
  · exact R'.wk (head hh hfr rfl)
end
end
section
noncomputable def dRound : { b : Arguments × List Stmt × Scope // b = ((PP.theDef "_law_round").getD default) } := by
  refine ⟨?b, Eq.symm ?h⟩
  case h => conv => lhs; whnf
noncomputable abbrev prRound : Arguments := dRound.1.1
noncomputable abbrev bdRound : List Stmt := dRound.1.2.1
noncomputable abbrev scRound : Scope := dRound.1.2.2
noncomputable abbrev rEnv (L : Addr) (cR : Value) : Env := envOf "_law_round" scRound L 42 cR
noncomputable def gl4 : List (Str × Value) := [("StatisticsError", .ref 24), ("_fail_neg", .ref 35), ("_law_round", .ref 42), ("_law_best", .ref 49)]
noncomputable def bi4 : List (Str × Value) := [("len", .builtin "len"), ("sum", .builtin "sum"), ("min", .builtin "min"), ("abs", .builtin "abs"), ("sorted", .builtin "sorted"), ("str", .type "str"), ("type", .type "type"), ("list", .type "list"), ("iter", .builtin "iter"), ("range", .type "range"), ("int", .type "int")]
section
variable {w : World} {A : Around} {E : Value → Shared → Prop} {s : Shared} {h₁ : Heap} {os : OsState} {cs : Cels} {G : Array GenState} {mg mb : Str → Option Value} {D : Addr} {cdg cR : Value}
theorem round_call {R : Result → Shared → Prop} {outer : List Env} {Sa : Addr} {svs : List Value} {ss : List Int} {words : Str} {tw : Tok}
    (T : Tp gl4 bi4 h₁ mg mb) (hE : Er h₁ 24 23) (FR : Fn h₁ 42 "_law_round" prRound bdRound scRound cR) (FG : Gn h₁ D cdg)
    (hh : A.handled = none) (hfr : A.frames = some outer) (hF : FramesIn outer cs) (hdep : A.depth + 3 < recursionLimit) (hu : A.units + 70 < cLine)
    (B : Sh h₁ os ((Sa, lstP svs) :: cs) G s) (hi : IntsAre svs ss) (hz : ss.length ≤ 100) (hb : AllBare G)
    (h : ∀ m tp ta ba tvs bvs v G' s', m ≤ ss.length → (∀ k x, k < m → ss[k]? = some x → 0 ≤ x) → IntsAre tvs (ss.take m) → AllBare G' →
      Sh h₁ os ((tp, tupP [.ref ta, v, .ref ba]) :: (ta, lstP tvs) :: (ba, lstP bvs) :: (Sa, lstP svs) :: cs) G' s' →
      ((m = ss.length ∧ v = .none ∧ bvs = []) ∨ ((∃ x, ss[m]? = some x ∧ x < 0) ∧ (∃ t, v = .str words t) ∧ bvs = svs.drop (m + 1))) → R (.ok (.ret (.ref tp))) s') :
    codeAny (model PP w) A (.call (.ref 42) ⟨[.ref Sa, .str words tw], []⟩) R s := by
  refine call_fn (binds := [("sums", .ref Sa), ("words", .str words tw)]) (m := frm [(Str.ofString "words", .str words tw), (Str.ofString "sums", .ref Sa)]) FR B (by omega) (fun _ _ => rfl) (locs rfl) rfl ?_ (by decide +kernel) (by decide +kernel) (by decide +kernel) (by decide +kernel)
  intro L s B
  have hh' : (A.deeper (rEnv L cR)).handled = none := hh
  have hfr' : (A.deeper (rEnv L cR)).frames = some (rEnv L cR :: outer) := by show A.frames.map _ = _; rw [hfr]; rfl
  have hkind : (rEnv L cR).scope.kind ≠ .module := by show scRound.kind ≠ _; decide +kernel
  have hvl := hi.length
  refine wpAny_execs_cons ?_
  refine Assign_Tuple_swapped (names := [Str.ofString "coming", Str.ofString "through"]) ?_ (by with_unfolding_all rfl) (by with_unfolding_all rfl)
  repeat walk_at "v"
  refine r_iter ?_
  refine i_list B (B.get (.tail _ (.head _))).lst ?_
  intro S s B
  have B := B.perm (.swap ..)
  repeat walk_at "v"
  refine unpackT hh' (by assumption) (.tail _ (.head _)) rfl ?_
  intro s B
  refine wpAny_assignInOrder_more ?_
  refine bindName_ ?_
  repeat walk_at "v"
  refine wpAny_assignInOrder_more ?_
  refine bindName_ ?_
  repeat walk_at "v"
  rename_i ta _ _ tu _ _ _ _ _ B
  refine wpAny_execs_cons ?_
  refine wpAny_Try_except ?_
  refine wpAny_execs_cons ?_
  refine wpAny_For ?_
  repeat walk_at "v"
  refine r_callFn FG.fn ?_
  repeat walk_at "v"
  refine ⟨⟨_, _, _, B⟩, wpAny_call ?_⟩
  refine gen_make T FG (by show A.depth + 1 < _; omega) B fun gb gf s B => ?_
  dsimp only
  repeat walk_at "v"
  refine i_gen (B.get (.tail _ (.head _))).gen ?_
  have hg0 : (G.push (GenState.fresh (.func bdFail (fEnv gf 35 cdg))))[G.size]? = some (.fresh (.func bdFail (fEnv gf 35 cdg))) := by simp
  have hb0 : AllBare (G.push (GenState.fresh (.func bdFail (fEnv gf 35 cdg)))) := bare_push hb rfl
  generalize G.push (GenState.fresh (.func bdFail (fEnv gf 35 cdg))) = G1 at B hg0 hb0
  generalize G.size = g2 at B hg0
  have B := B.sub (.cons_cons _ (.cons_cons _ (.cons_cons _ (.cons _ (.refl _)))))
  refine codeAny_forLoop (fun k' s' => ∃ k l tvs gs2 G, k ≤ ss.length ∧ k' = ss.length - k ∧ frm l (Str.ofString "through") = some (.ref ta) ∧ frm l (Str.ofString "coming") = some (.ref S) ∧
    IntsAre tvs (ss.take k) ∧ (∀ j x, j < k → ss[j]? = some x → 0 ≤ x) ∧ G[g2]? = some gs2 ∧ GdSt w S gf cdg gs2 ∧ AllBare G ∧
    Sh h₁ os ((L, nsP (frm l)) :: (gb, genP g2) :: (gf, gfP (.ref S) words) :: (ta, lstP tvs) :: (S, litP Sa k) :: (Sa, lstP svs) :: cs) G s') ?_ ss.length
    ⟨0, _, [], _, G1, Nat.zero_le _, rfl, rfl, rfl, .nil, fun j x hj => absurd hj (by omega), hg0, .inl rfl, hb0, B⟩
  clear hg0 hb0 B
  rintro k' s ⟨k, l, tvs, gs2, G, hk, rfl, f1, f2, htv, hpos, hg2, hs2, hb, B⟩
  have hsz2 : g2 < G.size := (Array.getElem?_eq_some_iff.mp hg2).1
  have htl := htv.length
  rw [List.length_take] at htl
  have B2 := B.perm (cs' := (gf, gfP (.ref S) words) :: (S, litP Sa k) :: (L, nsP (frm l)) :: (gb, genP g2) :: (ta, lstP tvs) :: (Sa, lstP svs) :: cs) (by walk_at "pm")
  refine guard4 (cdg := cdg) T hE rfl hh' hfr' (FramesIn.cons (hF.sub fun q m => .tail _ (.tail _ (.tail _ (.tail _ m)))) hkind rfl (.head _)) (by show A.depth + 1 + 1 < _; omega) hg2 hs2 (fun v hv => ints_get hi v (List.mem_of_getElem? hv)) B2 (.tail _ (.head _)) (.tail _ (.tail _ (.tail _ (.head _)))) ?_ ?_ ?_
  · intro hle s' B3
    have hke : k = ss.length := by omega
    subst hke
    have B4 := B3.perm (cs' := (L, nsP (frm l)) :: (S, lendP) :: (gf, gfP (.ref S) words) :: (gb, genP g2) :: (ta, lstP tvs) :: (Sa, lstP svs) :: cs) (by walk_at "pm")
    repeat walk_at "v"
    refine wpAny_execs_cons ?_
    repeat walk_at "v"
    refine r_listLend (.inl hh') B4 (.head _) fun S1 s B5 => ?_
    repeat walk_at "v"
    rename_i tp _ B6
    refine h ss.length tp ta S1 tvs [] .none _ _ (Nat.le_refl _) hpos htv (bare_set (i := g2) (gs := .finished) hb rfl) ?_ (.inl ⟨rfl, rfl, rfl⟩)
    exact B6.sb ⟨[(L, nsP (frm l)), (S, lendP), (gf, gfP (.ref S) words), (gb, genP g2)], by walk_at "pm"⟩
  · intro x t hx hx0 gs2' s' hs2' hb2 B3
    have hlt : k < ss.length := by have := (List.getElem?_eq_some_iff.mp hx).1; omega
    obtain ⟨y, hy⟩ : ∃ y, ss[k]? = some y := ⟨_, List.getElem?_eq_getElem hlt⟩
    obtain ⟨t', hy'⟩ := ints_at hi hy
    rw [hx] at hy'
    cases hy'
    have B4 := B3.perm (cs' := (L, nsP (frm l)) :: (gb, genP g2) :: (gf, gfP (.ref S) words) :: (ta, lstP tvs) :: (S, litP Sa (k + 1)) :: (Sa, lstP svs) :: cs) (by walk_at "pm")
    refine wpAny_assign_Name (r_set B4 (fun s B5 => ?_) (by decide +kernel) (by decide +kernel))
    have e1 : frm ((Str.ofString "balance", .int x t) :: l) (Str.ofString "through") = some (.ref ta) := (frm_other (by decide +kernel)).trans f1
    have e2 : frm ((Str.ofString "balance", .int x t) :: l) (Str.ofString "coming") = some (.ref S) := (frm_other (by decide +kernel)).trans f2
    refine wpAny_execs_cons ?_
    repeat walk_at "v"
    refine r_meth (by assumption) (.tail _ (.tail _ (.tail _ (.head _)))) PySem.F.slot_list_append PySem.F.type_list_append ?_
    repeat walk_at "v"
    refine r_append (by assumption) (.there (.there (.there .here))) (by rw [sizeLine_eq]; omega) fun s B6 => ?_
    repeat walk_at "v"
    refine ⟨ss.length - (k + 1), by omega, k + 1, _, _, gs2', _, hlt, rfl, e1, e2, ?_, fun j z hj hz => ?_, by simp [hsz2], hs2', bare_set hb hb2, B6⟩
    · rw [List.take_succ, hy]; exact ints_snoc htv
    · rcases Nat.lt_succ_iff_lt_or_eq.mp hj with hj | rfl
      · exact hpos j z hj hz
      · rw [hy] at hz; cases hz; exact hx0
  · intro x t hx hx0 e te tw' s' F3
    have hlt : k < ss.length := by have := (List.getElem?_eq_some_iff.mp hx).1; omega
    obtain ⟨y, hy⟩ : ∃ y, ss[k]? = some y := ⟨_, List.getElem?_eq_getElem hlt⟩
    obtain ⟨t', hy'⟩ := ints_at hi hy
    rw [hx] at hy'
    cases hy'
    have hb' : AllBare (G.setIfInBounds g2 .finished) := bare_set hb rfl
    have F4 := F3.sb (Y := (L, nsP (frm l)) :: (te, tupP [.str words tw']) :: (S, litP Sa (k + 1)) :: (Sa, lstP svs) :: (ta, lstP tvs) :: cs) ⟨[(gf, gfP (.ref S) words), (gb, genP g2)], by walk_at "pm"⟩
    have hFF : ∀ m, FramesIn (rEnv L cR :: outer) ((L, nsP m) :: (te, tupP [.str words tw']) :: (S, litP Sa (k + 1)) :: (Sa, lstP svs) :: (ta, lstP tvs) :: cs) := fun m => FramesIn.cons (hF.sub fun q m => .tail _ (.tail _ (.tail _ (.tail _ (.tail _ m))))) hkind rfl (.head _)
    refine n_next F4 hfr' (hFF _) rfl fun s F5 => ?_
    refine f_back F5 rfl fun s F6 => ?_
    refine n_here F6 rfl ?_
    refine f_set F6 fun s F7 => ?_
    obtain ⟨tb, B7⟩ := id F7
    refine h_yesAs ?_
    have B8 := F7.sh
    repeat walk_at "v"
    refine m_self hE B7 (.head _) ⟨rfl, ?_⟩
    refine f_set F7 fun s F8 => ?_
    obtain ⟨tb, B9⟩ := F8
    have B10 := B9.perm (cs' := (L, nsP (frm l)) :: (S, litP Sa (k + 1)) :: (Sa, lstP svs) :: (e, excP (.ref 24) (.ref te) (.ref tb)) :: (tb, tbP .none) :: (te, tupP [.str words tw']) :: (ta, lstP tvs) :: cs) (by show List.Perm ((e, excP (.ref 24) (.ref te) (.ref tb)) :: (tb, tbP .none) :: (L, nsP (frm l)) :: (te, tupP [.str words tw']) :: (S, litP Sa (k + 1)) :: (Sa, lstP svs) :: (ta, lstP tvs) :: cs) _; walk_at "pm")
    repeat walk_at "v"
    rename_i B11
    have e1 : frm ((Str.ofString "error", .ref e) :: l) (Str.ofString "through") = some (.ref ta) := (frm_other (by decide +kernel)).trans f1
    have e2 : frm ((Str.ofString "error", .ref e) :: l) (Str.ofString "coming") = some (.ref S) := (frm_other (by decide +kernel)).trans f2
    refine wpAny_execs_cons ?_
    repeat walk_at "v"
    refine r_strExc hE (by show A.units + 3 + 2 < cLine; omega) (by assumption) (te := te) (by walk_at "mem") (by walk_at "mem") ?_
    repeat walk_at "v"
    refine r_listLit (.inr ⟨e, .ref 24, .ref te, .ref tb, rfl, .head _⟩) (by rw [sizeLine_eq]; omega) B11 fun S1 s B12 => ?_
    repeat walk_at "v"
    rename_i tp _ B14
    refine n_goes B14 (by decide +kernel) (by decide +kernel) fun m' s B15 => ?_
    refine h k tp ta S1 tvs _ (.str words tw') _ _ hk hpos htv hb' ?_ (.inr ⟨⟨x, hy, hx0⟩, ⟨_, rfl⟩, rfl⟩)
    exact B15.sb ⟨[(L, nsP m'), (S, lendP), (e, excP (.ref 24) (.ref te) (.ref tb)), (tb, tbP .none), (te, tupP [.str words tw'])], by walk_at "pm"⟩
end
end
section
/-- the table of the best ends: one more entry -/
noncomputable def upE (x : Int) : Option Int → Option Int → Option Int
  | none, b => b
  | some u, b => if 0 ≤ u + x then (match b with | none => some (u + x) | some v => if v < u + x then some (u + x) else some v) else b
noncomputable def stepT (x : Int) (T : Nat → Option Int) : Nat → Option Int
  | 0 => T 0
  | k + 1 => upE x (T k) (T (k + 1))
noncomputable def tabZ : Nat → Option Int
  | 0 => some 0
  | _ + 1 => none
noncomputable def tabOf (rs : List Int) : Nat → Option Int := rs.foldl (fun T x => stepT x T) tabZ
theorem tabOf_snoc (rs : List Int) (x : Int) : tabOf (rs ++ [x]) = stepT x (tabOf rs) := by simp [tabOf]
inductive OptV : Value → Option Int → Prop
  | none : OptV .none none
  | int (a : Int) (t : Tok) : OptV (.int a t) (some a)
noncomputable def OptAre (vs : List Value) (N : Nat) (f : Nat → Option Int) : Prop := vs.length = N + 1 ∧ ∀ i, i ≤ N → ∃ v, vs[i]? = some v ∧ OptV v (f i)
theorem OptAre.set {vs : List Value} {N : Nat} {f g : Nat → Option Int} {k : Nat} {v : Value} (h : OptAre vs N f) (hk : k ≤ N) (hv : OptV v (g k)) (hg : ∀ i, i ≠ k → g i = f i) : OptAre (vs.set k v) N g := by
  refine ⟨by rw [List.length_set]; exact h.1, fun i hi => ?_⟩
  by_cases e : i = k
  · subst e
    exact ⟨v, by rw [List.getElem?_set_self (by rw [h.1]; omega)], hv⟩
  · rw [List.getElem?_set_ne (Ne.symm e), hg i e]
    exact h.2 i hi
theorem OptAre.ext {vs : List Value} {N : Nat} {f g : Nat → Option Int} (h : OptAre vs N f) (hg : ∀ i, i ≤ N → g i = f i) : OptAre vs N g := ⟨h.1, fun i hi => by rw [hg i hi]; exact h.2 i hi⟩
/-- the table while its places from N down to N - j + 1 are new -/
noncomputable def midT (x : Int) (T : Nat → Option Int) (N j : Nat) : Nat → Option Int := fun i => if N - j < i then stepT x T i else T i
end
section
noncomputable def dBest : { b : Arguments × List Stmt × Scope // b = ((PP.theDef "_law_best").getD default) } := by
  refine ⟨?b, Eq.symm ?h⟩
  case h => conv => lhs; whnf
noncomputable abbrev prBest : Arguments := dBest.1.1
noncomputable abbrev bdBest : List Stmt := dBest.1.2.1
noncomputable abbrev scBest : Scope := dBest.1.2.2
noncomputable abbrev bEnv (L : Addr) (cB : Value) : Env := envOf "_law_best" scBest L 49 cB
noncomputable def lLoop : Stmt → List Stmt
  | .For _ _ b _ _ => b
  | _ => []
noncomputable def dBx : { b : List Stmt // b = lLoop (bdBest.getD 1 (.Pass ⟨0, 0, 0, 0⟩)) } := by
  refine ⟨?b, Eq.symm ?h⟩
  case h => conv => lhs; whnf
noncomputable def dBk : { b : List Stmt // b = lLoop (dBx.1.getD 0 (.Pass ⟨0, 0, 0, 0⟩)) } := by
  refine ⟨?b, Eq.symm ?h⟩
  case h => conv => lhs; whnf
noncomputable def lIf : Stmt → List Stmt
  | .If _ b _ _ => b
  | _ => []
noncomputable def dPut : { b : List Stmt // b = lIf ((lIf (dBk.1.getD 0 (.Pass ⟨0, 0, 0, 0⟩))).getD 0 (.Pass ⟨0, 0, 0, 0⟩)) } := by
  refine ⟨?b, Eq.symm ?h⟩
  case h => conv => lhs; whnf
section
variable {w : World} {A : Around} {E : Value → Shared → Prop} {s : Shared} {h₁ : Heap} {os : OsState} {cs : Cels} {G : Array GenState} {mg mb : Str → Option Value} {cB : Value} {L : Addr}
/-- one place of the table -/
theorem best_k {b : Addr} {bvs : List Value} {l : List (Str × Value)} {x : Int} {tx tk : Tok} {f : Nat → Option Int} {N k : Nat} (T : Tp gl4 bi4 h₁ mg mb) (hN : N ≤ 100) (hk : k + 1 ≤ N)
    (f1 : frm l (Str.ofString "best") = some (.ref b)) (f2 : frm l (Str.ofString "x") = some (.int x tx)) (f3 : frm l (Str.ofString "k") = some (.int ((k + 1 : Nat) : Int) tk))
    (hv : OptAre bvs N f) (B : Sh h₁ os ((L, nsP (frm l)) :: (b, lstP bvs) :: cs) G s) :
    wpAny (model PP w) A (execs dBk.1 (bEnv L cB)) (fun fl s' => fl = .next ∧ ∃ bvs', OptAre bvs' N (fun i => if i = k + 1 then upE x (f k) (f (k + 1)) else f i) ∧ Sh h₁ os ((L, nsP (frm l)) :: (b, lstP bvs') :: cs) G s') E s := by
  have hlen := hv.1
  obtain ⟨v1, e1, o1⟩ := hv.2 k (by omega)
  obtain ⟨v2, e2, o2⟩ := hv.2 (k + 1) hk
  have same : (f (k + 1) = upE x (f k) (f (k + 1))) → OptAre bvs N (fun i => if i = k + 1 then upE x (f k) (f (k + 1)) else f i) := fun e => hv.ext fun i _ => by
    by_cases q : i = k + 1
    · subst q; rw [if_pos rfl, ← e]
    · rw [if_neg q]
  have hk1 : (((k + 1 : Nat) : Int) - 1).toNat = k := by omega
  have hk2 : (((k + 1 : Nat) : Int)).toNat = k + 1 := by omega
  generalize ef1 : f k = fk at o1
  generalize ef2 : f (k + 1) = fk2 at o2
  try rw [ef1, ef2] at same
  refine wpAny_execs_cons ?_
  repeat walk_at "v"
  refine r_item (by assumption) (.tail _ (.head _)) (by omega) (by omega) (x := v1) (by rw [hk1]; exact e1) ?_
  cases o1 with
  | none =>
    repeat walk_at "v"
    refine wpAny_isNot_plain rfl ?_
    repeat walk_at "v"
    rw [if_neg (by decide)]
    repeat walk_at "v"
    rw [if_neg (by decide)]
    repeat walk_at "v"
    exact ⟨rfl, bvs, same rfl, by assumption⟩
  | int u tu =>
    repeat walk_at "v"
    refine wpAny_isNot_plain rfl ?_
    repeat walk_at "v"
    rw [if_pos (by simp)]
    repeat walk_at "v"
    refine r_item (by assumption) (.tail _ (.head _)) (by omega) (by omega) (x := .int u tu) (by rw [hk1]; exact e1) ?_
    repeat walk_at "v"
    by_cases hge : u + x ≥ 0
    · rw [if_pos (by simpa using hge)]
      repeat walk_at "v"
      rw [if_pos rfl]
      have put : ∀ s, upE x (some u) fk2 = some (u + x) → Sh h₁ os ((L, nsP (frm l)) :: (b, lstP bvs) :: cs) G s → wpAny (model PP w) A (execs dPut.1 (bEnv L cB)) (fun fl s' => fl = .next ∧ ∃ bvs', OptAre bvs' N (fun i => if i = k + 1 then upE x (some u) fk2 else f i) ∧ Sh h₁ os ((L, nsP (frm l)) :: (b, lstP bvs') :: cs) G s') E s := by
        intro s hup B
        refine wpAny_execs_cons ?_
        repeat walk_at "v"
        refine r_item (by assumption) (.tail _ (.head _)) (by omega) (by omega) (x := .int u tu) (by rw [hk1]; exact e1) ?_
        repeat walk_at "v"
        rename_i tq _ B
        refine r_setItem B (.there .here) (by omega) (by omega) (by omega) fun s B => ?_
        repeat walk_at "v"
        refine ⟨rfl, _, ?_, B⟩
        rw [hk2]
        refine hv.set hk ?_ fun i hi => if_neg hi
        rw [if_pos rfl, hup]
        exact .int _ _
      refine wpAny_execs_cons ?_
      repeat walk_at "v"
      refine r_item (by assumption) (.tail _ (.head _)) (by omega) (by omega) (x := v2) (by rw [hk2]; exact e2) ?_
      cases o2 with
      | none =>
        repeat walk_at "v"
        rw [if_pos (by decide)]
        repeat walk_at "v"
        rw [if_pos rfl]
        refine wpAny_mono (put _ (by simp [upE, hge]) (by assumption)) (fun fl s' h' => ?_) fun _ _ e => e
        obtain ⟨rfl, bvs', h1, h2⟩ := h'
        repeat walk_at "v"
        exact ⟨rfl, bvs', h1, by assumption⟩
      | int v tv =>
        repeat walk_at "v"
        refine wpAny_is_plain rfl ?_
        repeat walk_at "v"
        rw [if_neg (by simp)]
        repeat walk_at "v"
        refine r_item (by assumption) (.tail _ (.head _)) (by omega) (by omega) (x := .int v tv) (by rw [hk2]; exact e2) ?_
        repeat walk_at "v"
        refine r_item (by assumption) (.tail _ (.head _)) (by omega) (by omega) (x := .int u tu) (by rw [hk1]; exact e1) ?_
        repeat walk_at "v"
        by_cases hlt : v < u + x
        · rw [if_pos (by simpa using hlt)]
          repeat walk_at "v"
          rw [if_pos rfl]
          refine wpAny_mono (put _ (by simp [upE, hge, hlt]) (by assumption)) (fun fl s' h' => ?_) fun _ _ e => e
          obtain ⟨rfl, bvs', h1, h2⟩ := h'
          repeat walk_at "v"
          exact ⟨rfl, bvs', h1, by assumption⟩
        · rw [if_neg (by simpa using hlt)]
          repeat walk_at "v"
          rw [if_neg (by decide)]
          repeat walk_at "v"
          exact ⟨rfl, bvs, same (by simp [upE, hge, hlt]), by assumption⟩
    · rw [if_neg (by simpa using hge)]
      repeat walk_at "v"
      rw [if_neg (by decide)]
      repeat walk_at "v"
      exact ⟨rfl, bvs, same (by show _ = if 0 ≤ u + x then _ else fk2; rw [if_neg hge]), by assumption⟩
/-- one entry of the row -/
theorem best_x {b : Addr} {bvs : List Value} {l : List (Str × Value)} {x : Int} {tx : Tok} {f : Nat → Option Int} {N : Nat} {Ra : Addr} {rvs : List Value} (T : Tp gl4 bi4 h₁ mg mb) (hh : A.handled = none) (hN : N ≤ 100)
    (f1 : frm l (Str.ofString "best") = some (.ref b)) (f2 : frm l (Str.ofString "x") = some (.int x tx)) (f3 : frm l (Str.ofString "row") = some (.ref Ra)) (hr : rvs.length = N)
    (hv : OptAre bvs N f) (B : Sh h₁ os ((L, nsP (frm l)) :: (b, lstP bvs) :: (Ra, lstP rvs) :: cs) G s) :
    wpAny (model PP w) A (execs dBx.1 (bEnv L cB)) (fun fl s' => fl = .next ∧ ∃ bvs' l', frm l' (Str.ofString "best") = some (.ref b) ∧ frm l' (Str.ofString "row") = some (.ref Ra) ∧ OptAre bvs' N (stepT x f) ∧ Sh h₁ os ((L, nsP (frm l')) :: (b, lstP bvs') :: (Ra, lstP rvs) :: cs) G s') E s := by
  have hlen := hv.1
  refine wpAny_execs_cons ?_
  refine wpAny_For ?_
  repeat walk_at "v"
  refine r_len B (.tail _ (.tail _ (.head _))) (by omega) fun t1 s B => ?_
  rw [hr]
  repeat walk_at "v"
  refine r_rangeDown (by omega) (by assumption) fun it s B => ?_
  refine for_src (L := L) (env := bEnv L cB) (Src.down (n := N) hh) (by show scBest.kind = _; decide +kernel) (by show scBest.names.lookup _ = _; decide +kernel)
    (Inv := fun j l' cs' G' => G' = G ∧ frm l' (Str.ofString "best") = some (.ref b) ∧ frm l' (Str.ofString "row") = some (.ref Ra) ∧ frm l' (Str.ofString "x") = some (.int x tx) ∧ ∃ bvs, OptAre bvs N (midT x f N j) ∧ cs' = (b, lstP bvs) :: (Ra, lstP rvs) :: cs)
    ?_ ⟨rfl, f1, f3, f2, bvs, ?_, rfl⟩ B ?_
  · rintro j v l' cs' G' s E hj ⟨t, rfl⟩ ⟨rfl, g1, g3, g2, bvs, hv, rfl⟩ B
    obtain ⟨k, hk⟩ : ∃ k, N - j = k + 1 := ⟨N - j - 1, by omega⟩
    have hke : (N : Int) - j = ((k + 1 : Nat) : Int) := by omega
    rw [hke] at B
    have n1 : Str.ofString "best" ≠ Str.ofString "k" := by decide +kernel
    have n2 : Str.ofString "row" ≠ Str.ofString "k" := by decide +kernel
    have n3 : Str.ofString "x" ≠ Str.ofString "k" := by decide +kernel
    have B := B.perm (cs' := (L, nsP (frm ((Str.ofString "k", .int ((k + 1 : Nat) : Int) t) :: l'))) :: (b, lstP bvs) :: (it, ritD ((N : Int) - ((j + 1 : Nat) : Int)) ((N : Int) - ((j + 1 : Nat) : Int))) :: (Ra, lstP rvs) :: cs) (by walk_at "pm")
    refine wpAny_mono (best_k T hN (by omega) ((frm_other n1).trans g1) ((frm_other n3).trans g2) rfl hv B) (fun fl s' h' => ?_) fun _ _ e => e
    obtain ⟨rfl, bvs', hv', B'⟩ := h'
    refine ⟨rfl, _, _, G', ⟨rfl, (frm_other n1).trans g1, (frm_other n2).trans g3, (frm_other n3).trans g2, bvs', hv'.ext fun i hi => ?_, rfl⟩, B'.perm (by walk_at "pm")⟩
    show midT x f N (j + 1) i = if i = k + 1 then upE x (midT x f N j k) (midT x f N j (k + 1)) else midT x f N j i
    unfold midT
    by_cases e : i = k + 1
    · subst e
      rw [if_pos rfl, if_pos (by omega), if_neg (by omega), if_neg (by omega)]
      rfl
    · rw [if_neg e]
      by_cases q : N - j < i
      · rw [if_pos (by omega), if_pos q]
      · rw [if_neg (by omega), if_neg q]
  · exact hv.ext fun i hi => by unfold midT; rw [if_neg (by omega)]
  · rintro l' cs' G' s ⟨rfl, g1, g3, g2, bvs, hv, rfl⟩ B
    repeat walk_at "v"
    refine ⟨rfl, bvs, l', g1, g3, hv.ext fun i hi => ?_, B⟩
    unfold midT
    cases i with
    | zero => rw [if_neg (by omega)]; rfl
    | succ i => rw [if_pos (by omega)]
theorem best_call {R : Result → Shared → Prop} {Ra : Addr} {rvs : List Value} {rs : List Int} (T : Tp gl4 bi4 h₁ mg mb) (FB : Fn h₁ 49 "_law_best" prBest bdBest scBest cB)
    (hh : A.handled = none) (hdep : A.depth + 3 < recursionLimit) (B : Sh h₁ os ((Ra, lstP rvs) :: cs) G s) (hi : IntsAre rvs rs) (hz : rs.length ≤ 100)
    (h : ∀ b bvs s', OptAre bvs rs.length (tabOf rs) → Sh h₁ os ((b, lstP bvs) :: (Ra, lstP rvs) :: cs) G s' → R (.ok (.ret (.ref b))) s') :
    codeAny (model PP w) A (.call (.ref 49) ⟨[.ref Ra], []⟩) R s := by
  refine call_fn (binds := [("row", .ref Ra)]) (m := frm [(Str.ofString "row", .ref Ra)]) FB B (by omega) (fun _ _ => rfl) (locs rfl) rfl ?_ (by decide +kernel) (by decide +kernel) (by decide +kernel) (by decide +kernel)
  intro L s B
  have hh' : (A.deeper (bEnv L cB)).handled = none := hh
  have hvl := hi.length
  refine wpAny_execs_cons ?_
  repeat walk_at "v"
  refine r_len (by assumption) (by walk_at "mem") (by omega) fun t1 s B => ?_
  rw [hvl]
  repeat walk_at "v"
  refine r_mulL (by assumption) (.head _) (by omega) (by omega) fun b1 s B => ?_
  refine r_addL B (B.get (.tail _ (.tail _ (.tail _ (.head _))))).lst (B.get (.tail _ (.head _))).lst (by rw [sizeLine_eq]; simp; omega) fun b s B => ?_
  repeat walk_at "v"
  rename_i s9 B
  refine wpAny_execs_cons ?_
  refine wpAny_For ?_
  repeat walk_at "v"
  have B := B.sub (.cons_cons _ (.cons_cons _ (.cons _ (.cons _ (.cons _ (.refl _))))))
  have h0 : ∀ t, OptAre ([.int 0 t] ++ List.replicate ((rs.length : Int)).toNat .none) rs.length (tabOf (rs.take 0)) := fun t => by
    refine ⟨by simp, fun i hi => ?_⟩
    cases i with
    | zero => exact ⟨_, rfl, .int 0 t⟩
    | succ i => exact ⟨.none, by show (List.replicate ((rs.length : Int)).toNat Value.none)[i]? = _; rw [List.getElem?_replicate, if_pos (by omega)], .none⟩
  obtain ⟨bv0, h0, B⟩ : ∃ bv0, OptAre bv0 rs.length (tabOf (rs.take 0)) ∧ Sh h₁ os ((L, nsP (frm [(Str.ofString "best", .ref b), (Str.ofString "row", .ref Ra)])) :: (b, lstP bv0) :: (Ra, lstP rvs) :: cs) G s9 := ⟨_, h0 _, B⟩
  refine i_list B (B.get (.tail _ (.tail _ (.head _)))).lst fun it s B => ?_
  have n1 : Str.ofString "best" ≠ Str.ofString "x" := by decide +kernel
  have n2 : Str.ofString "row" ≠ Str.ofString "x" := by decide +kernel
  refine for_src (L := L) (env := bEnv L cB) (Src.list (a := Ra) (vs := rvs) hh') (by show scBest.kind = _; decide +kernel) (by show scBest.names.lookup _ = _; decide +kernel)
    (Inv := fun j l' cs' G' => G' = G ∧ frm l' (Str.ofString "best") = some (.ref b) ∧ frm l' (Str.ofString "row") = some (.ref Ra) ∧ ∃ bvs, OptAre bvs rs.length (tabOf (rs.take j)) ∧ cs' = (b, lstP bvs) :: cs)
    ?_ (l := [(Str.ofString "best", .ref b), (Str.ofString "row", .ref Ra)]) ⟨rfl, rfl, rfl, bv0, h0, rfl⟩ (B.perm (by walk_at "pm")) ?_
  · rintro j v l' cs' G' s E hj hv ⟨rfl, g1, g2, bvs, hb, rfl⟩ B
    obtain ⟨x, hx⟩ : ∃ x, rs[j]? = some x := ⟨_, List.getElem?_eq_getElem (by omega)⟩
    obtain ⟨tx, hx'⟩ := ints_at hi hx
    rw [hx'] at hv
    cases hv
    have B := B.perm (cs' := (L, nsP (frm ((Str.ofString "x", .int x tx) :: l'))) :: (b, lstP bvs) :: (Ra, lstP rvs) :: (it, litP Ra (j + 1)) :: cs) (by walk_at "pm")
    refine wpAny_mono (best_x (A := A.deeper (bEnv L cB)) T hh' hz ((frm_other n1).trans g1) rfl ((frm_other n2).trans g2) hvl hb B) (fun fl s' h' => ?_) fun _ _ e => e
    obtain ⟨rfl, bvs', l2, e1, e2, hb', B'⟩ := h'
    refine ⟨rfl, l2, _, G', ⟨rfl, e1, e2, bvs', ?_, rfl⟩, B'.perm (by walk_at "pm")⟩
    rw [List.take_succ, hx, Option.toList_some, tabOf_snoc]
    exact hb'
  · rintro l' cs' G' s ⟨rfl, g1, g2, bvs, hb, rfl⟩ B
    rw [hvl, List.take_length] at hb
    refine wpAny_execs_cons ?_
    repeat walk_at "v"
    exact h b bvs _ hb (B.sub (cs' := (Ra, lstP rvs) :: (b, lstP bvs) :: cs) (.cons _ (.refl _)) |>.perm (.swap ..))
end
end
section
noncomputable def insD (x : Int) : List Int → List Int
  | [] => [x]
  | d :: ds => if x ≤ d then d :: insD x ds else x :: d :: ds
theorem insD_perm (x : Int) : ∀ D : List Int, (insD x D).Perm (x :: D)
  | [] => .refl _
  | d :: ds => by
    unfold insD
    split
    · exact ((insD_perm x ds).cons d).trans (.swap ..)
    · exact .refl _
theorem insD_len (x : Int) (D : List Int) : (insD x D).length = D.length + 1 := (insD_perm x D).length_eq
theorem insD_sorted (x : Int) : ∀ {D : List Int}, D.Pairwise (· ≥ ·) → (insD x D).Pairwise (· ≥ ·)
  | [], _ => by simp [insD]
  | d :: ds, h => by
    rw [List.pairwise_cons] at h
    unfold insD
    split
    · rw [List.pairwise_cons]
      refine ⟨fun y hy => ?_, insD_sorted x h.2⟩
      rcases List.mem_cons.mp ((insD_perm x ds).mem_iff.mp hy) with rfl | hy
      · assumption
      · exact h.1 y hy
    · rw [List.pairwise_cons]
      refine ⟨fun y hy => ?_, List.pairwise_cons.mpr h⟩
      rcases List.mem_cons.mp hy with rfl | hy
      · omega
      · have := h.1 y hy; omega
theorem take_succ_sum {D : List Int} {k : Nat} {a : Int} (h : D[k]? = some a) : (D.take (k + 1)).sum = (D.take k).sum + a := by
  rw [List.take_add_one, h]
  simp
theorem insD_sum (x : Int) : ∀ {D : List Int}, D.Pairwise (· ≥ ·) → ∀ k, k + 1 ≤ D.length → ((insD x D).take (k + 1)).sum = max (D.take (k + 1)).sum ((D.take k).sum + x)
  | [], _, k, h => by simp at h
  | d :: ds, h, k, hk => by
    rw [List.pairwise_cons] at h
    unfold insD
    split
    · rename_i hx
      cases k with
      | zero => simp; omega
      | succ k =>
        have ih := insD_sum x h.2 k (by simpa using hk)
        simp only [List.take_succ_cons, List.sum_cons] at ih ⊢
        rw [ih]
        omega
    · rename_i hx
      cases k with
      | zero => simp; omega
      | succ k =>
        have hk' : k < ds.length := by simp only [List.length_cons] at hk; omega
        have hd := h.1 ds[k] (List.getElem_mem hk')
        have e := take_succ_sum (List.getElem?_eq_getElem hk')
        simp only [List.take_succ_cons, List.sum_cons] at e ⊢
        rw [e]
        omega
noncomputable def tabD (D : List Int) : Nat → Option Int := fun k => if k ≤ D.length then some (D.take k).sum else none
structure Rep (rs A : List Int) : Prop where
  ex : ∃ D : List Int, D.Perm A ∧ D.Pairwise (· ≥ ·) ∧ (∀ k, k ≤ D.length → 0 ≤ (D.take k).sum) ∧ ∀ k, tabOf rs k = tabD D k
theorem Rep.nil : Rep [] [] := ⟨[], .nil, .nil, fun k hk => by simp, fun k => by
  cases k with
  | zero => rfl
  | succ k => rfl⟩
theorem perm_sum {a b : List Int} (h : a.Perm b) : a.sum = b.sum := by
  induction h with
  | nil => rfl
  | cons x _ ih => simp [ih]
  | swap x y l => simp; omega
  | trans _ _ i1 i2 => exact i1.trans i2
theorem ins_step {D : List Int} {x : Int} (ho : D.Pairwise (· ≥ ·)) (hp : ∀ k, k ≤ D.length → 0 ≤ (D.take k).sum) (k : Nat) (hk : k + 1 ≤ D.length) : upE x (tabD D k) (tabD D (k + 1)) = some ((insD x D).take (k + 1)).sum := by
  rw [insD_sum x ho k hk]
  unfold tabD
  rw [if_pos (by omega), if_pos hk]
  have h1 := hp (k + 1) hk
  simp only [upE]
  split
  · split <;> congr 1 <;> omega
  · congr 1; omega
theorem ins_all {D : List Int} {x : Int} : ((insD x D).take (D.length + 1)).sum = D.sum + x := by
  rw [List.take_of_length_le (by rw [insD_len]; omega), perm_sum (insD_perm x D)]
  simp; omega
theorem ins_pos {D : List Int} {x : Int} (ho : D.Pairwise (· ≥ ·)) (hp : ∀ k, k ≤ D.length → 0 ≤ (D.take k).sum) (k : Nat) (hk : k ≤ D.length) : 0 ≤ ((insD x D).take k).sum := by
  cases k with
  | zero => simp
  | succ k =>
    rw [insD_sum x ho k hk]
    have := hp (k + 1) hk
    omega
theorem Rep.more {rs A : List Int} {x : Int} (h : Rep rs A) (hx : 0 ≤ A.sum + x) : Rep (rs ++ [x]) (A ++ [x]) := by
  obtain ⟨D, hd, ho, hp, ht⟩ := h.ex
  have hs := perm_sum hd
  refine ⟨insD x D, (insD_perm x D).trans ((hd.cons x).trans (List.perm_append_singleton x A).symm), insD_sorted x ho, fun k hk => ?_, fun k => ?_⟩
  · rw [insD_len] at hk
    rcases Nat.lt_or_eq_of_le hk with hk | rfl
    · exact ins_pos ho hp k (by omega)
    · rw [ins_all]; omega
  · rw [tabOf_snoc]
    cases k with
    | zero =>
      show tabOf rs 0 = _
      rw [ht]; simp [tabD]
    | succ k =>
      show upE x (tabOf rs k) (tabOf rs (k + 1)) = _
      rw [ht, ht]
      by_cases hk : k + 1 ≤ D.length
      · rw [ins_step ho hp k hk]
        unfold tabD
        rw [if_pos (by rw [insD_len]; omega)]
      · by_cases hk2 : k = D.length
        · subst hk2
          unfold tabD
          rw [if_pos (Nat.le_refl _), if_neg (by omega), if_pos (by rw [insD_len]; omega), ins_all, List.take_length]
          show (if 0 ≤ D.sum + x then some (D.sum + x) else none) = _
          rw [if_pos (by omega)]
        · unfold tabD
          rw [if_neg (by omega), if_neg (by omega), if_neg (by rw [insD_len]; omega)]
          rfl
theorem sorted_last {D : List Int} {z : Int} (ho : (D ++ [z]).Pairwise (· ≥ ·)) : ∀ y ∈ D ++ [z], z ≤ y := by
  rw [List.pairwise_append] at ho
  intro y hy
  rcases List.mem_append.mp hy with hy | hy
  · exact ho.2.2 y hy z (by simp)
  · simp at hy; omega
theorem Rep.less {rs A : List Int} {x M : Int} (h : Rep rs A) (hx : A.sum + x < 0) (hM : M ∈ A ++ [x]) (hle : ∀ y ∈ A ++ [x], M ≤ y) : Rep (rs ++ [x]) ((A ++ [x]).erase M) := by
  obtain ⟨D, hd, ho, hp, ht⟩ := h.ex
  have hs := perm_sum hd
  have ho' := insD_sorted x ho
  have hpm : (insD x D).Perm (A ++ [x]) := (insD_perm x D).trans ((hd.cons x).trans (List.perm_append_singleton x A).symm)
  have hl := insD_len x D
  obtain ⟨E, z, hE⟩ : ∃ E z, insD x D = E ++ [z] := by
    have hne : insD x D ≠ [] := by intro e; rw [e] at hl; simp at hl
    exact ⟨_, _, (List.dropLast_concat_getLast hne).symm⟩
  have hEl : E.length = D.length := by rw [hE] at hl; simpa using hl
  rw [hE] at ho' hpm
  have hz : z = M := by
    have h1 := sorted_last ho' M (hpm.mem_iff.mpr hM)
    have h2 := hle z (hpm.mem_iff.mp (by simp))
    omega
  subst hz
  have htk : ∀ k, k ≤ D.length → E.take k = (insD x D).take k := fun k hk => by rw [hE, List.take_append_of_le_length (by omega)]
  refine ⟨E, ?_, (List.pairwise_append.mp ho').1, fun k hk => ?_, fun k => ?_⟩
  · have h1 := (List.perm_append_singleton z E).symm.trans hpm
    exact List.cons_perm_iff_perm_erase.mp h1 |>.2
  · rw [htk k (by omega)]
    exact ins_pos ho hp k (by omega)
  · rw [tabOf_snoc]
    cases k with
    | zero =>
      show tabOf rs 0 = _
      rw [ht]; simp [tabD]
    | succ k =>
      show upE x (tabOf rs k) (tabOf rs (k + 1)) = _
      rw [ht, ht]
      by_cases hk : k + 1 ≤ D.length
      · rw [ins_step ho hp k hk]
        unfold tabD
        rw [if_pos (by omega), htk _ hk]
      · by_cases hk2 : k = D.length
        · subst hk2
          unfold tabD
          rw [if_pos (Nat.le_refl _), if_neg (by omega), if_neg (by omega), List.take_length]
          show (if 0 ≤ D.sum + x then some (D.sum + x) else none) = _
          rw [if_neg (by omega)]
        · unfold tabD
          rw [if_neg (by omega), if_neg (by omega), if_neg (by omega)]
          rfl
/-- no balance on the way is below 0 -/
noncomputable def Pos0 (A : List Int) : Prop := ∀ k, k ≤ A.length → 0 ≤ (A.take k).sum
structure Kp (rs K : List Int) : Prop where
  ex : ∃ A j, K = A ++ rs.drop j ∧ j ≤ rs.length ∧ Rep (rs.take j) A ∧ Pos0 A
  len : K = rs ∨ K.length < rs.length
theorem Kp.start (rs : List Int) : Kp rs rs := ⟨⟨[], 0, rfl, Nat.zero_le _, Rep.nil, fun k _ => by simp⟩, .inl rfl⟩
theorem Rep.run {rs A : List Int} {j : Nat} (hR : Rep (rs.take j) A) : ∀ t, (∀ k, k ≤ A.length + t → 0 ≤ ((A ++ rs.drop j).take k).sum) → j + t ≤ rs.length → Rep (rs.take (j + t)) ((A ++ rs.drop j).take (A.length + t))
  | 0, _, _ => by simpa using hR
  | t + 1, hp, hj => by
    have ih := Rep.run hR t (fun k hk => hp k (by omega)) (by omega)
    obtain ⟨x, hx⟩ : ∃ x, rs[j + t]? = some x := ⟨_, List.getElem?_eq_getElem (by omega)⟩
    have hx' : (A ++ rs.drop j)[A.length + t]? = some x := by
      rw [List.getElem?_append_right (by omega), show A.length + t - A.length = t by omega, List.getElem?_drop]
      exact hx
    have hs := take_succ_sum hx'
    have h1 := hp (A.length + t + 1) (by omega)
    have := ih.more (x := x) (by omega)
    rw [show j + (t + 1) = j + t + 1 by omega, show A.length + (t + 1) = A.length + t + 1 by omega, List.take_add_one, hx, List.take_add_one, hx']
    exact this
theorem Kp.fin {rs K : List Int} (h : Kp rs K) (hp : Pos0 K) : Rep rs K := by
  obtain ⟨A, j, rfl, hj, hR, _⟩ := h.ex
  have := hR.run (rs.length - j) (fun k hk => hp k (by simp; omega)) (by omega)
  rw [show j + (rs.length - j) = rs.length by omega, List.take_length, List.take_of_length_le (by simp)] at this
  exact this
theorem take_sum_split {U V : List Int} {M : Int} {v : Nat} : ((U ++ M :: V).take (U.length + 1 + v)).sum = U.sum + M + (V.take v).sum := by
  rw [show U.length + 1 + v = U.length + (v + 1) by omega, List.take_length_add_append, List.take_succ_cons]
  simp; omega
theorem Kp.cut {rs K : List Int} {m : Nat} {M : Int} (h : Kp rs K) (hm : m < K.length) (hpos : ∀ k, k ≤ m → 0 ≤ (K.take k).sum) (hneg : (K.take (m + 1)).sum < 0) (hM : M ∈ K.take (m + 1)) (hle : ∀ y ∈ K.take (m + 1), M ≤ y) :
    Kp rs (K.erase M) ∧ (K.erase M).length + 1 = K.length := by
  have hMK : M ∈ K := List.mem_of_mem_take hM
  have hlen : (K.erase M).length + 1 = K.length := by
    rw [List.length_erase_of_mem hMK]
    omega
  refine ⟨⟨?_, .inr ?_⟩, hlen⟩
  · obtain ⟨A, j, hK, hj, hR, hA⟩ := h.ex
    have hKl : K.length = A.length + (rs.length - j) := by rw [hK]; simp
    have hAm : A.length ≤ m := by
      rcases Nat.lt_or_ge m A.length with q | q
      · have := hA (m + 1) (by omega)
        rw [hK, List.take_append_of_le_length (by omega)] at hneg
        omega
      · exact q
    obtain ⟨x, hx⟩ : ∃ x, K[m]? = some x := ⟨_, List.getElem?_eq_getElem hm⟩
    have hs := take_succ_sum hx
    have hxr : rs[j + (m - A.length)]? = some x := by
      rw [hK, List.getElem?_append_right hAm, List.getElem?_drop] at hx
      exact hx
    have hRm := hR.run (m - A.length) (fun k hk => by rw [← hK]; exact hpos k (by omega)) (by omega)
    rw [← hK, show A.length + (m - A.length) = m by omega] at hRm
    have htk : K.take (m + 1) = K.take m ++ [x] := by rw [List.take_add_one, hx]; rfl
    have hRl := hRm.less (x := x) (M := M) (by omega) (htk ▸ hM) (fun y hy => hle y (htk ▸ hy))
    rw [← htk] at hRl
    have htr : rs.take (j + (m - A.length)) ++ [x] = rs.take (j + (m - A.length) + 1) := by rw [List.take_add_one, hxr]; rfl
    rw [htr] at hRl
    refine ⟨(K.take (m + 1)).erase M, j + (m - A.length) + 1, ?_, by have := (List.getElem?_eq_some_iff.mp hxr).1; omega, hRl, ?_⟩
    · have e : K.drop (m + 1) = rs.drop (j + (m - A.length) + 1) := by
        rw [hK, List.drop_append, List.drop_eq_nil_of_le (by omega), List.nil_append, List.drop_drop]
        congr 1; omega
      rw [← e, ← List.erase_append_left _ hM, List.take_append_drop]
    · -- no balance below 0
      have hx0 : x < 0 := by have := hpos m (Nat.le_refl _); omega
      have hMx : M ≤ x := hle x (by rw [htk]; simp)
      obtain ⟨U, V, hU, hP, hE⟩ := List.exists_erase_eq hM
      have hPl : (K.take (m + 1)).length = m + 1 := by rw [List.length_take]; omega
      rw [hE]
      rw [hP] at hPl
      simp only [List.length_append, List.length_cons] at hPl
      have hKt : ∀ k, k ≤ m + 1 → (U ++ M :: V).take k = K.take k := fun k hk => by rw [← hP, List.take_take, Nat.min_eq_left hk]
      intro k hk
      rw [List.length_append] at hk
      rcases Nat.lt_or_ge U.length k with q | q
      · obtain ⟨v, rfl⟩ : ∃ v, k = U.length + v := ⟨k - U.length, by omega⟩
        rw [List.take_length_add_append, List.sum_append]
        have e1 := take_sum_split (U := U) (V := V) (M := M) (v := v)
        rw [hKt _ (by omega)] at e1
        rcases Nat.lt_or_ge (U.length + 1 + v) (m + 1) with q2 | q2
        · have := hpos (U.length + 1 + v) (by omega)
          omega
        · have e2 : U.length + 1 + v = m + 1 := by omega
          rw [e2] at e1
          have := hpos m (Nat.le_refl _)
          omega
      · rw [List.take_append_of_le_length q]
        have := hpos k (by omega)
        rw [← hKt k (by omega), List.take_append_of_le_length q] at this
        exact this
  · rcases h.len with rfl | q <;> omega
/-- the k greatest, of a rising list -/
theorem Rep.due {rs A R : List Int} (h : Rep rs A) (hp : R.Perm A) (ho : R.Pairwise (· ≤ ·)) (k : Nat) : tabOf rs k = if k ≤ A.length then some (R.drop (A.length - k)).sum else none := by
  obtain ⟨D, hd, ho', _, ht⟩ := h.ex
  have hl := hd.length_eq
  have hDR : D = R.reverse := by
    have h1 : R.reverse.Pairwise (· ≥ ·) := by rw [List.pairwise_reverse]; exact ho
    have h2 : D.Perm R.reverse := hd.trans (hp.symm.trans (List.reverse_perm R).symm)
    exact h2.eq_of_pairwise (fun a b _ _ x y => Int.le_antisymm y x) ho' h1
  rw [ht]
  unfold tabD
  rw [hl]
  split
  · rw [hDR, List.take_reverse, perm_sum (List.reverse_perm _), hp.length_eq]
  · rfl
end
section
noncomputable def dLaw : { b : Arguments × List Stmt × Scope // b = ((PP.theDef "law").getD default) } := by
  refine ⟨?b, Eq.symm ?h⟩
  case h => conv => lhs; whnf
noncomputable abbrev prLaw : Arguments := dLaw.1.1
noncomputable abbrev bdLaw : List Stmt := dLaw.1.2.1
noncomputable abbrev scLaw : Scope := dLaw.1.2.2
noncomputable abbrev lEnv (L : Addr) (cL : Value) : Env := envOfC "law" scLaw L 54 cL
noncomputable def dRow : { b : List Stmt // b = lLoop (bdLaw.getD 2 (.Pass ⟨0, 0, 0, 0⟩)) } := by
  refine ⟨?b, Eq.symm ?h⟩
  case h => conv => lhs; whnf
noncomputable def lWh : Stmt → List Stmt
  | .While _ b _ _ => b
  | _ => []
noncomputable def dWh : { b : List Stmt // b = lWh (dRow.1.getD 2 (.Pass ⟨0, 0, 0, 0⟩)) } := by
  refine ⟨?b, Eq.symm ?h⟩
  case h => conv => lhs; whnf
structure Und (A : Around) (L : Addr) (cL : Value) : Prop where
  hh : A.handled = none
  hfr : A.frames = some [lEnv L cL]
  dep : A.depth + 400 < recursionLimit
  un : A.units + 200 < cLine
theorem str_small : ∀ n : Fin 66, (Str.ofString (toString ((n.val : Nat) : Int))).length ≤ 10 := by decide +kernel
theorem log_small {i : Nat} (h : i < 1000) : ((i : Int)).natAbs.log2 < 1920 := by
  show i.log2 < 1920
  have := Nat.log2_le_self i
  omega
noncomputable def balances (K : List Int) : List Int := (List.range K.length).map fun i => (K.take (i + 1)).sum
section
variable {w : World} {A : Around} {s : Shared} {h₁ : Heap} {os : OsState} {cs : Cels} {G : Array GenState} {mg mb : Str → Option Value} {D : Addr} {cdg cR cB cL : Value} {E : Value → Shared → Prop} {L : Addr}
theorem turn_step {Ka Ra : Addr} {kvs : List Value} {rs K : List Int} {l : List (Str × Value)} {c1 c3 : Option Value}
    (T : Tp gl4 bi4 h₁ mg mb) (hE : Er h₁ 24 23) (FR : Fn h₁ 42 "_law_round" prRound bdRound scRound cR) (FG : Gn h₁ D cdg) (U : Und A L cL)
    (hK : Kp rs K) (hk : IntsAre kvs K) (hz : K.length ≤ 65) (hb : AllBare G) (fr : frm l (Str.ofString "row") = some (.ref Ra))
    (B : Sh h₁ os ((L, nsP (frm l)) :: (L + 1, celP c1) :: (L + 2, celP (some (.ref Ka))) :: (L + 3, celP c3) :: (Ka, lstP kvs) :: cs) G s) :
    wpAny (model PP w) A (execs dWh.1 (lEnv L cL)) (fun fl s' => fl = .next ∧ ∃ l' v kvs' K' G', frm l' (Str.ofString "row") = some (.ref Ra) ∧ frm l' (Str.ofString "told") = some v ∧ IntsAre kvs' K' ∧ AllBare G' ∧
      ((v = .none ∧ K' = K ∧ Pos0 K) ∨ ((∃ x t, v = .str x t) ∧ Kp rs K' ∧ K'.length + 1 = K.length)) ∧
      Sh h₁ os ((L, nsP (frm l')) :: (L + 1, celP c1) :: (L + 2, celP (some (.ref Ka))) :: (L + 3, celP c3) :: (Ka, lstP kvs') :: cs) G' s') E s := by
  have hh := U.hh
  have hun := U.un
  have hdep := U.dep
  have hkl := hk.length
  refine wpAny_execs_cons ?_
  repeat walk_at "v"
  refine r_len (by assumption) (by walk_at "mem") (by omega) fun t1 s B => ?_
  rw [hkl]
  repeat walk_at "v"
  case k2 => exact log_small (by omega)
  repeat walk_at "v"
  refine r_addS (by assumption) ?_ fun tw s B => ?_
  · have : (Str.ofString (toString ((K.length : Nat) : Int))).length ≤ 10 := str_small ⟨K.length, by omega⟩
    rw [sizeLine_eq]
    have e : (Str.ofString "round ").length = 6 := by decide +kernel
    show (Str.ofString "round ").length + (Str.ofString (toString ((K.length : Nat) : Int))).length ≤ _
    omega
  generalize hwd : Str.ofString "round " ++ Str.ofString (toString ((K.length : Nat) : Int)) = wd
  repeat walk_at "v"
  rename_i B
  refine wpAny_execs_cons ?_
  refine lc_assign (h₁ := h₁) (os := os) (cl := [(Str.ofString "kept", L + 2)]) (by rfl) (by rfl) (by decide +kernel) (by decide +kernel) (by decide +kernel) (by decide +kernel) (by show scLaw.names.lookup _ = _; decide +kernel) (by show scLaw.kind = _; decide +kernel) ?_
  repeat walk_at "v"
  refine r_len (by assumption) (by walk_at "mem") (by omega) fun t1 s B => ?_
  rw [hkl]
  repeat walk_at "v"
  refine r_range (by omega) B fun it s B => ?_
  refine ⟨K.length, _, _, _, _, _, G, fun i ys => IntsAre ys ((List.range i).map fun i => (K.take (i + 1)).sum), Src.range (n := K.length) hh, by rw [sizeLine_eq]; omega, .nil, B, ?_, ?_⟩
  · rintro i v ys C D mC s E' hi ⟨t, rfl⟩ hy hm B
    refine wpAny_tests_nil ?_
    rw [if_pos rfl]
    repeat walk_at "v"
    refine ⟨h₁, os, C, mC, _, G, Ka, kvs, none, some ((i + 1 : Nat) : Int), rfl, by assumption, by walk_at "mem", by rw [sizeLine_eq]; omega, .none, .int _ _, ?_⟩
    rw [slicePick_upto']
    intro b s B
    repeat walk_at "v"
    refine r_sum hh B (B.get (.tail _ (.head _))).lst (ints_take hk (i + 1)) fun t2 s B => ?_
    refine ⟨?_, B.sub (.cons_cons _ (.cons _ (.refl _)))⟩
    dsimp only
    rw [List.range_succ, List.map_append]
    exact ints_snoc hy
  · intro Sa svs s hs B
    have hs : IntsAre svs (balances K) := hs
    have B : Sh h₁ os ((L, nsP (frm ((Str.ofString "sums", .ref Sa) :: (Str.ofString "words", .str wd tw) :: l))) :: (Sa, lstP svs) :: (L + 1, celP c1) :: (L + 2, celP (some (.ref Ka))) :: (L + 3, celP c3) :: (Ka, lstP kvs) :: cs) G s := B
    have hsl := hs.length
    have hbl : (balances K).length = K.length := by simp [balances]
    refine wpAny_execs_cons ?_
    refine Assign_Tuple ?_
    repeat walk_at "v"
    refine r_callFn FR.fn ?_
    repeat walk_at "v"
    refine ⟨⟨_, _, _, B⟩, wpAny_call ?_⟩
    have hkind : (lEnv L cL).scope.kind ≠ .module := by show scLaw.kind ≠ _; decide +kernel
    have B := B.perm (.swap ..)
    refine round_call T hE FR FG hh U.hfr (FramesIn.cons FramesIn.nil hkind rfl (.head _)) (by omega) (by omega) B hs (by omega) hb ?_
    intro m tp ta ba tvs bvs v G' s hm hpos htv hb' B hcase
    dsimp only
    have B := B.perm (cs' := (L, nsP (frm ((Str.ofString "sums", .ref Sa) :: (Str.ofString "words", .str wd tw) :: l))) :: (tp, tupP [.ref ta, v, .ref ba]) :: (ta, lstP tvs) :: (ba, lstP bvs) :: (Sa, lstP svs) :: (L + 1, celP c1) :: (L + 2, celP (some (.ref Ka))) :: (L + 3, celP c3) :: (Ka, lstP kvs) :: cs) (by walk_at "pm")
    refine r_assignT hh B (.tail _ (.head _)) rfl rfl fun s B => ?_
    repeat walk_at "v"
    rename_i B
    have B := B.sub (.cons_cons _ (.cons _ (.refl _)))
    obtain ⟨l5, hl5⟩ : ∃ l5, l5 = (Str.ofString "behind", Value.ref ba) :: (Str.ofString "told", v) :: (Str.ofString "through", Value.ref ta) :: (Str.ofString "sums", Value.ref Sa) :: (Str.ofString "words", Value.str wd tw) :: l := ⟨_, rfl⟩
    have g1 : frm l5 (Str.ofString "behind") = some (.ref ba) := by rw [hl5]; rfl
    have g2 : frm l5 (Str.ofString "told") = some v := by rw [hl5]; rfl
    have g3 : frm l5 (Str.ofString "through") = some (.ref ta) := by rw [hl5]; rfl
    have g4 : frm l5 (Str.ofString "sums") = some (.ref Sa) := by rw [hl5]; rfl
    have g5 : frm l5 (Str.ofString "words") = some (.str wd tw) := by rw [hl5]; rfl
    have g6 : frm l5 (Str.ofString "row") = some (.ref Ra) := by
      rw [hl5, frm_other (by decide +kernel), frm_other (by decide +kernel), frm_other (by decide +kernel), frm_other (by decide +kernel), frm_other (by decide +kernel)]; exact fr
    rw [← hl5] at B
    clear hl5
    have htl := htv.length
    rw [List.length_take, Nat.min_eq_left hm] at htl
    have hv : v = .none ∨ ∃ t', v = .str wd t' := hcase.elim (fun h => .inl h.2.1) fun h => .inr h.2.1
    have hbv : bvs = svs.drop (m + 1) := by
      rcases hcase with h | h
      · rw [h.2.2, List.drop_eq_nil_of_le (by omega)]
      · exact h.2.2
    have his : ∃ b : Bool, (b = decide (m = K.length)) ∧ (∀ (Q : Value → Shared → Prop) (E : Value → Shared → Prop) (s : Shared), Q (.bool b) s → wpAny (model PP w) A (compareOp .Is v .none) Q E s) ∧ (∀ (Q : Value → Shared → Prop) (E : Value → Shared → Prop) (s : Shared), Q (.bool (!b)) s → wpAny (model PP w) A (compareOp .IsNot v .none) Q E s) := by
      rcases hcase with h | ⟨⟨x, hx, _⟩, ⟨t', rfl⟩, _⟩
      · obtain ⟨h1, rfl, _⟩ := h
        exact ⟨true, by simp; omega, fun Q E s h => wpAny_is_plain rfl h, fun Q E s h => wpAny_isNot_plain rfl h⟩
      · have := (List.getElem?_eq_some_iff.mp hx).1
        exact ⟨false, by simp; omega, fun Q E s h => wpAny_is_other rfl (by simp) h, fun Q E s h => wpAny_isNot_other rfl (by simp) h⟩
    obtain ⟨nb, hnb, hIs, hIsNot⟩ := his
    -- the first test
    refine wpAny_execs_cons ?_
    repeat walk_at "v"
    refine r_notIn (by assumption) (.tail _ (.head _)) hv ?_
    rename_i B
    have B := B.sub (.cons_cons _ (.cons _ (.refl _)))
    repeat walk_at "v"
    rw [if_neg (by decide)]
    repeat walk_at "v"
    refine hIs _ _ _ ?_
    repeat walk_at "v"
    refine r_len B (by walk_at "mem") (by omega) fun t1 s B => ?_
    repeat walk_at "v"
    refine r_len B (by walk_at "mem") (by omega) fun t2 s B => ?_
    repeat walk_at "v"
    refine PyProof.Rows.ne_bool ?_
    have hz1 : (nb != ((tvs.length : Int) == (svs.length : Int))) = false := by
      rw [hnb, htl, hsl, hbl]
      by_cases q : m = K.length
      · subst q; simp
      · simp [q]; omega
    rw [hz1]
    repeat walk_at "v"
    rw [if_neg (by decide)]
    repeat walk_at "v"
    rw [if_neg (by decide)]
    repeat walk_at "v"
    -- the second test
    refine wpAny_execs_cons ?_
    repeat walk_at "v"
    refine r_len B (by walk_at "mem") (by omega) fun t3 s B => ?_
    repeat walk_at "v"
    refine ⟨h₁, os, L, _, _, G', Sa, svs, none, some ((tvs.length : Nat) : Int), rfl, B, by walk_at "mem", by rw [sizeLine_eq]; omega, .none, .int _ _, ?_⟩
    rw [slicePick_upto', htl]
    intro b1 s B
    refine r_neL (vs := tvs) (us := svs.take m) (B.get (.tail _ (.tail _ (.head _)))).lst (B.get (.tail _ (.head _))).lst (Svs.ofInts htv (ints_take hs m)) (by omega) ?_
    have B := B.sub (.cons_cons _ (.cons _ (.refl _)))
    repeat walk_at "v"
    rw [if_neg (by decide)]
    repeat walk_at "v"
    refine lc_eval (h₁ := h₁) (os := os) (cl := []) (by rfl) (by decide +kernel) (by decide +kernel) (by decide +kernel) (by decide +kernel) ?_
    repeat walk_at "v"
    refine i_list B (B.get (.tail _ (.head _))).lst fun it2 s B => ?_
    have B := B.perm (cs' := (L, nsP (frm l5)) :: ([(it2, litP ta 0), (ta, lstP tvs)] ++ ((ba, lstP bvs) :: (Sa, lstP svs) :: (L + 1, celP c1) :: (L + 2, celP (some (.ref Ka))) :: (L + 3, celP c3) :: (Ka, lstP kvs) :: cs))) (by walk_at "pm")
    refine ⟨tvs.length, _, _, _, _, _, _, fun i ys => ys = List.replicate i (.type "int"), Src.list (a := ta) (vs := tvs) hh, by rw [sizeLine_eq]; omega, rfl, B, ?_, ?_⟩
    · rintro j v' ys2 C D mC s E' hj hv' rfl hmk B
      refine wpAny_tests_nil ?_
      rw [if_pos rfl]
      obtain ⟨x, tx, rfl⟩ := ints_get htv v' (List.mem_of_getElem? hv')
      repeat walk_at "v"
      exact ⟨List.replicate_succ'.symm, by assumption⟩
    · rintro D2 _ s rfl B
      have B : Sh h₁ os ((L, nsP (frm l5)) :: (D2, lstP (List.replicate tvs.length (.type "int"))) :: (ta, lstP tvs) :: (ba, lstP bvs) :: (Sa, lstP svs) :: (L + 1, celP c1) :: (L + 2, celP (some (.ref Ka))) :: (L + 3, celP c3) :: (Ka, lstP kvs) :: cs) G' s := B
      repeat walk_at "v"
      refine r_len (by assumption) (by walk_at "mem") (by omega) fun t1 s B => ?_
      repeat walk_at "v"
      refine r_mulL (by assumption) (.head _) (by omega) (by omega) fun b s B => ?_
      repeat walk_at "v"
      refine r_neL (vs := List.replicate tvs.length (.type "int")) (us := List.replicate tvs.length (.type "int")) (B.get (.tail _ (.tail _ (.tail _ (.head _))))).lst (B.get (.tail _ (.head _))).lst (Svs.refl _) (by omega) ?_
      repeat walk_at "v"
      rw [if_neg (by decide)]
      repeat walk_at "v"
      rw [if_neg (by decide)]
      repeat walk_at "v"
      have B := B.sub (cs' := (L, nsP (frm l5)) :: (ta, lstP tvs) :: (ba, lstP bvs) :: (Sa, lstP svs) :: (L + 1, celP c1) :: (L + 2, celP (some (.ref Ka))) :: (L + 3, celP c3) :: (Ka, lstP kvs) :: cs) (.cons_cons _ (.cons _ (.cons _ (.cons _ (.refl _)))))
      -- the third test
      refine wpAny_execs_cons ?_
      repeat walk_at "v"
      refine' r_addLI ?k1 ?k2 ?k4 ?k5 ?k6 ?k3 ?_
      case k1 => assumption
      case k2 => exact (Sh.get (by assumption) (.tail _ (.tail _ (.head _)))).lst
      case k4 => exact (Sh.get (by assumption) (.tail _ (.head _))).lst
      case k5 => exact htv
      case k6 => exact .cons 0 _ .nil
      case k3 => rw [sizeLine_eq]; simp; omega
      intro b2 uvs s hu B
      repeat walk_at "v"
      refine r_min hh B (B.get (.tail _ (.head _))).lst hu (by simp) fun k tk s hk' hall B => ?_
      have hk0 : ¬ k < 0 := by
        rcases List.mem_append.mp hk' with q | q
        · obtain ⟨j, hj, e⟩ := List.mem_iff_getElem.mp q
          have hj2 : j < m := by rw [List.length_take] at hj; omega
          have := hpos j k hj2 (by rw [← e, List.getElem_take]; exact List.getElem?_eq_getElem _)
          omega
        · simp at q; omega
      have B := B.sub (cs' := (L, nsP (frm l5)) :: (ta, lstP tvs) :: (ba, lstP bvs) :: (Sa, lstP svs) :: (L + 1, celP c1) :: (L + 2, celP (some (.ref Ka))) :: (L + 3, celP c3) :: (Ka, lstP kvs) :: cs) (.cons_cons _ (.cons _ (.cons _ (.refl _))))
      repeat walk_at "v"
      rw [if_neg (by simpa using hk0)]
      repeat walk_at "v"
      refine r_len (by assumption) (by walk_at "mem") (by omega) fun t3 s B => ?_
      repeat walk_at "v"
      refine ⟨h₁, os, L, _, _, G', Sa, svs, some ((tvs.length + 1 : Nat) : Int), none, rfl, by assumption, by walk_at "mem", by rw [sizeLine_eq]; omega, .int _ _, .none, ?_⟩
      rw [slicePick_from', htl]
      intro b1 s B
      refine r_neL (vs := bvs) (us := svs.drop (m + 1)) (B.get (by walk_at "mem")).lst (B.get (.tail _ (.head _))).lst (by rw [hbv]; exact Svs.refl _) (by omega) ?_
      have B := B.sub (.cons_cons _ (.cons _ (.refl _)))
      repeat walk_at "v"
      rw [if_neg (by decide)]
      repeat walk_at "v"
      rw [if_neg (by decide)]
      repeat walk_at "v"
      -- the striking out
      refine wpAny_execs_cons ?_
      repeat walk_at "v"
      refine hIsNot _ _ _ ?_
      repeat walk_at "v"
      have BF := B
      have hpk : ∀ k, k ≤ m → 0 ≤ (K.take k).sum := fun k hk => by
        cases k with
        | zero => simp
        | succ k =>
          refine hpos k _ (by omega) ?_
          unfold balances
          rw [List.getElem?_map, List.getElem?_range (by omega)]
          rfl
      rcases hcase with ⟨h1, rfl, _⟩ | ⟨⟨x, hx, hx0⟩, ⟨t', rfl⟩, _⟩
      · rw [if_neg (by rw [hnb]; simp; omega)]
        repeat walk_at "v"
        refine ⟨rfl, l5, .none, kvs, K, G', g6, g2, hk, hb', .inl ⟨rfl, rfl, fun k hk => hpk k (by omega)⟩, ?_⟩
        exact BF.sb ⟨[(ta, lstP tvs), (ba, lstP bvs), (Sa, lstP svs)], by walk_at "pm"⟩
      · have hmK : m < K.length := by have := (List.getElem?_eq_some_iff.mp hx).1; omega
        have hxe : (K.take (m + 1)).sum = x := by
          unfold balances at hx
          rw [List.getElem?_map, List.getElem?_range hmK] at hx
          simpa using hx
        rw [if_pos (by rw [hnb]; simp; omega)]
        refine wpAny_execs_cons ?_
        repeat walk_at "v"
        refine r_meth BF (a := Ka) (vs := kvs) (by walk_at "mem") PySem.F.slot_list_remove PySem.F.type_list_remove ?_
        clear B
        repeat walk_at "v"
        refine r_len BF (by walk_at "mem") (by omega) fun t3 s B => ?_
        repeat walk_at "v"
        refine ⟨h₁, os, L, _, _, G', Ka, kvs, none, some ((tvs.length + 1 : Nat) : Int), rfl, by assumption, by walk_at "mem", by rw [sizeLine_eq]; omega, .none, .int _ _, ?_⟩
        rw [slicePick_upto', htl]
        intro b1 s B
        repeat walk_at "v"
        refine r_min hh B (B.get (.tail _ (.head _))).lst (ints_take hk (m + 1)) ?_ fun M tM s hM hMle B => ?_
        · intro e
          have := congrArg List.length e
          rw [List.length_take, List.length_nil] at this
          omega
        have B := B.sub (.cons_cons _ (.cons _ (.refl _)))
        repeat walk_at "v"
        obtain ⟨hK2, hl2⟩ := hK.cut hmK hpk (by omega) hM hMle
        have B := B.perm (cs' := (Ka, lstP kvs) :: (L, nsP (frm l5)) :: (ta, lstP tvs) :: (ba, lstP bvs) :: (Sa, lstP svs) :: (L + 1, celP c1) :: (L + 2, celP (some (.ref Ka))) :: (L + 3, celP c3) :: cs) (by walk_at "pm")
        refine r_removeH B hk (List.mem_of_mem_take hM) (by rw [sizeLine_eq]; omega) fun us s hus B => ?_
        repeat walk_at "v"
        refine ⟨rfl, l5, _, us, _, G', g6, g2, hus, hb', .inr ⟨⟨_, _, rfl⟩, hK2, hl2⟩, ?_⟩
        exact B.sb ⟨[(ta, lstP tvs), (ba, lstP bvs), (Sa, lstP svs)], by walk_at "pm"⟩
end
end
section
theorem svs_of : ∀ {vs us : List Value}, vs.length = us.length → (∀ j (h1 : j < vs.length) (h2 : j < us.length), Sv vs[j] us[j]) → Svs vs us
  | [], [], _, _ => .nil
  | v :: vs, u :: us, hl, h => .cons (h 0 (by simp) (by simp)) (svs_of (by simpa using hl) fun j h1 h2 => h (j + 1) (Nat.succ_lt_succ h1) (Nat.succ_lt_succ h2))
theorem due_best {dvs bvs : List Value} {ds : List Int} {N n : Nat} {f : Nat → Option Int} (hd : IntsAre dvs ds) (hb : OptAre bvs N f) (hl : ds.length = n + 1) (hn : n ≤ N) (h1 : ∀ k (h : k < ds.length), f k = some ds[k]) (h2 : ∀ k, n < k → f k = none) :
    Svs (dvs ++ List.replicate (N - n) .none) bvs := by
  have hdl := hd.length
  refine svs_of (by rw [List.length_append, List.length_replicate, hb.1]; omega) fun j q1 q2 => ?_
  obtain ⟨v, e, o⟩ := hb.2 j (by rw [hb.1] at q2; omega)
  have ev : bvs[j] = v := by
    have := List.getElem?_eq_getElem q2
    rw [e] at this
    exact (Option.some.inj this).symm
  rw [ev]
  by_cases hj : j < dvs.length
  · obtain ⟨t, ht⟩ := ints_at hd (k := j) (a := ds[j]'(by omega)) (List.getElem?_eq_getElem (by omega))
    have e2 : (dvs ++ List.replicate (N - n) Value.none)[j] = .int (ds[j]'(by omega)) t := by
      rw [List.getElem_append_left hj]
      have := List.getElem?_eq_getElem hj
      rw [ht] at this
      exact (Option.some.inj this).symm
    rw [e2]
    rw [h1 j (by omega)] at o
    cases o
    exact .int _ _ _
  · have e2 : (dvs ++ List.replicate (N - n) Value.none)[j] = .none := by
      rw [List.getElem_append_right (by omega)]
      simp
    rw [e2]
    rw [h2 j (by omega)] at o
    cases o
    exact .same _
section
variable {w : World} {A : Around} {s : Shared} {h₁ : Heap} {os : OsState} {cs : Cels} {G : Array GenState} {mg mb : Str → Option Value} {D : Addr} {cdg cR cB cL : Value} {E : Value → Shared → Prop} {L : Addr}
/-- behind the rounds: the comparison with the table -/
theorem row_end {Ka Ra : Addr} {kvs rvs : List Value} {rs K : List Int} {l : List (Str × Value)} {c1 c3 : Option Value}
    (T : Tp gl4 bi4 h₁ mg mb) (FB : Fn h₁ 49 "_law_best" prBest bdBest scBest cB) (U : Und A L cL)
    (hR : Rep rs K) (hk : IntsAre kvs K) (hr : IntsAre rvs rs) (hz : K.length ≤ 64) (hz2 : rs.length ≤ 65) (hle : K.length ≤ rs.length) (fr : frm l (Str.ofString "row") = some (.ref Ra))
    (B : Sh h₁ os ((L, nsP (frm l)) :: (L + 1, celP c1) :: (L + 2, celP (some (.ref Ka))) :: (L + 3, celP c3) :: (Ka, lstP kvs) :: (Ra, lstP rvs) :: cs) G s) :
    wpAny (model PP w) A (execs (dRow.1.drop 3) (lEnv L cL)) (fun fl s' => fl = .next ∧ ∃ l' c3', Sh h₁ os ((L, nsP (frm l')) :: (L + 1, celP c1) :: (L + 2, celP (some (.ref Ka))) :: (L + 3, celP c3') :: cs) G s') E s := by
  have hh := U.hh
  have hun := U.un
  have hdep := U.dep
  have hkl := hk.length
  have hrl := hr.length
  refine wpAny_execs_cons ?_
  repeat walk_at "v"
  refine r_sorted B (B.get (by walk_at "mem")).lst hk hz fun Sa svs ss s hs hperm hsort B => ?_
  have hsl := hs.length
  have hpl := hperm.length_eq
  refine c_setCell B (c := L + 3) rfl (by walk_at "upd") (fun s B => ?_) (by decide +kernel) (by decide +kernel)
  refine wpAny_execs_cons ?_
  refine lc_assign (h₁ := h₁) (os := os) (cl := [(Str.ofString "rising", L + 3), (Str.ofString "kept", L + 2)]) (by rfl) (by rfl) (by decide +kernel) (by decide +kernel) (by decide +kernel) (by decide +kernel) (by show scLaw.names.lookup _ = _; decide +kernel) (by show scLaw.kind = _; decide +kernel) ?_
  repeat walk_at "v"
  refine r_len B (by walk_at "mem") (by omega) fun t1 s B => ?_
  rw [hkl]
  repeat walk_at "v"
  rename_i B
  refine r_range (n := K.length + 1) (by omega) B fun it s B => ?_
  refine ⟨K.length + 1, _, _, _, _, _, G, fun i ys => IntsAre ys ((List.range i).map fun k => (ss.drop (K.length - k)).sum), Src.range (n := K.length + 1) hh, by rw [sizeLine_eq]; omega, .nil, B, ?_, ?_⟩
  · rintro i v ys C D mC s E' hi ⟨t, rfl⟩ hy hm B
    refine wpAny_tests_nil ?_
    rw [if_pos rfl]
    repeat walk_at "v"
    refine r_len B (by walk_at "mem") (by omega) fun t2 s B => ?_
    rw [hkl]
    repeat walk_at "v"
    rename_i B
    have e : ((K.length : Nat) : Int) - ((i : Nat) : Int) = ((K.length - i : Nat) : Int) := by omega
    rw [e]
    refine ⟨h₁, os, C, mC, _, G, Sa, svs, some ((K.length - i : Nat) : Int), none, rfl, B, by walk_at "mem", by rw [sizeLine_eq]; omega, .int _ _, .none, ?_⟩
    rw [slicePick_from']
    intro b s B
    repeat walk_at "v"
    refine r_sum hh B (B.get (.tail _ (.head _))).lst (ints_drop hs (K.length - i)) fun t2 s B => ?_
    refine ⟨?_, B.sub (.cons_cons _ (.cons _ (.refl _)))⟩
    dsimp only
    rw [List.range_succ, List.map_append]
    exact ints_snoc hy
  · intro Da dvs s hd B
    have B : Sh h₁ os ((L, nsP (frm ((Str.ofString "due", .ref Da) :: l))) :: (Da, lstP dvs) :: (Sa, lstP svs) :: (L + 1, celP c1) :: (L + 2, celP (some (.ref Ka))) :: (L + 3, celP (some (.ref Sa))) :: (Ka, lstP kvs) :: (Ra, lstP rvs) :: cs) G s := B
    have hdl := hd.length
    rw [List.length_map, List.length_range] at hdl
    have fr' : frm ((Str.ofString "due", .ref Da) :: l) (Str.ofString "row") = some (.ref Ra) := (frm_other (by decide +kernel)).trans fr
    refine wpAny_execs_cons ?_
    repeat walk_at "v"
    refine r_len (by assumption) (a := Ra) (vs := rvs) (by walk_at "mem") (by omega) fun t1 s B => ?_
    repeat walk_at "v"
    refine r_len B (a := Ka) (vs := kvs) (by walk_at "mem") (by omega) fun t2 s B => ?_
    repeat walk_at "v"
    rename_i B
    refine r_mulL B (.head _) (by omega) (by omega) fun b1 s B => ?_
    refine r_addL B (B.get (.tail _ (.tail _ (.tail _ (.head _))))).lst (B.get (.tail _ (.head _))).lst (by rw [sizeLine_eq]; simp; omega) fun b2 s B => ?_
    repeat walk_at "v"
    refine r_callFn FB.fn ?_
    repeat walk_at "v"
    refine ⟨⟨_, _, _, B⟩, wpAny_call ?_⟩
    obtain ⟨cs2, hcs2⟩ : ∃ cs2, cs2 = (L, nsP (frm ((Str.ofString "due", Value.ref Da) :: l))) :: (b2, lstP (dvs ++ List.replicate ((rvs.length : Int) - (kvs.length : Int)).toNat Value.none)) :: (L + 1, celP c1) :: (L + 2, celP (some (.ref Ka))) :: (L + 3, celP (some (.ref Sa))) :: cs := ⟨_, rfl⟩
    have B := B.sub (.cons_cons _ (.cons_cons _ (.cons _ (.cons _ (.cons _ (.cons _ (.refl _)))))))
    have B := B.sb (Y := (Ra, lstP rvs) :: cs2) (by
      rw [hcs2]
      exact ⟨[(Ka, lstP kvs)], by walk_at "pm"⟩)
    refine best_call T FB hh (by omega) B hr (by omega) fun b bvs s hbv B => ?_
    dsimp only
    rw [hcs2] at B
    have hcmp : Svs (dvs ++ List.replicate ((rvs.length : Int) - (kvs.length : Int)).toNat Value.none) bvs := by
      have e : ((rvs.length : Int) - (kvs.length : Int)).toNat = rs.length - K.length := by omega
      rw [e]
      refine due_best hd hbv (by simp) hle (fun k hk => ?_) fun k hk => ?_
      · rw [hR.due hperm hsort, if_pos (by simp at hk; omega)]
        simp
      · rw [hR.due hperm hsort, if_neg (by omega)]
    refine r_neL (B.get (.tail _ (.tail _ (.tail _ (.head _))))).lst (B.get (.head _)).lst hcmp (by omega) ?_
    repeat walk_at "v"
    rw [if_neg (by decide)]
    repeat walk_at "v"
    refine ⟨rfl, _, _, B.sb ⟨[(b, lstP bvs), (Ra, lstP rvs), (b2, _)], by walk_at "pm"⟩⟩
end
end
section
noncomputable def rowC (R1 Ta : Addr) (r1 tvs : List Value) : Nat → Cels
  | 0 => [(R1, lstP r1), (Ta, lstP tvs)]
  | 1 => [(Ta, lstP tvs)]
  | _ + 2 => []
section
variable {w : World} {A : Around} {s : Shared} {h₁ : Heap} {os : OsState} {cs : Cels} {G : Array GenState} {mg mb : Str → Option Value} {D : Addr} {cdg cR cB cL : Value} {E : Value → Shared → Prop} {L : Addr}
theorem row_step {Ra : Addr} {rvs : List Value} {rs : List Int} {l : List (Str × Value)} {c1 c2 c3 : Option Value}
    (T : Tp gl4 bi4 h₁ mg mb) (hE : Er h₁ 24 23) (FR : Fn h₁ 42 "_law_round" prRound bdRound scRound cR) (FB : Fn h₁ 49 "_law_best" prBest bdBest scBest cB) (FG : Gn h₁ D cdg) (U : Und A L cL)
    (hr : IntsAre rvs rs) (hz : rs.length ≤ 65) (h65 : rs.length = 65 → ∃ x, rs[0]? = some x ∧ x < 0) (hb : AllBare G) (fr : frm l (Str.ofString "row") = some (.ref Ra))
    (B : Sh h₁ os ((L, nsP (frm l)) :: (L + 1, celP c1) :: (L + 2, celP c2) :: (L + 3, celP c3) :: (Ra, lstP rvs) :: cs) G s) :
    wpAny (model PP w) A (execs dRow.1 (lEnv L cL)) (fun fl s' => fl = .next ∧ ∃ l' c2' c3' G', AllBare G' ∧ Sh h₁ os ((L, nsP (frm l')) :: (L + 1, celP c1) :: (L + 2, celP c2') :: (L + 3, celP c3') :: cs) G' s') E s := by
  have hh := U.hh
  have hrl := hr.length
  refine wpAny_execs_cons ?_
  repeat walk_at "v"
  refine r_listOf B (B.get (by walk_at "mem")) (by rw [sizeLine_eq]; omega) fun Ka s B => ?_
  refine c_setCell B (c := L + 2) rfl (by walk_at "upd") (fun s B => ?_) (by decide +kernel) (by decide +kernel)
  refine wpAny_execs_cons ?_
  repeat walk_at "v"
  rename_i B
  refine wpAny_execs_cons ?_
  refine wpAny_While ?_
  have fr' : ∀ v, frm ((Str.ofString "told", v) :: l) (Str.ofString "row") = some (.ref Ra) := fun v => (frm_other (by decide +kernel)).trans fr
  have B := B.perm (cs' := (L, nsP _) :: (L + 1, celP c1) :: (L + 2, celP (some (.ref Ka))) :: (L + 3, celP c3) :: (Ka, lstP rvs) :: (Ra, lstP rvs) :: cs) (.cons _ ((List.Perm.swap ..).trans (.cons _ ((List.Perm.swap ..).trans (.cons _ (.swap ..))))))
  refine codeAny_whileLoop (fun n s => ∃ l v kvs K G, frm l (Str.ofString "row") = some (.ref Ra) ∧ frm l (Str.ofString "told") = some v ∧ IntsAre kvs K ∧ AllBare G ∧ Kp rs K ∧ ((v = .none ∧ Pos0 K ∧ n = 0) ∨ ((∃ x t, v = .str x t) ∧ n = K.length + 1)) ∧
    Sh h₁ os ((L, nsP (frm l)) :: (L + 1, celP c1) :: (L + 2, celP (some (.ref Ka))) :: (L + 3, celP c3) :: (Ka, lstP kvs) :: (Ra, lstP rvs) :: cs) G s) ?_ (rs.length + 1)
    ⟨_, _, rvs, rs, G, fr' _, rfl, hr, hb, Kp.start rs, .inr ⟨⟨_, _, rfl⟩, rfl⟩, B⟩
  rintro n s ⟨l, v, kvs, K, G, g1, g2, hk, hb, hK, hcase, B⟩
  have hkz : K.length ≤ rs.length := by
    rcases hK.len with e | e
    · rw [e]; exact Nat.le_refl _
    · omega
  repeat walk_at "v"
  rcases hcase with ⟨rfl, hpos, rfl⟩ | ⟨⟨x, t, rfl⟩, rfl⟩
  · refine wpAny_isNot_plain rfl ?_
    repeat walk_at "v"
    rw [if_neg (by decide)]
    refine wpAny_execs_nil ?_
    have h64 : K.length ≤ 64 := by
      rcases hK.len with e | e
      · rcases Nat.lt_or_ge rs.length 65 with q | q
        · omega
        · obtain ⟨x, hx, hx0⟩ := h65 (by omega)
          have hK65 : K.length = 65 := by rw [e]; omega
          have h1 := hpos 1 (by omega)
          rw [← e] at hx
          have h2 : (K.take 1).sum = (K.take 0).sum + x := take_succ_sum hx
          rw [List.take_zero, List.sum_nil] at h2
          omega
      · omega
    refine wpAny_mono (row_end T FB U (hK.fin hpos) hk hr h64 hz hkz g1 B) (fun fl s' h' => ?_) fun _ _ e => e
    obtain ⟨rfl, l', c3', B'⟩ := h'
    exact ⟨rfl, l', _, c3', G, hb, B'⟩
  · refine wpAny_isNot_other rfl (by simp) ?_
    repeat walk_at "v"
    rw [if_pos rfl]
    refine wpAny_mono (turn_step (cs := (Ra, lstP rvs) :: cs) T hE FR FG U hK hk (by omega) hb g1 B) (fun fl s' h' => ?_) fun _ _ e => e
    obtain ⟨rfl, l', v, kvs', K', G', g1, g2, hk', hb', hc, B'⟩ := h'
    rcases hc with ⟨rfl, rfl, hp⟩ | ⟨hv, hK', hl⟩
    · exact ⟨0, by omega, l', .none, kvs', K', G', g1, g2, hk', hb', hK, .inl ⟨rfl, hp, rfl⟩, B'⟩
    · exact ⟨K'.length + 1, by omega, l', v, kvs', K', G', g1, g2, hk', hb', hK', .inr ⟨hv, rfl⟩, B'⟩
theorem law_walk {a : Addr} {vs : List Value} {ns : List Int}
    (T : Tp gl4 bi4 h₁ mg mb) (hE : Er h₁ 24 23) (FR : Fn h₁ 42 "_law_round" prRound bdRound scRound cR) (FB : Fn h₁ 49 "_law_best" prBest bdBest scBest cB) (FG : Gn h₁ D cdg) (U : Und A L cL)
    (hl : h₁.IsList a vs.toArray) (hi : IntsAre vs ns) (hz : vs.length ≤ 63) (hb : AllBare G)
    (B : Sh h₁ os ((L, nsP (frm [(Str.ofString "script", .ref a)])) :: (L + 1, celP none) :: (L + 2, celP none) :: (L + 3, celP none) :: []) G s) :
    wpAny (model PP w) A (execs bdLaw (lEnv L cL)) (fun fl s' => fl = .ret (.bool true) ∧ ∃ cs' G', AllBare G' ∧ Sh h₁ os cs' G' s') E s := by
  have hh := U.hh
  have hl' : ∀ {cs : Cels} {s : Shared}, Sh h₁ os cs G s → s.heap.IsList a vs.toArray := fun B' => let ⟨o, ho, r⟩ := hl; ⟨o, B'.hp.old _ _ ho, r⟩
  have hvl := hi.length
  refine wpAny_execs_cons ?_
  refine wpAny_Assign_Name ?_
  refine lc_eval (h₁ := h₁) (os := os) (cl := []) (by rfl) (by decide +kernel) (by decide +kernel) (by decide +kernel) (by decide +kernel) ?_
  repeat walk_at "v"
  refine' r_addLI ?k1 ?k2 ?k4 ?k5 ?k6 ?k3 ?_
  case k1 => assumption
  case k2 => exact (Sh.get (by assumption) (.tail _ (.head _))).lst
  case k4 => exact hl' (by assumption)
  case k5 => exact .cons 5 _ .nil
  case k6 => exact hi
  case k3 => rw [sizeLine_eq]; simp; omega
  intro b1 u1 s hu1 B
  repeat walk_at "v"
  rename_i B
  have hu1l := hu1.length
  rw [List.length_append, List.length_cons, List.length_nil] at hu1l
  refine' r_addLI ?k1 ?k2 ?k4 ?k5 ?k6 ?k3 ?_
  case k1 => exact B
  case k2 => exact (B.get (.tail _ (.tail _ (.head _)))).lst
  case k4 => exact (B.get (.tail _ (.head _))).lst
  case k5 => exact hu1
  case k6 => exact .cons 4 _ .nil
  case k3 => rw [sizeLine_eq]; simp; omega
  intro b2 u2 s hu2 B
  have hu2l := hu2.length
  simp only [List.length_append, List.length_cons, List.length_nil] at hu2l
  have B := B.sub (.cons_cons _ (.cons_cons _ (.cons _ (.cons _ (.cons _ (.refl _))))))
  refine i_list B (B.get (.tail _ (.head _))).lst fun it s B => ?_
  have B := B.perm (cs' := (L, nsP _) :: ([(it, litP b2 0), (b2, lstP u2)] ++ [(L + 1, celP none), (L + 2, celP none), (L + 3, celP none)])) (.swap ..)
  refine ⟨u2.length, _, _, _, _, _, _, fun i ys => ∃ zs, IntsAre ys zs ∧ zs.length = i ∧ (0 < i → zs[0]? = some 5), Src.list (a := b2) (vs := u2) hh, by rw [sizeLine_eq]; omega, ⟨[], .nil, rfl, fun h => absurd h (by omega)⟩, B, ?_, ?_⟩
  · rintro i v ys C D mC s E' hi' hv ⟨zs, hzs, hzl, hz0⟩ hm B
    refine wpAny_tests_nil ?_
    rw [if_pos rfl]
    obtain ⟨x, hx⟩ : ∃ x, (([5] ++ ns) ++ [4] : List Int)[i]? = some x := ⟨_, List.getElem?_eq_getElem (by simp; omega)⟩
    obtain ⟨tx, hx'⟩ := ints_at hu2 hx
    rw [hx'] at hv
    cases hv
    repeat walk_at "v"
    refine ⟨⟨_, ints_snoc hzs, by simp [hzl], fun _ => ?_⟩, by assumption⟩
    cases i with
    | zero =>
      have : zs = [] := List.eq_nil_of_length_eq_zero hzl
      subst this
      have : x = 5 := by simpa using hx.symm
      subst this
      rfl
    | succ i => rw [List.getElem?_append_left (by omega)]; exact hz0 (by omega)
  · rintro Za zvs s ⟨zs, hzs, hzl, hz0⟩ B
    have hzvl := hzs.length
    have B : Sh h₁ os ((L, nsP (frm [(Str.ofString "script", .ref a)])) :: (Za, lstP zvs) :: (b2, lstP u2) :: (L + 1, celP none) :: (L + 2, celP none) :: (L + 3, celP none) :: []) G s := B
    have B := B.sub (.cons_cons _ (.cons_cons _ (.cons _ (.refl _))))
    refine c_setCell B (c := L + 1) rfl (by walk_at "upd") (fun s B => ?_) (by decide +kernel) (by decide +kernel)
    refine wpAny_execs_cons ?_
    refine lc_assign (h₁ := h₁) (os := os) (cl := [(Str.ofString "sizes", L + 1)]) (by rfl) (by rfl) (by decide +kernel) (by decide +kernel) (by decide +kernel) (by decide +kernel) (by show scLaw.names.lookup _ = _; decide +kernel) (by show scLaw.kind = _; decide +kernel) ?_
    repeat walk_at "v"
    refine r_len B (by walk_at "mem") (by omega) fun t1 s B => ?_
    repeat walk_at "v"
    refine r_range (n := zvs.length) (by omega) B fun it s B => ?_
    refine ⟨zvs.length, _, _, _, _, _, G, fun i ys => ∃ ts, IntsAre ys ts ∧ ts.length = i ∧ (0 < i → ts[0]? = some (-5)), Src.range (n := zvs.length) hh, by rw [sizeLine_eq]; omega, ⟨[], .nil, rfl, fun h => absurd h (by omega)⟩, B, ?_, ?_⟩
    · rintro i v ys C D mC s E' hi' ⟨t, rfl⟩ ⟨ts, hts, htl, ht0⟩ hm B
      refine wpAny_tests_nil ?_
      rw [if_pos rfl]
      obtain ⟨x, hx⟩ : ∃ x, zs[i]? = some x := ⟨_, List.getElem?_eq_getElem (by omega)⟩
      obtain ⟨tx, hx'⟩ := ints_at hzs hx
      repeat walk_at "v"
      have hzero : i = 0 → (-x) = -5 := fun e => by
        subst e
        rw [hz0 (by omega)] at hx
        cases hx
        rfl
      have fin : ∀ y : Int, (i = 0 → y = -5) → ∀ t', (∃ ts', IntsAre (ys ++ [.int y t']) ts' ∧ ts'.length = i + 1 ∧ (0 < i + 1 → ts'[0]? = some (-5))) := fun y hy t' => by
        refine ⟨_, ints_snoc hts, by simp [htl], fun _ => ?_⟩
        cases i with
        | zero =>
          have : ts = [] := List.eq_nil_of_length_eq_zero htl
          subst this
          rw [hy rfl]
          rfl
        | succ i => rw [List.getElem?_append_left (by omega)]; exact ht0 (by omega)
      by_cases hpar : ((i : Int).fmod 2) = 0
      · rw [if_pos (by simpa using hpar)]
        repeat walk_at "v"
        refine r_item (by assumption) (by walk_at "mem") (by omega) (by omega) (x := .int x tx) (by simpa using hx') ?_
        repeat walk_at "v"
        exact ⟨fin _ hzero _, by assumption⟩
      · rw [if_neg (by simpa using hpar)]
        repeat walk_at "v"
        refine r_item (by assumption) (by walk_at "mem") (by omega) (by omega) (x := .int x tx) (by simpa using hx') ?_
        exact ⟨fin _ (fun e => by subst e; exact absurd rfl hpar) _, by assumption⟩
    · rintro Ta tvs s ⟨ts, hts, htl, ht0⟩ B
      have htvl := hts.length
      have B : Sh h₁ os ((L, nsP (frm [(Str.ofString "turned", .ref Ta), (Str.ofString "script", .ref a)])) :: (Ta, lstP tvs) :: (Za, lstP zvs) :: (L + 1, celP (some (.ref Za))) :: (L + 2, celP none) :: (L + 3, celP none) :: []) G s := B
      refine wpAny_execs_cons ?_
      refine wpAny_For ?_
      repeat walk_at "v"
      refine' r_addLI ?k1 ?k2 ?k4 ?k5 ?k6 ?k3 ?_
      case k1 => assumption
      case k2 => exact hl' (by assumption)
      case k4 => exact (Sh.get (by assumption) (.tail _ (.head _))).lst
      case k5 => exact hi
      case k6 => exact .cons (-3) _ .nil
      case k3 => rw [sizeLine_eq]; simp; omega
      intro R1 r1 s hr1 B
      repeat walk_at "v"
      rename_i tu _ B
      have B := B.sub (cs' := _ :: _ :: _ :: _ :: _ :: _ :: _ :: []) (.cons_cons _ (.cons_cons _ (.cons_cons _ (.cons _ (.cons_cons _ (.cons _ (.refl _)))))))
      refine i_tup B fun it s B => ?_
      have B0 := B.perm (cs' := (L, nsP (frm [(Str.ofString "turned", .ref Ta), (Str.ofString "script", .ref a)])) :: (it, titP tu 0) :: (tu, tupP [.ref R1, .ref Ta]) :: (L + 1, celP (some (.ref Za))) :: (L + 2, celP none) :: (L + 3, celP none) :: (R1, lstP r1) :: (Ta, lstP tvs) :: []) (by walk_at "pm")
      refine for_src (L := L) (env := lEnv L cL) (Src.tuple (a := tu) (vs := [.ref R1, .ref Ta]) hh) (by show scLaw.kind = _; decide +kernel) (by show scLaw.names.lookup _ = _; decide +kernel)
        (Inv := fun i l' cs' G' => AllBare G' ∧ ∃ c2 c3, cs' = (L + 1, celP (some (.ref Za))) :: (L + 2, celP c2) :: (L + 3, celP c3) :: rowC R1 Ta r1 tvs i)
        ?_ (l := [(Str.ofString "turned", .ref Ta), (Str.ofString "script", .ref a)]) ⟨hb, none, none, rfl⟩ B0 ?_
      · rintro i v l' cs' G' s E hi' hv ⟨hb', c2, c3, rfl⟩ B
        match i, hi', hv, B with
        | 0, _, hv, B =>
          cases hv
          have B : Sh h₁ os ((L, nsP (frm ((Str.ofString "row", .ref R1) :: l'))) :: (it, titP tu 1) :: (tu, tupP [.ref R1, .ref Ta]) :: (L + 1, celP (some (.ref Za))) :: (L + 2, celP c2) :: (L + 3, celP c3) :: (R1, lstP r1) :: (Ta, lstP tvs) :: []) G' s := B
          have B := B.perm (cs' := (L, nsP (frm ((Str.ofString "row", .ref R1) :: l'))) :: (L + 1, celP (some (.ref Za))) :: (L + 2, celP c2) :: (L + 3, celP c3) :: (R1, lstP r1) :: (it, titP tu 1) :: (tu, tupP [.ref R1, .ref Ta]) :: (Ta, lstP tvs) :: []) (by walk_at "pm")
          refine wpAny_mono (row_step T hE FR FB FG U hr1 (by simp; omega) (fun e => by simp at e; omega) hb' rfl B) (fun fl s' h' => ?_) fun _ _ e => e
          obtain ⟨rfl, l2, c2', c3', G2, hb2, B2⟩ := h'
          have B3 := B2.perm (cs' := (L, nsP (frm l2)) :: (it, titP tu 1) :: (tu, tupP [.ref R1, .ref Ta]) :: (L + 1, celP (some (.ref Za))) :: (L + 2, celP c2') :: (L + 3, celP c3') :: (Ta, lstP tvs) :: []) (by walk_at "pm")
          exact ⟨rfl, l2, _, G2, ⟨hb2, c2', c3', rfl⟩, B3⟩
        | 1, _, hv, B =>
          cases hv
          have B : Sh h₁ os ((L, nsP (frm ((Str.ofString "row", .ref Ta) :: l'))) :: (it, titP tu 2) :: (tu, tupP [.ref R1, .ref Ta]) :: (L + 1, celP (some (.ref Za))) :: (L + 2, celP c2) :: (L + 3, celP c3) :: (Ta, lstP tvs) :: []) G' s := B
          have B := B.perm (cs' := (L, nsP (frm ((Str.ofString "row", .ref Ta) :: l'))) :: (L + 1, celP (some (.ref Za))) :: (L + 2, celP c2) :: (L + 3, celP c3) :: (Ta, lstP tvs) :: (it, titP tu 2) :: (tu, tupP [.ref R1, .ref Ta]) :: []) (by walk_at "pm")
          refine wpAny_mono (row_step T hE FR FB FG U hts (by omega) (fun e => ⟨-5, ht0 (by omega), by decide⟩) hb' rfl B) (fun fl s' h' => ?_) fun _ _ e => e
          obtain ⟨rfl, l2, c2', c3', G2, hb2, B2⟩ := h'
          have B3 := B2.perm (cs' := (L, nsP (frm l2)) :: (it, titP tu 2) :: (tu, tupP [.ref R1, .ref Ta]) :: (L + 1, celP (some (.ref Za))) :: (L + 2, celP c2') :: (L + 3, celP c3') :: []) (by walk_at "pm")
          exact ⟨rfl, l2, _, G2, ⟨hb2, c2', c3', rfl⟩, B3⟩
        | i + 2, hi', _, _ => exact absurd hi' (by simp)
      · rintro l' cs' G' s ⟨hb', c2, c3, rfl⟩ B
        refine wpAny_execs_cons ?_
        repeat walk_at "v"
        exact ⟨rfl, _, G', hb', B⟩
end
end
section
theorem lookup_mem : ∀ {l : List (Str × Value)} {x : Str} {v : Value}, l.lookup x = some v → (x, v) ∈ l
  | (y, u) :: l, x, v, h => by
    rw [List.lookup_cons] at h
    by_cases e : x = y
    · subst e
      rw [beq_self_eq_true] at h
      cases h
      exact .head _
    · have : (x == y) = false := by simpa using e
      rw [this] at h
      exact .tail _ (lookup_mem h)
theorem tp_of {glV biV : List (Str × Value)} {h : Heap} {mg mb : Str → Option Value} (g : h.Ns mainGlobals mg) (b : h.Ns builtinsNs mb) (lim : h.NoLimit) (hb : ∀ x : Str, x ≠ "__name__" → mb x = bootBuiltins x)
    (h1 : ∀ p ∈ glV, mg p.1 = some p.2) (h2 : ∀ p ∈ biV, mg p.1 = none ∧ p.1 ≠ "__name__" ∧ bootBuiltins p.1 = some p.2) : Tp glV biV h mg mb :=
  ⟨g, b, lim, fun x v e => h1 _ (lookup_mem e), fun x v e => have z := h2 _ (lookup_mem e); ⟨z.1, (hb x z.2.1).trans z.2.2⟩⟩
theorem ns_at {h : Heap} {a : Addr} {o : Obj} {es : Array DictEntry} {ep : Nat} {m : Str → Option Value} (g : h.Ns a m) (ho : h.get? a = some o) (hd : o.data = .dict es ep) (x : Str) : m x = nsFind es x := by
  obtain ⟨o', es', ep', ho', hd', _, hf⟩ := g
  rw [ho] at ho'
  cases ho'
  rw [hd] at hd'
  cases hd'
  exact (hf x).symm
theorem ns_of {h : Heap} {a : Addr} {o : Obj} {es : Array DictEntry} {ep : Nat} (ho : h.get? a = some o) (hd : o.data = .dict es ep) (hk : ∀ e ∈ es.toList, ∃ n t, e.key = .str n t) : h.Ns a (nsFind es) :=
  ⟨o, es, ep, ho, hd, fun e m => hk e (by simpa using m), fun _ => rfl⟩
theorem post_ok {args : List WData} : PySem.Challenge.rw_dn0164_04.row.claim.post args (.bool true) args = true := by
  show (WShape.has [] (WData.bool true) .bool && WTm.holds [] (.eq .res (.lit (.bool true))) { args := args, res := some (WData.bool true), after := args }) = true
  rw [Bool.and_eq_true]
  have hs : W.same (WData.bool true) (WData.bool true) = true := by decide +kernel
  refine ⟨by decide +kernel, ?_⟩
  unfold WTm.holds
  simp only [WTm.value, hs]
end
section
/-- the law is called -/
theorem law_call {w : World} {s₁ : Shared} {cdg cR cB cL : Value} {mg mb : Str → Option Value} {D a : Addr} {vs : List Value} {ns : List Int} {Q : Value → Shared → Prop} {E : Value → Shared → Prop} (T : Tp gl4 bi4 s₁.heap mg mb) (hE : Er s₁.heap 24 23)
    (FR : Fn s₁.heap 42 "_law_round" prRound bdRound scRound cR) (FB : Fn s₁.heap 49 "_law_best" prBest bdBest scBest cB) (FG : Gn s₁.heap D cdg) (FL : Fn s₁.heap 54 "law" prLaw bdLaw scLaw cL)
    (hg : s₁.gens = #[]) (hl : s₁.heap.IsList a vs.toArray) (hi : IntsAre vs ns) (hz : ns.length ≤ 63)
    (h : ∀ s', (∀ b o, s₁.heap.get? b = some o → s'.heap.get? b = some o) → s'.os = s₁.os → AllBare s'.gens → Q (.bool true) s') :
    wpAny (model PP w) callerA (call (.ref 54) [.ref a]) Q E s₁ := by
  have B : Sh s₁.heap s₁.os [] #[] s₁ := ⟨.start, hg, rfl⟩
  refine wpAny_call ?_
  refine call_fnC (binds := [("script", .ref a)]) (m := frm [(Str.ofString "script", .ref a)]) (cf := fun k => [(Str.ofString "rising", k + 2), (Str.ofString "kept", k + 1), (Str.ofString "sizes", k)]) FL B (by decide) (fun _ _ => rfl) (locs rfl) (fun _ => ?_) (fun _ => ?_) (fun _ => rfl) (fun _ q m => ?_) ?_ (by decide +kernel) (by decide +kernel) (by decide +kernel)
  · show (fun y => if y = Str.ofString "script" then some (Value.ref a) else frm [] y) = _
    rw [frm_put]
  · rfl
  · rcases List.mem_cons.mp m with rfl | m
    · rfl
    · rcases List.mem_cons.mp m with rfl | m
      · rfl
      · rcases List.mem_cons.mp m with rfl | m
        · rfl
        · cases m
  intro L s B
  have B : Sh s₁.heap s₁.os ((L, nsP (frm [(Str.ofString "script", .ref a)])) :: (L + 3, celP none) :: (L + 2, celP none) :: (L + 1, celP none) :: []) #[] s := B
  refine wpAny_mono (law_walk T hE FR FB FG ⟨rfl, rfl, by show 301 + 1 + 400 < 1000; decide, by show 4 + 3 + 200 < 9900; decide⟩ hl hi (by rw [hi.length]; exact hz) (fun y m => by simp at m) (B.perm (by walk_at "pm"))) (fun fl s' h' => ?_) fun _ _ e => e
  obtain ⟨rfl, cs', G', hb, B'⟩ := h'
  exact h s' B'.hp.old B'.os (by rw [B'.gens]; exact hb)
end
end Mine
set_option maxHeartbeats 8000000 in
theorem PySem.Challenge.cw_dn0164_04_holds : PySem.Challenge.rw_dn0164_04.Holds := by
  w_on; o_law; k_head; (case hw => w_witness2)
  k_fill
  intro w s₀ s₁ mg mb G Y fa o pm cd doc dV kV ho hd hcd hD hmg hg args vals as hpre hlay hrd hwl hlo
  have KX := kIn_of Y
  refine Ground.open G ?_
  intro T B D TE TW
  wrow_args hpre hlay hrd hwl hlo
  have hns := Mine.ns_at T.g (KX 3 _ rfl) rfl
  have hfa : fa = 54 := by
    have e := (hns _).symm.trans hmg
    have e' : some (Value.ref 54) = some (Value.ref fa) := e
    cases e'
    rfl
  subst hfa
  refine Mine.law_call (mg := mg) (mb := mb) (D := 28) (cdg := .ref 34) (cR := .ref 41) (cB := .ref 48) (cL := .ref 53) ?T ?E ?FR ?FB ?FG ?FL hg (by assumption) (by assumption) ?hz ?_
  case T =>
    refine Mine.tp_of T.g T.b T.nolimit T.builtins ?_ ?_
    · intro p hp
      simp only [Mine.gl4, List.mem_cons, List.not_mem_nil, or_false] at hp
      rcases hp with rfl | rfl | rfl | rfl <;> exact (hns _).trans rfl
    · intro p hp
      simp only [Mine.bi4, List.mem_cons, List.not_mem_nil, or_false] at hp
      rcases hp with rfl | rfl | rfl | rfl | rfl | rfl | rfl | rfl | rfl | rfl | rfl <;> refine ⟨(hns _).trans rfl, ?_, ?_⟩ <;> decide +kernel
  case E => exact ⟨⟨_, _, _, _, _, _, _, _, _, _, _, _, _, _, KX 24 _ rfl⟩, _, Mine.ns_of (KX 23 _ rfl) rfl (by simp), rfl, rfl⟩
  case FR => exact ⟨⟨_, _, _, KX 42 _ rfl, rfl⟩, ⟨41, _, _, _, rfl, KX 41 _ rfl, rfl, rfl⟩, T.nolimit⟩
  case FB => exact ⟨⟨_, _, _, KX 49 _ rfl, rfl⟩, ⟨48, _, _, _, rfl, KX 48 _ rfl, rfl, rfl⟩, T.nolimit⟩
  case FG => exact ⟨⟨_, _, _, KX 35 _ rfl, rfl⟩, ⟨_, _, _, KX 28 _ rfl, rfl⟩, ⟨34, _, _, _, rfl, KX 34 _ rfl, rfl, rfl⟩⟩
  case FL => exact ⟨⟨_, _, _, KX 54 _ rfl, rfl⟩, ⟨53, _, _, _, rfl, KX 53 _ rfl, rfl, rfl⟩, T.nolimit⟩
  case hz => omega
  intro s' h1 h2 h3
  exact ⟨.inl ⟨.bool true, .bool true, [], rfl, fun cls => rfl, .bool true, Mine.post_ok, fun _ => ⟨.nil, fun _ m => nomatch m⟩⟩, .of_keep h1, h2, h3⟩
