import PyProof.Rows.All
import Wide.All
import OpenK.AllK
import Wide.FinOn
import PySem.Challenge.RW_dn0164_02
open PySem PySem.W PyProof.Rows
set_option Elab.async false
set_option maxRecDepth 100000
set_option maxHeartbeats 1000000
section
open PySem PySem.W PyProof.Rows
namespace Mine

abbrev Cel := Obj → Prop
def Pt (h : Heap) (a : Addr) (c : Cel) : Prop := ∃ o, h.get? a = some o ∧ c o
abbrev Cels := List (Addr × Cel)

theorem Pt.keep {h h' : Heap} {a : Addr} {c : Cel} (p : Pt h a c) (k : ∀ o, h.get? a = some o → h'.get? a = some o) : Pt h' a c :=
  let ⟨o, e, q⟩ := p; ⟨o, k o e, q⟩
theorem Pt.lt {h : Heap} {a : Addr} {c : Cel} (p : Pt h a c) : a < h.objs.size := let ⟨_, e, _⟩ := p; Heap.lt_size e

/-- a list object -/
def lstP (vs : List Value) : Cel := fun o => ∃ n, o = ⟨.type "list", none, .seq vs.toArray n, #[]⟩
/-- a tuple object -/
def tupP (vs : List Value) : Cel := fun o => ∃ n, o = ⟨.type "tuple", none, .seq vs.toArray n, #[]⟩
/-- a namespace -/
def nsP (m : Str → Option Value) : Cel := fun o => ∃ es ep, o.data = .dict es ep ∧ StrKeys es ∧ ∀ name, nsFind es name = m name
/-- a list iterator at place i -/
def litP (l : Addr) (i : Nat) : Cel := fun o => o.cls = .type "list_iterator" ∧ o.data = .fields #[.ref l, .int i 0]
/-- a list iterator that is used up -/
def lendP : Cel := fun o => o.cls = .type "list_iterator" ∧ ∃ v, o.data = .fields #[.none, v]
/-- a generator object with the number g -/
def genP (g : Nat) : Cel := fun o => ∃ nm qn, o.cls = .type "generator" ∧ o.data = .fields #[.int g 0, nm, qn] ∧ o.slots = #[]
/-- an exactly known object -/
def isP (o₀ : Obj) : Cel := fun o => o = o₀

theorem Pt.lst {h : Heap} {a : Addr} {vs : List Value} (p : Pt h a (lstP vs)) : h.IsList a vs.toArray := let ⟨o, e, n, q⟩ := p; ⟨o, e, by rw [q], n, by rw [q]⟩
theorem Pt.lstN {h : Heap} {a : Addr} {vs : List Value} (p : Pt h a (lstP vs)) : h.NoDictAt (.ref a) := let ⟨o, e, n, q⟩ := p; ⟨o, e, by rw [q]⟩
theorem Pt.tup {h : Heap} {a : Addr} {vs : List Value} (p : Pt h a (tupP vs)) : h.IsTuple a vs.toArray := let ⟨o, e, n, q⟩ := p; ⟨o, e, by rw [q], n, by rw [q]⟩
theorem Pt.tup' {h : Heap} {a : Addr} {vs : List Value} (p : Pt h a (tupP vs)) : IsTup h a vs.toArray := p.tup
theorem Pt.ns {h : Heap} {a : Addr} {m : Str → Option Value} (p : Pt h a (nsP m)) : h.Ns a m :=
  let ⟨o, e, es, ep, q⟩ := p; ⟨o, es, ep, e, q⟩
theorem Pt.ofNs {h : Heap} {a : Addr} {m : Str → Option Value} (p : h.Ns a m) : Pt h a (nsP m) :=
  let ⟨o, es, ep, e, q⟩ := p; ⟨o, e, es, ep, q⟩
theorem Pt.lit {h : Heap} {a l : Addr} {i : Nat} (p : Pt h a (litP l i)) : h.IsListIter a l i := p
theorem Pt.gen {h : Heap} {a : Addr} {g : Nat} (p : Pt h a (genP g)) : h.IsGen a g :=
  let ⟨o, e, nm, qn, q⟩ := p; ⟨o, nm, qn, e, q⟩
theorem Pt.is {h : Heap} {a : Addr} {o : Obj} (p : Pt h a (isP o)) : h.get? a = some o := let ⟨_, e, q⟩ := p; q ▸ e

/-- the heap: what stood at first stands; the cells are as said, each at its own place -/
structure Hp (h₁ : Heap) (cs : Cels) (h : Heap) : Prop where
  old : ∀ b o, h₁.get? b = some o → h.get? b = some o
  cel : ∀ p ∈ cs, Pt h p.1 p.2 ∧ h₁.get? p.1 = none
  nod : (cs.map (·.1)).Nodup

theorem Hp.get {h₁ h : Heap} {cs : Cels} {a : Addr} {c : Cel} (H : Hp h₁ cs h) (m : (a, c) ∈ cs) : Pt h a c := (H.cel _ m).1
theorem Hp.isNew {h₁ h : Heap} {cs : Cels} {a : Addr} {c : Cel} (H : Hp h₁ cs h) (m : (a, c) ∈ cs) : h₁.get? a = none := (H.cel _ m).2
theorem Hp.lt {h₁ h : Heap} {cs : Cels} {a : Addr} {c : Cel} (H : Hp h₁ cs h) (m : (a, c) ∈ cs) : a < h.objs.size := (H.get m).lt
theorem Hp.old_ne {h₁ h : Heap} {cs : Cels} {a b : Addr} {c : Cel} {o : Obj} (H : Hp h₁ cs h) (m : (a, c) ∈ cs) (e : h₁.get? b = some o) : b ≠ a := by
  rintro rfl; rw [H.isNew m] at e; cases e

theorem Hp.start {h₁ : Heap} : Hp h₁ [] h₁ := ⟨fun _ _ e => e, fun _ m => (nomatch m), .nil⟩

/-- objects are only added -/
theorem Hp.grow {h₁ h h' : Heap} {cs : Cels} (H : Hp h₁ cs h) (k : ∀ b o, h.get? b = some o → h'.get? b = some o) : Hp h₁ cs h' :=
  ⟨fun b o e => k b o (H.old b o e), fun p m => ⟨(H.cel p m).1.keep fun o e => k _ o e, (H.cel p m).2⟩, H.nod⟩

/-- a new cell -/
theorem Hp.newN {h₁ h h' : Heap} {cs : Cels} {a : Addr} {c : Cel} (H : Hp h₁ cs h) (k : ∀ b o, h.get? b = some o → h'.get? b = some o) (hp : Pt h' a c) (hn : h.get? a = none) : Hp h₁ ((a, c) :: cs) h' := by
  have H' := H.grow k
  refine ⟨H'.old, fun p m => ?_, ?_⟩
  · rcases List.mem_cons.mp m with rfl | m
    · refine ⟨hp, ?_⟩
      cases q : h₁.get? a with
      | none => rfl
      | some o => rw [H.old _ _ q] at hn; cases hn
    · exact H'.cel p m
  · rw [List.map_cons, List.nodup_cons]
    refine ⟨fun m => ?_, H.nod⟩
    obtain ⟨p, mp, e⟩ := List.mem_map.mp m
    obtain ⟨o, ho, _⟩ := (H.cel p mp).1
    have e' : p.1 = a := e
    rw [e', hn] at ho; cases ho
theorem Hp.new {h₁ h h' : Heap} {cs : Cels} {a : Addr} {c : Cel} (H : Hp h₁ cs h) (k : ∀ b o, h.get? b = some o → h'.get? b = some o) (hp : Pt h' a c) (hn : h.objs.size ≤ a) : Hp h₁ ((a, c) :: cs) h' :=
  H.newN k hp (Heap.get?_none_of_le hn)
theorem Hp.push {h₁ h : Heap} {cs : Cels} {c : Cel} {o : Obj} (H : Hp h₁ cs h) (hf : o.isFreed = false) (hc : c o) : Hp h₁ ((h.objs.size, c) :: cs) (h.push o) :=
  H.new (fun _ _ e => Heap.get?_push_of_some _ e) ⟨o, Heap.get?_push_size _ hf, hc⟩ (Nat.le_refl _)

/-- one cell is replaced -/
inductive Upd (a : Addr) (c c' : Cel) : Cels → Cels → Prop
  | here {r} : Upd a c c' ((a, c) :: r) ((a, c') :: r)
  | there {p r r'} : Upd a c c' r r' → Upd a c c' (p :: r) (p :: r')
theorem Upd.map {a : Addr} {c c' : Cel} {l l' : Cels} (u : Upd a c c' l l') : l'.map (·.1) = l.map (·.1) := by
  induction u with
  | here => rfl
  | there _ ih => simp only [List.map_cons, ih]
theorem Upd.mem {a : Addr} {c c' : Cel} {l l' : Cels} (u : Upd a c c' l l') : (a, c) ∈ l := by
  induction u with
  | here => exact .head _
  | there _ ih => exact .tail _ ih
theorem Upd.mem' {a : Addr} {c c' : Cel} {l l' : Cels} (u : Upd a c c' l l') : (a, c') ∈ l' := by
  induction u with
  | here => exact .head _
  | there _ ih => exact .tail _ ih
theorem Upd.keep {a : Addr} {c c' : Cel} {l l' : Cels} (u : Upd a c c' l l') {p : Addr × Cel} (m : p ∈ l) (hn : p.1 ≠ a) : p ∈ l' := by
  induction u with
  | here => rcases List.mem_cons.mp m with rfl | m; exact absurd rfl hn; exact .tail _ m
  | there _ ih => rcases List.mem_cons.mp m with rfl | m; exact .head _; exact .tail _ (ih m)
theorem Upd.from {a : Addr} {c c' : Cel} {l l' : Cels} (u : Upd a c c' l l') (nd : (l.map (·.1)).Nodup) {p : Addr × Cel} (m : p ∈ l') : p = (a, c') ∨ (p ∈ l ∧ p.1 ≠ a) := by
  induction u with
  | here =>
    rcases List.mem_cons.mp m with rfl | m
    · exact .inl rfl
    · refine .inr ⟨.tail _ m, fun e => ?_⟩
      rw [List.map_cons, List.nodup_cons] at nd
      exact nd.1 (List.mem_map.mpr ⟨p, m, e⟩)
  | @there q r r' u' ih =>
    rw [List.map_cons, List.nodup_cons] at nd
    rcases List.mem_cons.mp m with rfl | m
    · refine .inr ⟨.head _, fun e => nd.1 (List.mem_map.mpr ⟨(a, c), u'.mem, e.symm⟩)⟩
    · rcases ih nd.2 m with h | ⟨h, g⟩
      · exact .inl h
      · exact .inr ⟨.tail _ h, g⟩
theorem Upd.of {a : Addr} {c : Cel} (c' : Cel) : ∀ {l : Cels}, (a, c) ∈ l → ∃ l', Upd a c c' l l'
  | _ :: r, m => by
    rcases List.mem_cons.mp m with h | m
    · cases h; exact ⟨_, .here⟩
    · obtain ⟨l', u⟩ := Upd.of c' m; exact ⟨_, .there u⟩

theorem Hp.chg {h₁ h h' : Heap} {cs cs' : Cels} {a : Addr} {c c' : Cel} (H : Hp h₁ cs h) (u : Upd a c c' cs cs') (k : ∀ b o, b ≠ a → h.get? b = some o → h'.get? b = some o) (hp : Pt h' a c') : Hp h₁ cs' h' := by
  refine ⟨fun b o e => k b o (H.old_ne u.mem e) (H.old b o e), fun p m => ?_, by rw [u.map]; exact H.nod⟩
  rcases u.from H.nod m with rfl | ⟨m, hn⟩
  · exact ⟨hp, H.isNew u.mem⟩
  · exact ⟨(H.cel p m).1.keep fun o e => k _ o hn e, (H.cel p m).2⟩
theorem Hp.chgS {h₁ h h' : Heap} {cs cs' : Cels} {a : Addr} {c c' : Cel} (H : Hp h₁ cs h) (u : Upd a c c' cs cs') (k : Heap.SameBut a h h') (hp : Pt h' a c') : Hp h₁ cs' h' :=
  H.chg u (fun b o hb e => k.extBut b o hb e) hp
theorem Hp.chgE {h₁ h h' : Heap} {cs cs' : Cels} {a : Addr} {c c' : Cel} (H : Hp h₁ cs h) (u : Upd a c c' cs cs') (k : Heap.ExtBut a h h') (hp : Pt h' a c') : Hp h₁ cs' h' :=
  H.chg u (fun b o hb e => k b o hb e) hp

/-- cells may be forgotten, and told in another order -/
theorem Hp.sub {h₁ h : Heap} {cs cs' : Cels} (H : Hp h₁ cs h) (s : cs'.Sublist cs) : Hp h₁ cs' h :=
  ⟨H.old, fun p m => H.cel p (s.subset m), (s.map _).nodup H.nod⟩
theorem Hp.drop {h₁ h : Heap} {cs : Cels} {p : Addr × Cel} (H : Hp h₁ (p :: cs) h) : Hp h₁ cs h := H.sub (List.sublist_cons_self ..)
theorem Hp.perm {h₁ h : Heap} {cs cs' : Cels} (H : Hp h₁ cs h) (s : cs.Perm cs') : Hp h₁ cs' h :=
  ⟨H.old, fun p m => H.cel p (s.mem_iff.mpr m), (s.map (·.1)).nodup H.nod⟩
/-- another word for a cell -/
theorem Hp.weak {h₁ h : Heap} {cs cs' : Cels} {a : Addr} {c c' : Cel} (H : Hp h₁ cs h) (u : Upd a c c' cs cs') (i : ∀ o, c o → c' o) : Hp h₁ cs' h :=
  H.chg u (fun _ _ _ e => e) (let ⟨o, e, q⟩ := H.get u.mem; ⟨o, e, i o q⟩)

/-- the whole state -/
structure Sh (h₁ : Heap) (os : OsState) (cs : Cels) (G : Array GenState) (s : Shared) : Prop where
  hp : Hp h₁ cs s.heap
  gens : s.gens = G
  os : s.os = os

section
variable {h₁ : Heap} {os : OsState} {cs cs' : Cels} {G : Array GenState} {s : Shared}
theorem Sh.toks (B : Sh h₁ os cs G s) (t : Nat) : Sh h₁ os cs G { s with toks := t } := ⟨B.hp, B.gens, B.os⟩
theorem Sh.heap {h : Heap} (B : Sh h₁ os cs G s) (H : Hp h₁ cs' h) (t : Nat) : Sh h₁ os cs' G { s with heap := h, toks := t } := ⟨H, B.gens, B.os⟩
theorem Sh.heap' {h : Heap} (B : Sh h₁ os cs G s) (H : Hp h₁ cs' h) : Sh h₁ os cs' G { s with heap := h } := ⟨H, B.gens, B.os⟩
theorem Sh.fr {L : Addr} {m : Str → Option Value} (B : Sh h₁ os cs G s) (hL : h₁.objs.size ≤ L) (i : (L, nsP m) ∈ cs) : Fr h₁ L s.heap m := ⟨(B.hp.get i).ns, B.hp.old, hL⟩
theorem Sh.sub (B : Sh h₁ os cs G s) (u : cs'.Sublist cs) : Sh h₁ os cs' G s := ⟨B.hp.sub u, B.gens, B.os⟩
theorem Sh.drop {p : Addr × Cel} (B : Sh h₁ os (p :: cs) G s) : Sh h₁ os cs G s := ⟨B.hp.drop, B.gens, B.os⟩
theorem Sh.perm (B : Sh h₁ os cs G s) (u : cs.Perm cs') : Sh h₁ os cs' G s := ⟨B.hp.perm u, B.gens, B.os⟩
theorem Sh.get {a : Addr} {c : Cel} (B : Sh h₁ os cs G s) (m : (a, c) ∈ cs) : Pt s.heap a c := B.hp.get m
end

end Mine
end
section
open PySem PySem.W PyProof.Rows
namespace Mine

theorem seqIndex_of {k : Int} {n : Nat} (h0 : 0 ≤ k) (hk : k.toNat < n) : seqIndex? k n = some k.toNat := by
  unfold seqIndex?
  have e : (if k < 0 then k + (n : Int) else k) = k := if_neg (by omega)
  simp only [e]
  rw [if_pos]
  simp only [Bool.and_eq_true, decide_eq_true_eq]
  omega

section
variable {prog : Program} {w : World} {A : Around} {E : Value → Shared → Prop} {s : Shared} {h₁ : Heap} {os : OsState} {cs r r' : Cels} {G : Array GenState}
  {name : Str} {sc : Scope} {L f : Addr} {cd : Value} {m m' mg mb : Str → Option Value}

/-- a local name -/
theorem r_ld {M : Model} {x : Str} {pos : Pos} {v : Value} {Q : Value → Shared → Prop} (B : Sh h₁ os ((L, nsP m) :: r) G s) (hv : m x = some v) (h : Q v s)
    (hk : sc.kind = .function := by first | rfl | decide +kernel) (hl : sc.names.lookup x = some .local := by first | rfl | decide +kernel) (hd : (x == ("__debug__" : Str)) = false := by decide +kernel) :
    wpAny M A (eval (.Name x pos) (envOf name sc L f cd)) Q E s :=
  wpAny_Name (wpAny_loadName_local hk hl (B.get (.head _)).ns hv h) hd
theorem r_ldn {M : Model} {x : Str} {v : Value} {Q : Value → Shared → Prop} (B : Sh h₁ os ((L, nsP m) :: r) G s) (hv : m x = some v) (h : Q v s)
    (hk : sc.kind = .function := by first | rfl | decide +kernel) (hl : sc.names.lookup x = some .local := by first | rfl | decide +kernel) :
    wpAny M A (loadName (envOf name sc L f cd) x) Q E s := wpAny_loadName_local hk hl (B.get (.head _)).ns hv h
/-- a name of the module -/
theorem r_gl {M : Model} {x : Str} {pos : Pos} {v : Value} {Q : Value → Shared → Prop} (B : Sh h₁ os cs G s) (hg : h₁.Ns mainGlobals mg) (hv : mg x = some v) (h : Q v s)
    (hk : sc.kind = .function := by first | rfl | decide +kernel) (hl : sc.names.lookup x = some .globalImplicit := by first | rfl | decide +kernel) (hd : (x == ("__debug__" : Str)) = false := by decide +kernel) :
    wpAny M A (eval (.Name x pos) (envOf name sc L f cd)) Q E s :=
  Calls.Name_function_global hk hl (Calls.loadGlobal_global (env := envOf name sc L f cd) (hg.keeps B.hp.old) hv h) hd
/-- a built-in's name -/
theorem r_bi {M : Model} {x : Str} {pos : Pos} {v : Value} {Q : Value → Shared → Prop} (B : Sh h₁ os cs G s) (hg : h₁.Ns mainGlobals mg) (hn : mg x = none) (hb : h₁.Ns builtinsNs mb) (hv : mb x = some v) (h : Q v s)
    (hk : sc.kind = .function := by first | rfl | decide +kernel) (hl : sc.names.lookup x = some .globalImplicit := by first | rfl | decide +kernel) (hd : (x == ("__debug__" : Str)) = false := by decide +kernel) :
    wpAny M A (eval (.Name x pos) (envOf name sc L f cd)) Q E s :=
  Calls.Name_function_global hk hl (Calls.loadGlobal_builtin (env := envOf name sc L f cd) (hg.keeps B.hp.old) hn (hb.keeps B.hp.old) hv h) hd
/-- a local name is stored -/
theorem r_st {M : Model} {x : Str} {v : Value} {Q : Unit → Shared → Prop} (B : Sh h₁ os ((L, nsP m) :: r) G s) (hm : (fun y => if y = x then some v else m y) = m')
    (h : ∀ s', Sh h₁ os ((L, nsP m') :: r) G s' → Q () s')
    (hk : sc.kind = .function := by first | rfl | decide +kernel) (hl : sc.names.lookup x = some .local := by first | rfl | decide +kernel) :
    wpAny M A (storeName (envOf name sc L f cd) x v) Q E s :=
  wpAny_storeName_local hl (B.get (.head _)).ns (fun h' hn hs => h _ (B.heap (B.hp.chgS .here hs (hm ▸ Pt.ofNs hn)) _))
    (by show (sc.kind == .class || (sc.kind == .module && L != mainGlobals)) = false; rw [hk]; rfl)

theorem r_int {M : Model} {env : Env} {i : Int} {k : Nat} {pos : Pos} {Q : Value → Shared → Prop} (B : Sh h₁ os cs G s) (h : ∀ t s', Sh h₁ os cs G s' → Q (.int i t) s') :
    wpAny M A (eval (.Constant (.int i) k pos) env) Q E s := wpAny_Constant_int (h _ _ (B.toks _))
theorem r_str {M : Model} {env : Env} {x : Str} {k : Nat} {pos : Pos} {Q : Value → Shared → Prop} (B : Sh h₁ os cs G s) (h : ∀ t s', Sh h₁ os cs G s' → Q (.str x t) s') :
    wpAny M A (eval (.Constant (.str x) k pos) env) Q E s := Calls.Constant_str (h _ _ (B.toks _))
theorem r_bool {M : Model} {env : Env} {b : Bool} {k : Nat} {pos : Pos} {Q : Value → Shared → Prop} (h : Q (.bool b) s) : wpAny M A (eval (.Constant (.bool b) k pos) env) Q E s := fun _ _ _ => h
theorem r_none {M : Model} {env : Env} {k : Nat} {pos : Pos} {Q : Value → Shared → Prop} (h : Q .none s) : wpAny M A (eval (.Constant .none k pos) env) Q E s := fun _ _ _ => h

theorem r_add {a b : Int} {t u : Tok} {Q : Value → Shared → Prop} (B : Sh h₁ os cs G s) (h : ∀ t s', Sh h₁ os cs G s' → Q (.int (a + b) t) s') :
    wpAny (model prog w) A (binaryOp .Add (.int a t) (.int b u)) Q E s := add_int (h _ _ (B.toks _))
theorem r_sub {a b : Int} {t u : Tok} {Q : Value → Shared → Prop} (B : Sh h₁ os cs G s) (h : ∀ t s', Sh h₁ os cs G s' → Q (.int (a - b) t) s') :
    wpAny (model prog w) A (binaryOp .Sub (.int a t) (.int b u)) Q E s := sub_int (h _ _ (B.toks _))
theorem r_mod {a b : Int} {t u : Tok} {Q : Value → Shared → Prop} (B : Sh h₁ os cs G s) (hb : b ≠ 0) (h : ∀ t s', Sh h₁ os cs G s' → Q (.int (a.fmod b) t) s') :
    wpAny (model prog w) A (binaryOp .Mod (.int a t) (.int b u)) Q E s := mod_int' hb (h _ _ (B.toks _))
theorem r_fdiv {a b : Int} {t u : Tok} {Q : Value → Shared → Prop} (B : Sh h₁ os cs G s) (hb : b ≠ 0) (hp : Builtin.divisionGoesByPylong a b = false) (h : ∀ t s', Sh h₁ os cs G s' → Q (.int (a.fdiv b) t) s') :
    wpAny (model prog w) A (binaryOp .FloorDiv (.int a t) (.int b u)) Q E s := floordiv_int hb (h _ _ (B.toks _)) (.inl hp)
theorem r_abs {a : Int} {t : Tok} {Q : Value → Shared → Prop} (B : Sh h₁ os cs G s) (h : ∀ t s', Sh h₁ os cs G s' → Q (.int (if a < 0 then -a else a) t) s') :
    wpAny (model prog w) A (call (.builtin "abs") [.int a t]) Q E s := call_abs_int fun u tk => h u _ (B.toks tk)
theorem r_len {a : Addr} {vs : List Value} {Q : Value → Shared → Prop} (B : Sh h₁ os cs G s) (i : (a, lstP vs) ∈ cs) (hz : vs.length < 2 ^ 63) (h : ∀ t s', Sh h₁ os cs G s' → Q (.int vs.length t) s') :
    wpAny (model prog w) A (call (.builtin "len") [.ref a]) Q E s :=
  len_list (B.get i).lst (by simpa using (by exact_mod_cast hz : ((vs.length : Nat) : Int) < 2 ^ 63)) (by rw [List.size_toArray]; exact h _ _ (B.toks _))
theorem r_newList {M : Model} {vs : List Value} {Q : Value → Shared → Prop} (B : Sh h₁ os ((L, nsP m) :: r) G s) (h : ∀ a s', Sh h₁ os ((L, nsP m) :: (a, lstP vs) :: r) G s' → Q (.ref a) s') (hz : vs.length ≤ sizeLine := by size_fits) :
    wpAny M A (newList vs) Q E s :=
  wpAny_newList (h _ _ ((B.heap' (B.hp.push rfl ⟨0, rfl⟩)).perm (.swap ..))) hz
theorem r_newTuple {M : Model} {vs : List Value} {Q : Value → Shared → Prop} (B : Sh h₁ os ((L, nsP m) :: r) G s) (h : ∀ a s', Sh h₁ os ((L, nsP m) :: (a, tupP vs) :: r) G s' → Q (.ref a) s') (hz : vs.length ≤ sizeLine := by size_fits) :
    wpAny M A (newTuple vs) Q E s :=
  wpAny_newTuple (h _ _ ((B.heap' (B.hp.push rfl ⟨0, rfl⟩)).perm (.swap ..))) hz
theorem r_getItem {a : Addr} {vs : List Value} {k : Int} {t : Tok} {x : Value} {Q : Value → Shared → Prop} (B : Sh h₁ os cs G s) (i : (a, lstP vs) ∈ cs) (h0 : 0 ≤ k) (hk : k < 2 ^ 63) (hx : vs[k.toNat]? = some x) (h : Q x s) :
    wpAny (model prog w) A (getItem (.ref a) (.int k t)) Q E s := getItem_listL (B.get i).lst h0 hk hx h
theorem r_item {value slice : PySem.Expr} {a : Addr} {vs : List Value} {k : Int} {t : Tok} {x : Value} {Q : Value → Shared → Prop} (B : Sh h₁ os cs G s) (i : (a, lstP vs) ∈ cs) (h0 : 0 ≤ k) (hk : k < 2 ^ 63) (hx : vs[k.toNat]? = some x) (h : Q x s)
    (hs : subscripted slice false (.ref a) (.int k t) = operate [.ref a, .int k t] (getItem (.ref a) (.int k t)) := by with_unfolding_all rfl) :
    wpAny (model prog w) A (subscriptTail value slice (.ref a) (.int k t)) Q E s :=
  tail_any (B.get i).lst.typeIs slot_list_getitem.lookup (r_getItem B i h0 hk hx h) hs
theorem r_itemT {value slice : PySem.Expr} {a : Addr} {vs : List Value} {k : Int} {t : Tok} {x : Value} {Q : Value → Shared → Prop} (B : Sh h₁ os cs G s) (i : (a, tupP vs) ∈ cs) (h0 : 0 ≤ k) (hk : k < 2 ^ 63) (hx : vs[k.toNat]? = some x) (h : Q x s)
    (hs : subscripted slice false (.ref a) (.int k t) = operate [.ref a, .int k t] (getItem (.ref a) (.int k t)) := by with_unfolding_all rfl) :
    wpAny (model prog w) A (subscriptTail value slice (.ref a) (.int k t)) Q E s := by
  have hlt : k.toNat < vs.length := (List.getElem?_eq_some_iff.mp hx).1
  refine item_tupleT (B.get i).tup' (by omega) hk (j := k.toNat) ?_ hx h hs
  exact seqIndex_of h0 hlt
theorem r_append {a : Addr} {vs : List Value} {x : Value} {Q : Value → Shared → Prop} (B : Sh h₁ os cs G s) (u : Upd a (lstP vs) (lstP (vs ++ [x])) cs r) (hz : vs.length ≤ sizeLine) (h : ∀ s', Sh h₁ os r G s' → Q .none s') :
    wpAny (model prog w) A (call (.builtin "list.append") [.ref a, x]) Q E s := by
  have hl := (B.get u.mem).lst
  obtain ⟨o, ho, n, rfl⟩ := B.get u.mem
  refine wpAny_call_entry slot_list_append hl.typeIs entry_list_append ?_ (args_list_append _ _)
  show wpAny _ _ (updateSeq a (·.push x) >>= fun _ => ret .none) _ _ s
  refine wpAny_bind (wpAny_updateSeq ho rfl (wpAny_pure ⟨.none, rfl, h _ (B.heap' (B.hp.chgS u (Heap.SameBut.update ..) ⟨_, Heap.get?_update_self _ ho rfl, ?_⟩))⟩) (by simpa using hz) (by simp; omega))
  exact ⟨_, by simp only [Obj.mapSeq, List.push_toArray]; rfl⟩
theorem r_setItem {a : Addr} {vs : List Value} {k : Int} {t : Tok} {x : Value} {Q : Unit → Shared → Prop} (B : Sh h₁ os cs G s) (u : Upd a (lstP vs) (lstP (vs.set k.toNat x)) cs r) (h0 : 0 ≤ k) (hk : k < 2 ^ 63) (hz : k < vs.length)
    (h : ∀ s', Sh h₁ os r G s' → Q () s') : wpAny (model prog w) A (setItem (.ref a) (.int k t) x) Q E s := by
  have hl := (B.get u.mem).lst
  obtain ⟨o, ho, n, rfl⟩ := B.get u.mem
  unfold setItem
  try with_reducible refine wpAny_holding ?_
  first | refine wpAny_bind (wpAny_pure ?_) | skip
  refine wpAny_bind (wpAny_sequenceKey hl.typeIs (by decide) ?_)
  refine wpAny_bind (wpAny_callSpecial?_slot (name := Str.ofString "__setitem__") hl.typeIs slot_list_setitem
    (wpAny_call_entry slot_list_setitem hl.typeIs entry_list_setitem ?_ (args_list_setitem _ _ _)))
  show wpAny _ _ (Builtin.List.listSubscript? (.int k t) >>= _) _ _ s
  refine wpAny_bind (wpAny_listSubscript_int (fitsIndex_of h0 hk) ?_)
  obtain ⟨j, rfl⟩ := Int.eq_ofNat_of_zero_le h0
  have hj : j < vs.length := by omega
  show wpAny _ _ ((seqItemAt a j >>= fun r => pure (r.map (j, ·))) >>= _) _ _ s
  refine wpAny_bind (wpAny_bind (wpAny_seqItemAt ho rfl (wpAny_pure ?_)))
  rw [show vs.toArray[j]? = some vs[j] by simp [hj]]
  show wpAny _ _ (setSeqItemAt a j x >>= _) _ _ s
  refine wpAny_bind (wpAny_setSeqItemAt ho rfl ?_)
  have fin : Q () { s with heap := s.heap.update a (Obj.mapSeq (·.setIfInBounds j x)) } :=
    h _ (B.heap' (B.hp.chgS u (Heap.SameBut.update ..) ⟨_, Heap.get?_update_self _ ho rfl, _, by simp only [Obj.mapSeq, List.setIfInBounds_toArray]; rfl⟩))
  first
    | exact wpAny_bind (wpAny_pure (wpAny_pure ⟨.none, rfl, wpAny_pure fin⟩))
    | exact wpAny_pure ⟨.none, rfl, wpAny_pure fin⟩
/-- pop at a place -/
theorem r_pop {a : Addr} {vs : List Value} {k : Int} {t : Tok} {x : Value} {Q : Value → Shared → Prop} (B : Sh h₁ os cs G s) (u : Upd a (lstP vs) (lstP (vs.eraseIdx k.toNat)) cs r) (h0 : 0 ≤ k) (hk : k < 2 ^ 63) (hx : vs[k.toNat]? = some x) (hz : vs.length ≤ sizeLine)
    (h : ∀ s', Sh h₁ os r G s' → Q x s') : wpAny (model prog w) A (call (.builtin "list.pop") [.ref a, .int k t]) Q E s := by
  have hl := (B.get u.mem).lst
  obtain ⟨o, ho, n, rfl⟩ := B.get u.mem
  have hlt : k.toNat < vs.length := (List.getElem?_eq_some_iff.mp hx).1
  refine call_meets F.slot_list_pop hl.typeIs F.entry_list_pop (F.args_list_pop_2 _ _) (MeetsSeq.list_pop_at a _ n k t k.toNat x (fitsIndex_of h0 hk) (by rw [List.size_toArray]; exact seqIndex_of h0 hlt) (by simpa using hx) (by simpa using hz))
    ⟨ho, h _ (B.heap' (B.hp.chgS u (Heap.SameBut.update ..) ⟨_, Heap.get?_update_self _ ho rfl, ?_⟩))⟩
  exact ⟨_, by simp only [Obj.mapSeq, List.eraseIdxIfInBounds_toArray]; rfl⟩
end

/-- a plain def of the module -/
structure Fn (h₁ : Heap) (f : Addr) (name : Str) (pr : Arguments) (bd : List Stmt) (sc : Scope) (cd : Value) : Prop where
  ex : ∃ o pm doc, h₁.get? f = some o ∧ o.data = .func (Calls.docDef name pr bd sc pm cd doc)
  code : h₁.CodeRec cd name
  lim : h₁.NoLimit

theorem call_fn {prog : Program} {w : World} {A : Around} {R : Result → Shared → Prop} {s : Shared} {h₁ : Heap} {os : OsState} {cs : Cels} {G : Array GenState} {name : Str} {pr : Arguments} {bd : List Stmt} {sc : Scope} {f : Addr} {cd : Value}
    {args : List Value} {binds : List (Str × Value)} {m : Str → Option Value}
    (F : Fn h₁ f name pr bd sc cd) (B : Sh h₁ os cs G s) (hroom : A.depth < recursionLimit)
    (hbind : ∀ pm doc, bindArgs (Calls.docDef name pr bd sc pm cd doc) ⟨args, []⟩ = pure binds)
    (hloc : ∀ x ∈ binds, sc.names.lookup x.1 = some .local)
    (hm : (fun x => binds.reverse.lookup x) = m)
    (h : ∀ L s', Sh h₁ os ((L, nsP m) :: cs) G s' → wpAny (model prog w) (A.deeper (envOf name sc L f cd)) (execs bd (envOf name sc L f cd))
      (fun fl s'' => R (.ok (.ret (match fl with | .ret v => v | _ => .none))) s'')
      (fun e s'' => wpAny (model prog w) (A.deeper (envOf name sc L f cd)) (leaving (envOf name sc L f cd) e) (fun _ s₃ => R (.error e) s₃) (fun e' s₃ => R (.error e') s₃) s'') s')
    (hco : sc.isCoroutine = false) (hgen : sc.isGenerator = false) (hk : sc.kind = .function)
    (hcell : ∀ x ∈ sc.names, x.2 ≠ .cell) :
    codeAny (model prog w) A (.call (.ref f) ⟨args, []⟩) R s := by
  obtain ⟨o, pm, doc, ho, hd⟩ := F.ex
  refine call_plain hroom (B.hp.old _ _ ho) hd (F.lim.keeps B.hp.old) (F.code.keeps B.hp.old) (hbind pm doc) hloc (fun h' F' => h _ _ ?_) hco hgen hk hcell
  exact B.heap (B.hp.new F'.keep (hm ▸ Pt.ofNs F'.ns) (Nat.le_refl _)) _
end Mine
end
section
open PySem PySem.W PyProof.Rows
namespace Mine
/-- a frame's names, the newest first -/
def frm (l : List (Str × Value)) : Str → Option Value := fun y => l.lookup y
theorem frm_put (l : List (Str × Value)) (x : Str) (v : Value) : (fun y => if y = x then some v else frm l y) = frm ((x, v) :: l) := by
  funext y
  unfold frm
  rw [List.lookup_cons]
  by_cases h : y = x
  · subst h; simp
  · have : (y == x) = false := by simpa using h
    simp [h, this]
section
variable {prog : Program} {w : World} {A : Around} {E : Value → Shared → Prop} {s : Shared} {h₁ : Heap} {os : OsState} {cs r r' : Cels} {G : Array GenState}
  {name : Str} {sc : Scope} {L f : Addr} {cd : Value} {l : List (Str × Value)}
theorem r_set {M : Model} {x : Str} {v : Value} {Q : Unit → Shared → Prop} (B : Sh h₁ os ((L, nsP (frm l)) :: r) G s)
    (h : ∀ s', Sh h₁ os ((L, nsP (frm ((x, v) :: l))) :: r) G s' → Q () s')
    (hk : sc.kind = .function := by first | rfl | decide +kernel) (hl : sc.names.lookup x = some .local := by first | rfl | decide +kernel) :
    wpAny M A (storeName (envOf name sc L f cd) x v) Q E s := r_st B (frm_put ..) h hk hl
end
end Mine
namespace Mine
section
variable {prog : Program} {w : World} {A : Around} {E : Value → Shared → Prop} {s : Shared} {h₁ : Heap} {os : OsState} {cs r r' : Cels} {G : Array GenState}
  {L f : Addr} {cd : Value}
theorem Fn.fn {name : Str} {pr : Arguments} {bd : List Stmt} {sc : Scope} (F : Fn h₁ f name pr bd sc cd) : ∃ o fd, h₁.get? f = some o ∧ o.data = .func fd := let ⟨o, _, _, a, b⟩ := F.ex; ⟨o, _, a, b⟩
/-- a call of a def by its name -/
theorem r_callFn {M : Model} {env : Env} {pos : Pos} {e : PySem.Expr} {rest : List PySem.Expr} {Q : Value → Shared → Prop} (F : ∃ o fd, h₁.get? f = some o ∧ o.data = .func fd)
    (h : wpAny M A (spliced (backTo pos (starEach (e :: rest) env))) (fun vs s₁ => (∃ os cs G, Sh h₁ os cs G s₁) ∧ wpAny M A (call (.ref f) vs) Q E s₁) E s)
    (he : starEach (e :: rest) env = (false, eval e env) :: starEach rest env := by rfl) (hplain : (backTo pos (starEach rest env)).any (·.1) = false := by rfl) :
    wpAny M A (callWith pos (.ref f) [] (backTo pos (starEach (e :: rest) env)) []) Q E s := by
  obtain ⟨⟨c, d, dt, sl⟩, fd, ho, hd⟩ := F
  dsimp only at hd
  subst hd
  rw [he] at h ⊢
  refine callWith_of (P := fun h => h.get? f = some ⟨c, d, .func fd, sl⟩) (by show ((false || (backTo pos (starEach rest env)).any (·.1)) || false) = false; rw [hplain]; rfl)
    (fun h X => ⟨.frame, .inl rfl, (Looks.ld (part := none) X).andThen .now⟩) (PySem.Calls.evalArgs_plain (wpAny_mono h (fun vs s₁ h₁ => ?_) fun _ _ x => x))
  obtain ⟨⟨_, _, _, B⟩, h₁⟩ := h₁
  exact ⟨B.hp.old _ _ ho, h₁⟩
theorem r_strInt {a : Int} {t : Tok} {Q : Value → Shared → Prop} (B : Sh h₁ os cs G s) (ha : a.natAbs.log2 < 1920) (h : ∀ t s', Sh h₁ os cs G s' → Q (.str (toString a) t) s') :
    wpAny (model prog w) A (call (.type "str") [.int a t]) Q E s := P.str_of_int ha (h _ _ (B.toks _))
theorem r_neg {a : Int} {t : Tok} {Q : Value → Shared → Prop} (B : Sh h₁ os cs G s) (h : ∀ t s', Sh h₁ os cs G s' → Q (.int (-a) t) s') :
    wpAny (model prog w) A (unaryOp .USub (.int a t)) Q E s := neg_int (h _ _ (B.toks _))
end
/-- what the law's top has -/
structure Tp (glV biV : List (Str × Value)) (h₁ : Heap) (mg mb : Str → Option Value) : Prop where
  g : h₁.Ns mainGlobals mg
  b : h₁.Ns builtinsNs mb
  lim : h₁.NoLimit
  gl : ∀ x v, glV.lookup x = some v → mg x = some v
  bi : ∀ x v, biV.lookup x = some v → mg x = none ∧ mb x = some v
section
variable {M : Model} {A : Around} {E : Value → Shared → Prop} {s : Shared} {h₁ : Heap} {os : OsState} {cs : Cels} {G : Array GenState}
  {L f : Addr} {cd : Value} {name : Str} {sc : Scope} {glV biV : List (Str × Value)} {mg mb : Str → Option Value} {x : Str} {pos : Pos} {v : Value} {Q : Value → Shared → Prop}
theorem t_gl (T : Tp glV biV h₁ mg mb) (B : Sh h₁ os cs G s) (hv : glV.lookup x = some v) (hl : sc.names.lookup x = some .globalImplicit) (hk : sc.kind = .function) (hd : (x == ("__debug__" : Str)) = false) (h : Q v s) :
    wpAny M A (eval (.Name x pos) (envOf name sc L f cd)) Q E s := r_gl B T.g (T.gl x v hv) h hk hl hd
theorem t_bi (T : Tp glV biV h₁ mg mb) (B : Sh h₁ os cs G s) (hv : biV.lookup x = some v) (hl : sc.names.lookup x = some .globalImplicit) (hk : sc.kind = .function) (hd : (x == ("__debug__" : Str)) = false) (h : Q v s) :
    wpAny M A (eval (.Name x pos) (envOf name sc L f cd)) Q E s := r_bi B T.g (T.bi x v hv).1 T.b (T.bi x v hv).2 h hk hl hd
theorem t_ld {m : Str → Option Value} {r : Cels} (B : Sh h₁ os ((L, nsP m) :: r) G s) (hv : m x = some v) (hl : sc.names.lookup x = some .local) (hk : sc.kind = .function) (hd : (x == ("__debug__" : Str)) = false) (h : Q v s) :
    wpAny M A (eval (.Name x pos) (envOf name sc L f cd)) Q E s := r_ld B hv h hk hl hd
end
end Mine
end
section
open PySem PySem.W PyProof.Rows
open PySem.Sem (wp)
namespace Mine
variable {M : Model}

/-- a stretch of a generator's run, from a tree over frames to its next end -/
def Sg (M : Model) (A : Around) (Φ : End → Shared → Prop) (c : Code) (t : Sem PySem.Fin) (fs : List Frame) (s : Shared) : Prop :=
  ∀ Γ p, Γ.code = c → Γ.Woken A → ∃ e s', Runs M Γ p t fs s e s' ∧ Φ e s'

section
variable {A : Around} {Φ : End → Shared → Prop} {c : Code} {fs : List Frame} {s : Shared}
theorem sg_wrap {α : Type} {m : Sem α} {K : α → Sem PySem.Fin} {H : Value → Sem PySem.Fin} {gd lv}
    (h : wpAny M (A.over c fs) m (fun a s' => Sg M A Φ c (K a) fs s') (fun x s' => Sg M A Φ c (H x) fs s') s) : Sg M A Φ c (m.wrap K H gd lv) fs s := by
  rintro Γ p rfl hΓ
  exact runs_wrap_of_wp K H gd lv m (h (Γ.over fs) p (hΓ.over fs)) (fun a p' s' h' => h' Γ p' rfl hΓ) (fun x p' s' h' => h' Γ p' rfl hΓ)
theorem sg_bw {α β : Type} {m : Sem α} {k : α → Sem β} {K : β → Sem PySem.Fin} {H : Value → Sem PySem.Fin} {gd lv}
    (h : wpAny M (A.over c fs) m (fun a s' => Sg M A Φ c ((k a).wrap K H gd lv) fs s') (fun x s' => Sg M A Φ c (H x) fs s') s) : Sg M A Φ c ((m >>= k).wrap K H gd lv) fs s := by
  rw [Sem.bind_eq_wrap', Sem.wrap_wrap]; exact sg_wrap h
theorem sg_bind {α : Type} {m : Sem α} {K : α → Sem PySem.Fin}
    (h : wpAny M (A.over c fs) m (fun a s' => Sg M A Φ c (K a) fs s') (fun x s' => Sg M A Φ c (.raise x) fs s') s) : Sg M A Φ c (m >>= K) fs s := by
  rw [Sem.bind_eq_wrap']; exact sg_wrap h
theorem sg_at {p' : Pos} {k : Unit → Sem PySem.Fin} (h : Sg M A Φ c (k ()) fs s) : Sg M A Φ c (.at p' k) fs s :=
  sg_wrap (m := standAt p') (K := k) (H := .raise) (gd := id) (lv := id) (wpAny_standAt h)
theorem sg_point {l : List Value} {k : Unit → Sem PySem.Fin} (h : Sg M A Φ c (k ()) fs s) : Sg M A Φ c (.point l k) fs s :=
  sg_wrap (m := point) (K := k) (H := .raise) (gd := id) (lv := fun _ => l) (wpAny_point h)
theorem sg_call {c' : Code} {h g l} {k : Result → Sem PySem.Fin} (hc : ∀ p, Sg M A Φ c' (M.den c') (.ret k h g l c p [] :: fs) s) : Sg M A Φ c (.call c' h g l k) fs s := by
  rintro Γ p rfl hΓ
  obtain ⟨e, s', hr, he⟩ := hc p (Γ.goto c') p rfl (hΓ.goto c')
  exact ⟨e, s', runs_call_seg hr, he⟩
theorem sg_leaf {k h g l c₁ p₁ kp} (r : Result) (hk : Sg M A Φ c₁ (k r) fs s) : Sg M A Φ c (leafOf r) (.ret k h g l c₁ p₁ kp :: fs) s := by
  rintro Γ p rfl hΓ
  obtain ⟨e, s', hr, he⟩ := hk (Γ.goto c₁) p₁ rfl (hΓ.goto c₁)
  exact ⟨e, s', Runs.pop r hr, he⟩
theorem sg_again {c' : Code} (hq : c'.quiet = true) (hc : Sg M A Φ c' (M.den c') fs s) : Sg M A Φ c (.pure (.again c')) fs s := by
  rintro Γ p rfl hΓ
  obtain ⟨e, s', hr, he⟩ := hc (Γ.goto c') p rfl (hΓ.goto c')
  exact ⟨e, s', Runs.head (c₁ := c') (fun _ _ x => .again hq x) hr, he⟩
theorem sg_end (r : Result) (h : Φ (.ret r) s) : Sg M A Φ c (leafOf r) [] s := by
  rintro Γ p rfl _
  exact ⟨.ret r, s, Runs.leaf r, h⟩
theorem sg_yield {v g l} {k : Resume → Sem PySem.Fin} (hfs : splitAtGen fs = none) (h : ∀ p, Φ (.susp v g l k c p fs) s) : Sg M A Φ c (.yield v g l k) fs s := by
  rintro Γ p rfl _
  exact ⟨_, s, Runs.yield' fs hfs, h p⟩
theorem sg_mono {Φ' : End → Shared → Prop} {t : Sem PySem.Fin} (h : Sg M A Φ c t fs s) (i : ∀ e s', Φ e s' → Φ' e s') : Sg M A Φ' c t fs s := fun Γ p hc hΓ =>
  let ⟨e, s', hr, he⟩ := h Γ p hc hΓ; ⟨e, s', hr, i e s' he⟩
end

/-- a generator's state that will go on as the code c over the frames fs -/
def Ready (M : Model) (c : Code) (fs : List Frame) (gs : GenState) : Prop :=
  ∃ k l p, gs = .suspended k l c p fs false ∧ ∀ A Φ s, Sg M A Φ c (M.den c) fs s → Sg M A Φ c (k (.send .none)) fs s

/-- what wakes it -/
def Wk (M : Model) (A : Around) (Φ : End → Shared → Prop) (gs : GenState) (s : Shared) : Prop :=
  match gs with
  | .fresh c => Sg M A Φ c (M.den c) [] s
  | .suspended k _ c _ fs _ => Sg M A Φ c (k (.send .none)) fs s
  | _ => False
theorem Ready.wk {A : Around} {Φ : End → Shared → Prop} {c : Code} {fs : List Frame} {gs : GenState} {s : Shared} (R : Ready M c fs gs) (h : Sg M A Φ c (M.den c) fs s) : Wk M A Φ gs s := by
  obtain ⟨k, l, p, rfl, i⟩ := R
  exact i A Φ s h

theorem resume_wk {A : Around} {Φ : End → Shared → Prop} {E : Value → Shared → Prop} {s : Shared} {g : Nat} {gs : GenState} {l : List Value} {α : Type} {k : GenResult → Sem α} {Q : α → Shared → Prop} (hg : s.gens[g]? = some gs)
    (hw : Wk M A Φ gs (s.setGen g .running))
    (hΦ : ∀ e s₁, Φ e s₁ → e.quiet = true ∧ wpAny M A (k e.result) Q E (s₁.setGen g e.genState)) :
    wpAny M A (.resume g (.send .none) l k) Q E s := by
  intro Γ p hΓ
  rw [Sem.wp_resume]
  have hB : ∀ c, (Γ.wake c p).Woken A := fun c => hΓ.wake c p
  cases gs with
  | fresh c =>
    obtain ⟨e, s₁, hr, he⟩ := hw (Γ.wake c p) p rfl (hB c)
    exact ⟨_, _, by unfold Wakes; rw [hg]; exact ⟨e, s₁, hr, (hΦ e s₁ he).1, rfl, rfl⟩, (hΦ e s₁ he).2 Γ p hΓ⟩
  | suspended k₀ l₀ c₀ p₀ fs₀ cl =>
    obtain ⟨e, s₁, hr, he⟩ := hw (Γ.wake c₀ p) p₀ rfl (hB c₀)
    exact ⟨_, _, by unfold Wakes; rw [hg]; exact ⟨e, s₁, hr, (hΦ e s₁ he).1, rfl, rfl⟩, (hΦ e s₁ he).2 Γ p hΓ⟩
  | running => exact hw.elim
  | finished => exact hw.elim

end Mine
end
section
open PySem PySem.W PyProof.Rows
namespace Mine

section
variable {prog : Program} {w : World} {A : Around} {Φ : End → Shared → Prop} {fs : List Frame} {s : Shared} {env : Env} {c : Code}
  {K : Flow → Sem PySem.Fin} {H : Value → Sem PySem.Fin} {gd : Bool → Bool} {lv : List Value → List Value}

theorem sg_execs_nil {M : Model} (h : Sg M A Φ c (K .next) fs s) : Sg M A Φ c ((execs [] env).wrap K H gd lv) fs s := h
theorem sg_execs_cons {M : Model} {st : Stmt} {rest : List Stmt}
    (h : Sg M A Φ c ((exec st env).wrap (fun f => match f with | .next => (execs rest env).wrap K H gd lv | f => K f) H gd lv) fs s) :
    Sg M A Φ c ((execs (st :: rest) env).wrap K H gd lv) fs s := by rw [execs_cons_wrap]; exact h

/-- what an error does on its way out of a loop of the frame -/
def outLoop (env : Env) (e : Value) : Sem PySem.Fin := Sem.bind (do noteFrame e env; theTreesLotGoes e : Sem Unit) fun _ => .raise e
/-- the frame that a loop's call leaves behind -/
def loopK (env : Env) (K : Flow → Sem PySem.Fin) (H : Value → Sem PySem.Fin) (gd : Bool → Bool) (lv : List Value → List Value) : Result → Sem PySem.Fin := fun r =>
  ((match r with | .ok f => (.pure f : Sem Flow) | .error e => .raise e).onRaise fun (x : Value) => do
    if (← field x 1) == Value.none then unsupported "frame.own-activation:exception-without-traceback"
    setFlight x env.frame).wrap K H gd lv

theorem sg_For {M : Model} {target iter : PySem.Expr} {body orelse : List Stmt} {pos : Pos}
    (h : wpAny M (A.over c fs) (eval iter env) (fun x s₁ => wpAny M (A.over c fs) (pyIter x) (fun it s₂ =>
      ∀ p, Sg M A Φ (.forLoop target it body orelse env) (M.den (.forLoop target it body orelse env)) (.ret (loopK env K H gd lv) none (gd false) (lv []) c p [] :: fs) s₂)
      (fun e s₂ => Sg M A Φ c (H e) fs s₂) s₁) (fun e s₁ => Sg M A Φ c (H e) fs s₁) s)
    (hs : ∀ x, foldedSetIterable iter env x = pure x := by intro _; rfl) :
    Sg M A Φ c ((exec (.For target iter body orelse pos) env).wrap K H gd lv) fs s := by
  rw [exec_For]
  refine sg_bw (wpAny_standAt (sg_bw (wpAny_mono h (fun x s₁ h₁ => sg_bw (wpAny_of_eq (hs x) (sg_bw (wpAny_standAt (sg_bw (wpAny_holding (wpAny_mono h₁ (fun it s₂ h₂ => ?_) fun _ _ e => e))))))) fun _ _ e => e)))
  exact sg_call h₂

theorem sg_forLoop {x : Str} {px : Pos} {it : Value} {body orelse : List Stmt}
    (h : wpAny (model prog w) (A.over (.forLoop (.Name x px) it body orelse env) fs) (pyNext it) (fun r s₁ => match r with
      | none => Sg (model prog w) A Φ (.forLoop (.Name x px) it body orelse env) (.pure (.again (.block orelse env))) fs s₁
      | some v => wpAny (model prog w) (A.over (.forLoop (.Name x px) it body orelse env) fs) (storeName env x v) (fun _ s₂ =>
          Sg (model prog w) A Φ (.forLoop (.Name x px) it body orelse env) ((execs body env).wrap (fun f => match f with
            | .next | .cont => .pure (.again (.forLoop (.Name x px) it body orelse env))
            | .brk => .pure (.done .next)
            | .ret v => .pure (.done (.ret v))) (outLoop env) id id) fs s₂)
          (fun e s₂ => Sg (model prog w) A Φ (.forLoop (.Name x px) it body orelse env) (outLoop env e) fs s₂) s₁)
      (fun e s₁ => Sg (model prog w) A Φ (.forLoop (.Name x px) it body orelse env) (outLoop env e) fs s₁) s) :
    Sg (model prog w) A Φ (.forLoop (.Name x px) it body orelse env) ((model prog w).den (.forLoop (.Name x px) it body orelse env)) fs s := by
  show Sg _ A Φ _ ((forTurn (.Name x px) it body orelse env).onRaise (fun x => do noteFrame x env; theTreesLotGoes x)) fs s
  unfold forTurn
  rw [Sem.onRaise_eq_wrap]
  refine sg_bw (wpAny_standAt (sg_bw (wpAny_onRaise (wpAny_mono h (fun r s₁ h₁ => ?_) fun e s₁ h₁ => wpAny_standAt h₁))))
  cases r with
  | none => exact h₁
  | some v =>
    refine sg_bw (wpAny_of_eq (a := ()) rfl (sg_bw (wpAny_assign_Name (wpAny_mono h₁ (fun _ s₂ h₂ => ?_) fun _ _ e => e))))
    rw [Sem.bind_eq_wrap', Sem.wrap_wrap]
    refine (Sem.wrap_congr (execs body env) _ _ (fun f => ?_) fun e => rfl) ▸ h₂
    cases f <;> rfl

theorem sg_func {body : List Stmt}
    (h : Sg (model prog w) A Φ (.func body env) ((execs body env).wrap (fun f => .pure (.done (.ret (match f with | .ret v => v | _ => .none))))
      (fun e => (leaving env e).wrap (fun _ => .raise e) .raise id id) id id) fs s) :
    Sg (model prog w) A Φ (.func body env) ((model prog w).den (.func body env)) fs s := by
  show Sg _ A Φ _ (.point [] fun _ => ((execs body env).onRaise (leaving env)) >>= _) fs s
  refine sg_point ?_
  rw [Sem.onRaise_eq_wrap, Sem.bind_eq_wrap', Sem.wrap_wrap]
  rw [Sem.wrap_congr (execs body env) _ _ (K' := fun f => .pure (.done (.ret (match f with | .ret v => v | _ => .none))))
    (H' := fun e => (leaving env e).wrap (fun _ => .raise e) .raise id id) (fun f => by cases f <;> rfl)
    (fun e => by rw [Sem.bind_eq_wrap, Sem.wrap_wrap]; rfl)]
  exact h

/-- a yield as a statement, at the end of the loop's body -/
theorem sg_Yield {M : Model} {e : PySem.Expr} {ypos pos : Pos} (hfs : splitAtGen fs = none) (hgd : gd false = false)
    (h : wpAny M (A.over c fs) (eval e env) (fun v s' => ∀ l k p, (∀ A Φ s'', Sg M A Φ c (K .next) fs s'' → Sg M A Φ c (k (.send .none)) fs s'') → Φ (.susp v false l k c p fs) s')
      (fun x s' => Sg M A Φ c (H x) fs s') s) (hco : env.scope.isCoroutine = false := by rfl) (hi : interactive env = false := by rfl) :
    Sg M A Φ c ((exec (.Expr (.Yield (some e) ypos) pos) env).wrap K H gd lv) fs s := by
  rw [exec_Expr env _ pos hi rfl]
  have hy : ∀ v, yieldOut env v = yieldValue v := fun v => by simp only [yieldOut, hco, Bool.false_eq_true, if_false]
  show Sg M A Φ c (.at pos fun _ => ((eval e env >>= fun v => (standAt ypos >>= fun _ => yieldOut env v)) >>= fun x =>
    dropValue (.Yield (some e) ypos) pos x).wrap K H gd lv) fs s
  simp only [hy]
  refine sg_at ?_
  rw [Sem.bind_eq_wrap', Sem.bind_eq_wrap', Sem.wrap_wrap, Sem.wrap_wrap]
  refine sg_wrap (wpAny_mono h (fun v s' h' => ?_) fun _ _ x => x)
  refine sg_at (sg_yield hfs fun p => ?_)
  rw [show ((fun g => gd (id g)) false) = false from hgd]
  exact h' _ _ _ fun A Φ s'' h'' => h''
end
end Mine
end
section
open PySem PySem.W PyProof.Rows
namespace Mine

/-- an exception's object: its class, its arguments, its newest traceback entry -/
def excP (C v0 tb : Value) : Cel := fun o => o.cls = C ∧ o.data = .fields #[v0, tb, .none, .none, .bool false, .none]
/-- a traceback entry, with what flies -/
def tbP (fl : Value) : Cel := fun o => ∃ vs, o.data = .fields vs ∧ vs[3]? = some fl

/-- the frames on the stack are cells -/
def FramesIn (l : List Env) (cs : Cels) : Prop := ∀ env ∈ l, env.scope.kind ≠ .module ∧ ∃ L m, env.frame = some L ∧ (L, nsP m) ∈ cs
theorem FramesIn.nil {cs : Cels} : FramesIn [] cs := fun _ m => (nomatch m)
theorem FramesIn.sub {l : List Env} {cs cs' : Cels} (F : FramesIn l cs) (i : ∀ p ∈ cs, p ∈ cs') : FramesIn l cs' := fun env m =>
  let ⟨a, L, x, b, c⟩ := F env m; ⟨a, L, x, b, i _ c⟩
theorem FramesIn.tail {l : List Env} {cs : Cels} {p : Addr × Cel} (F : FramesIn l cs) : FramesIn l (p :: cs) := F.sub fun _ m => .tail _ m
theorem FramesIn.cons {l : List Env} {cs : Cels} {env : Env} {L : Addr} {m : Str → Option Value} (F : FramesIn l cs) (hk : env.scope.kind ≠ .module) (hf : env.frame = some L) (hm : (L, nsP m) ∈ cs) : FramesIn (env :: l) cs := fun e i => by
  rcases List.mem_cons.mp i with rfl | i
  · exact ⟨hk, L, m, hf, hm⟩
  · exact F e i
/-- a frame's own names turn -/
theorem FramesIn.updNs {l : List Env} {cs cs' : Cels} {a : Addr} {m m' : Str → Option Value} (F : FramesIn l cs) (u : Upd a (nsP m) (nsP m') cs cs') : FramesIn l cs' := fun env i => by
  obtain ⟨k, L, x, b, c⟩ := F env i
  by_cases e : L = a
  · subst e; exact ⟨k, L, m', b, u.mem'⟩
  · exact ⟨k, L, x, b, u.keep c e⟩
/-- another object turns -/
theorem FramesIn.upd {l : List Env} {h₁ h : Heap} {cs cs' : Cels} {a : Addr} {c c' : Cel} (F : FramesIn l cs) (H : Hp h₁ cs h) (u : Upd a c c' cs cs') (hc : ∀ o es ep, c o → o.data ≠ .dict es ep) : FramesIn l cs' := fun env i => by
  obtain ⟨k, L, x, b, d⟩ := F env i
  refine ⟨k, L, x, b, u.keep d fun e => ?_⟩
  have e' : L = a := e
  subst e'
  obtain ⟨o, ho, es, ep, q, _⟩ := H.get d
  obtain ⟨o', ho', q'⟩ := H.get u.mem
  rw [ho] at ho'
  cases ho'
  exact hc o es ep q' q

theorem nodup_same : ∀ {cs : Cels} {a : Addr} {c c' : Cel}, (cs.map (·.1)).Nodup → (a, c) ∈ cs → (a, c') ∈ cs → c = c'
  | p :: r, a, c, c', nd, m, m' => by
    rw [List.map_cons, List.nodup_cons] at nd
    rcases List.mem_cons.mp m with e | n <;> rcases List.mem_cons.mp m' with e' | n'
    · subst e; cases e'; rfl
    · subst e; exact (nd.1 (List.mem_map.mpr ⟨(a, c'), n', rfl⟩)).elim
    · subst e'; exact (nd.1 (List.mem_map.mpr ⟨(a, c), n, rfl⟩)).elim
    · exact nodup_same nd.2 n n'

theorem FramesIn.fun {l : List Env} {h₁ h : Heap} {cs : Cels} (F : FramesIn l cs) (H : Hp h₁ cs h) : h.FunFrames h₁ l := by
  induction l with
  | nil => trivial
  | cons env r ih =>
    obtain ⟨k, L, m, hf, hm⟩ := F env (.head _)
    obtain ⟨o, ho, es, ep, hd, _⟩ := H.get hm
    exact ⟨k, ⟨L, o, hf, H.isNew hm, ho, fun vs e => by rw [hd] at e; cases e⟩, ih fun e i => F e (.tail _ i)⟩

/-- frames that are made ready stay what they are -/
theorem Hp.ready {l : List Env} {h₁ h h' : Heap} {cs : Cels} (H : Hp h₁ cs h) (F : FramesIn l cs) (S : Heap.SlotsOnly (l.filterMap (·.frame)) h h') : Hp h₁ cs h' := by
  have key : ∀ b, b ∈ l.filterMap (·.frame) → ∃ m, (b, nsP m) ∈ cs := fun b hb => by
    obtain ⟨env, he, hf⟩ := List.mem_filterMap.mp hb
    obtain ⟨_, L, m, hf', hm⟩ := F env he
    rw [hf] at hf'; cases hf'; exact ⟨m, hm⟩
  refine ⟨fun b o e => ?_, fun p m => ⟨?_, (H.cel p m).2⟩, H.nod⟩
  · rw [S.2.1 b fun hb => ?_]
    · exact H.old b o e
    · obtain ⟨m, hm⟩ := key b hb
      rw [H.isNew hm] at e; cases e
  · by_cases hb : p.1 ∈ l.filterMap (·.frame)
    · obtain ⟨x, hm⟩ := key _ hb
      have : p.2 = nsP x := nodup_same H.nod (c := p.2) m hm
      rw [this]
      obtain ⟨o, ho, es, ep, hd, q⟩ := H.get hm
      obtain ⟨sl, e⟩ := S.2.2 _ _ ho
      exact ⟨_, e, es, ep, hd, q⟩
    · obtain ⟨o, ho, q⟩ := (H.cel p m).1
      exact ⟨o, by rw [S.2.1 _ hb]; exact ho, q⟩

section
variable {M : Model} {A : Around} {E : Value → Shared → Prop} {s : Shared} {h₁ : Heap} {os : OsState} {cs : Cels} {G : Array GenState} {env : Env} {outer : List Env} {L e : Addr} {C v0 : Value}

/-- an exception in flight: fl tells its newest entry's word -/
def Fly (h₁ : Heap) (os : OsState) (cs : Cels) (G : Array GenState) (e : Addr) (C v0 : Value) (fl : Option Value) (s : Shared) : Prop := match fl with
  | none => Sh h₁ os ((e, excP C v0 .none) :: cs) G s
  | some v => ∃ tb, Sh h₁ os ((e, excP C v0 (.ref tb)) :: (tb, tbP v) :: cs) G s

theorem Fly.sh {fl : Option Value} (F : Fly h₁ os cs G e C v0 fl s) : Sh h₁ os cs G s := by
  cases fl with
  | none => exact Sh.drop F
  | some v => obtain ⟨tb, B⟩ := F; exact B.drop.drop
theorem Fly.exc {fl : Option Value} (F : Fly h₁ os cs G e C v0 fl s) : ∃ tb, Sh h₁ os ((e, excP C v0 tb) :: cs) G s := by
  cases fl with
  | none => exact ⟨_, F⟩
  | some v => obtain ⟨tb, B⟩ := F; exact ⟨_, B.sub (.cons_cons _ (.cons _ (.refl _)))⟩

theorem entry_new {hadNext : Bool} {head : Value} {Q : Unit → Shared → Prop} {tb : Value} (B : Sh h₁ os ((e, excP C v0 tb) :: cs) G s) (hfr : A.frames = some (env :: outer)) (hF : FramesIn (env :: outer) cs) (hf : env.frame = some L)
    (h : ∀ s', Fly h₁ os cs G e C v0 (some (rawInt L)) s' → Q () s') :
    wpAny M A (do let a ← frameOf env; let pl ← entryPlaceOf L hadNext; let b ← EntryCells.newEntry head a .none (rawInt L) .none pl; setField (.ref e) 1 b) Q E s := by
  refine wpAny_bind (wpAny_frameOf_fun hfr (hF.tail.fun B.hp) hf fun h' S => ?_)
  have H' := B.hp.ready hF.tail S
  refine wpAny_bind (wpAny_entryPlaceOf fun pl hpl => ?_)
  unfold EntryCells.newEntry newFields
  refine wpAny_bind (wpAny_newObj_type ?_ (hpl.sizeOk5 _ _ _ _ _))
  have H2 : Hp h₁ ((e, excP C v0 tb) :: (h'.objs.size, tbP (rawInt L)) :: cs) (h'.push _) := (H'.push (c := tbP (rawInt L)) (o := { cls := .type "traceback", data := .fields ([head, .ref L, .none, rawInt L, .none] ++ (if pl.isEmpty then List.replicate 6 Value.none else pl)).toArray }) rfl ⟨_, rfl, by simp⟩).perm (.swap ..)
  obtain ⟨oe, he, hcl, hd⟩ := H2.get (.head _)
  refine wpAny_setField he hd (by simp) (h _ ⟨_, B.heap' (H2.chgS .here (Heap.SameBut.update ..) ⟨_, Heap.get?_update_self _ he (Obj.isFreed_of_fields (Obj.data_mapFields hd _)), (Obj.cls_mapFields ..).trans hcl, ?_⟩)⟩)
  rw [Obj.data_mapFields hd]; rfl

/-- the first entry -/
theorem n_first {Q : Unit → Shared → Prop} (F : Fly h₁ os cs G e C v0 none s) (hfr : A.frames = some (env :: outer)) (hF : FramesIn (env :: outer) cs) (hf : env.frame = some L)
    (h : ∀ s', Fly h₁ os cs G e C v0 (some (rawInt L)) s' → Q () s') : wpAny M A (noteFrame (.ref e) env) Q E s := by
  obtain ⟨oe, he, hcl, hd⟩ := (show Sh h₁ os ((e, excP C v0 .none) :: cs) G s from F).get (.head _)
  unfold noteFrame
  simp only [hf]
  refine wpAny_bind (wpAny_field he hd (x := .none) rfl ?_)
  rw [if_neg (by decide)]
  exact entry_new F hfr hF hf h
/-- an entry of this very frame stands -/
theorem n_here {Q : Unit → Shared → Prop} (F : Fly h₁ os cs G e C v0 (some (rawInt L)) s) (hf : env.frame = some L)
    (h : Q () s) : wpAny M A (noteFrame (.ref e) env) Q E s := by
  obtain ⟨tb, B⟩ := F
  obtain ⟨oe, he, hcl, hd⟩ := B.get (.head _)
  obtain ⟨ot, ht, ts, hdt, h3⟩ := B.get (.tail _ (.head _))
  exact wpAny_noteFrame_inFlight hf he hd rfl ht hdt h3 h
/-- the next frame's entry -/
theorem n_next {Q : Unit → Shared → Prop} (F : Fly h₁ os cs G e C v0 (some .none) s) (hfr : A.frames = some (env :: outer)) (hF : FramesIn (env :: outer) cs) (hf : env.frame = some L)
    (h : ∀ s', Fly h₁ os cs G e C v0 (some (rawInt L)) s' → Q () s') : wpAny M A (noteFrame (.ref e) env) Q E s := by
  obtain ⟨tb, B⟩ := F
  obtain ⟨oe, he, hcl, hd⟩ := B.get (.head _)
  obtain ⟨ot, ht, ts, hdt, h3⟩ := B.get (.tail _ (.head _))
  unfold noteFrame
  simp only [hf]
  refine wpAny_bind (wpAny_field he hd (x := .ref tb) rfl ?_)
  rw [if_pos (show (Value.ref tb != Value.none) = true from by simp)]
  refine wpAny_bind (wpAny_field ht hdt h3 ?_)
  rw [if_neg (show ¬ ((Value.none == rawInt L) = true) from by simp [rawInt])]
  refine wpAny_bind (wpAny_setField ht hdt (Array.getElem?_eq_some_iff.mp h3).1 ?_)
  have B2 : Sh h₁ os ((e, excP C v0 (.ref tb)) :: (tb, tbP .none) :: cs) G { s with heap := s.heap.update tb (Obj.mapFields (·.setIfInBounds 3 .none)) } :=
    B.heap' (B.hp.chgS (.there .here) (Heap.SameBut.update ..) ⟨_, Heap.get?_update_self _ ht (Obj.isFreed_of_fields (Obj.data_mapFields hdt _)), _, Obj.data_mapFields hdt _, by
      simp [(Array.getElem?_eq_some_iff.mp h3).1]⟩)
  exact entry_new (B2.sub (.cons_cons _ (.cons _ (.refl _)))) hfr hF hf h
/-- what the newest entry says is turned -/
theorem f_set {v : Value} {fr : Option Addr} {Q : Unit → Shared → Prop} (F : Fly h₁ os cs G e C v0 (some v) s)
    (h : ∀ s', Fly h₁ os cs G e C v0 (some (fr.elim .none fun f => rawInt f)) s' → Q () s') : wpAny M A (setFlight (.ref e) fr) Q E s := by
  obtain ⟨tb, B⟩ := F
  obtain ⟨oe, he, hcl, hd⟩ := B.get (.head _)
  obtain ⟨ot, ht, ts, hdt, h3⟩ := B.get (.tail _ (.head _))
  unfold setFlight
  refine wpAny_bind (wpAny_field he hd (x := .ref tb) rfl ?_)
  rw [if_pos (show (Value.ref tb != Value.none) = true from by simp)]
  refine wpAny_setField ht hdt (Array.getElem?_eq_some_iff.mp h3).1 (h _ ⟨tb, B.heap' (B.hp.chgS (.there .here) (Heap.SameBut.update ..) ⟨_, Heap.get?_update_self _ ht (Obj.isFreed_of_fields (Obj.data_mapFields hdt _)), _, Obj.data_mapFields hdt _, ?_⟩)⟩)
  simp [(Array.getElem?_eq_some_iff.mp h3).1]
/-- it comes back to the frame that a part of its own has left -/
theorem f_back {v : Value} (F : Fly h₁ os cs G e C v0 (some v) s) (hf : env.frame = some L)
    (h : ∀ s', Fly h₁ os cs G e C v0 (some (rawInt L)) s' → E (.ref e) s') : cameBackBy M A env E (.ref e) s := by
  unfold cameBackBy
  obtain ⟨tb, B⟩ := id F
  obtain ⟨oe, he, hcl, hd⟩ := B.get (.head _)
  refine wpAny_bind (wpAny_field he hd (x := .ref tb) rfl ?_)
  rw [if_neg (show ¬ ((Value.ref tb == Value.none) = true) from by simp)]
  rw [hf]
  exact f_set F fun s' F' => h s' F'
/-- it leaves the frame -/
theorem f_leave {Q : Unit → Shared → Prop} (F : Fly h₁ os cs G e C v0 (some (rawInt L)) s) (hf : env.frame = some L)
    (h : ∀ s', Fly h₁ os cs G e C v0 (some .none) s' → Q () s') : wpAny M A (leaving env (.ref e)) Q E s := by
  unfold leaving
  exact wpAny_bind (n_here F hf (f_set F fun s' F' => h s' F'))
end
end Mine
end
section
open PySem PySem.W PyProof.Rows
namespace Mine
section
variable {prog : Program} {w : World} {A : Around} {E : Value → Shared → Prop} {s : Shared} {h₁ : Heap} {os : OsState} {cs r : Cels} {G : Array GenState} {L f C N : Addr} {m mg mb : Str → Option Value} {cd : Value} {name : Str} {sc : Scope}

def veMro : List Value := [.type "ValueError", .type "Exception", .type "BaseException", .type "object"]
/-- the class StatisticsError -/
structure Er (h₁ : Heap) (C N : Addr) : Prop where
  cls : ∃ nm q bs hdct sn sub ab col dd k0 k1 k2 k3 k5, h₁.get? C = some (excClassObj nm q C N bs veMro hdct sn sub ab col dd k0 k1 k2 k3 k5 "ValueError.__new__")
  ns : ∃ mN, h₁.Ns N mN ∧ mN (Str.ofString "__init__") = none ∧ mN (Str.ofString "__str__") = none

/-- raise StatisticsError(errmsg) -/
theorem r_raise {glV biV : List (Str × Value)} {x y : Str} {np cpos pos ap : Pos} {v : Value} {Q : Flow → Shared → Prop} (T : Tp glV biV h₁ mg mb) (X : Er h₁ C N) (hh : A.handled = none) (B : Sh h₁ os ((L, nsP m) :: r) G s)
    (hx : glV.lookup x = some (.ref C)) (hy : m y = some v)
    (hk : sc.kind = .function) (hxl : sc.names.lookup x = some .globalImplicit) (hyl : sc.names.lookup y = some .local) (hxd : (x == ("__debug__" : Str)) = false) (hyd : (y == ("__debug__" : Str)) = false)
    (h : ∀ e t s', Fly h₁ os ((t, tupP [v]) :: (L, nsP m) :: r) G e (.ref C) (.ref t) none s' → E (.ref e) s') :
    wpAny (model prog w) A (exec (.Raise (some (.Call (.Name x np) [.Name y ap] [] cpos)) none pos) (envOf name sc L f cd)) Q E s := by
  obtain ⟨nm, q, bs, hdct, sn, sub, ab, col, dd, k0, k1, k2, k3, k5, hC⟩ := X.cls
  obtain ⟨mN, hN, hi, _⟩ := X.ns
  refine wpAny_Raise_call_sub (nm := nm) (q := q) (N := N) (bs := bs) (hdct := hdct) (sn := sn) (sub := sub) (ab := ab) (col := col) (dd := dd) (k0 := k0) (k1 := k1) (k2 := k2) (k3 := k3) (k5 := k5) PySem.F.excBase_ValueError hh rfl hi (t_gl T B hx hxl hk hxd ⟨rfl, ?_⟩)
  refine Calls.evalArgs_plain (spliced_more (env := envOf name sc L f cd) (t_ld B hy hyl hk hyd (spliced_none ⟨rfl, by size_fits, B.hp.old _ _ hC, hN.keeps B.hp.old, fun h' e M => ?_⟩)))
  obtain ⟨t, he, htn, ht⟩ := M.there
  refine h e t _ ?_
  have H1 : Hp h₁ ((t, tupP [v]) :: (L, nsP m) :: r) h' := B.hp.newN M.keeps ⟨_, ht, 0, rfl⟩ htn
  have hte : e ≠ t := fun q => by rw [q, ht] at he; cases he
  refine B.heap' ⟨H1.old, fun p i => ?_, ?_⟩
  · rcases List.mem_cons.mp i with rfl | i
    · refine ⟨⟨_, he, rfl, rfl⟩, ?_⟩
      cases q : h₁.get? e with
      | none => rfl
      | some o => have := B.hp.old _ _ q; rw [M.new] at this; cases this
    · exact H1.cel p i
  · rw [List.map_cons, List.nodup_cons]
    refine ⟨fun i => ?_, H1.nod⟩
    rw [List.map_cons] at i
    rcases List.mem_cons.mp i with q | i
    · exact hte q
    · obtain ⟨p, mp, q⟩ := List.mem_map.mp i
      obtain ⟨o, ho, _⟩ := (B.hp.cel p mp).1
      have q' : p.1 = e := q
      rw [q', M.new] at ho; cases ho

theorem fly_new {cls : String} {h' : Heap} {tk : Nat} {e : Addr} (B : Sh h₁ os cs G s) (M : Heap.NewExc s.heap h' e cls) : ∃ v0, Fly h₁ os cs G e (.type cls) v0 none { s with heap := h', toks := tk } := by
  obtain ⟨ob, t, he, hc, hd⟩ := M.there
  exact ⟨t, B.heap (B.hp.newN M.keeps ⟨ob, he, hc, hd⟩ M.new) tk⟩

theorem isSubtype_int_str : isSubtype (.type "int") (.type "str") = pure false := by
  rw [isSubtype_type]; kernel_rfl
theorem r_lt_str_int {i : Int} {t : Tok} {x : Str} {u : Tok} {Q : Value → Shared → Prop} (hh : A.handled = none) (B : Sh h₁ os cs G s)
    (h : ∀ e v0 s', Fly h₁ os cs G e (.type "TypeError") v0 none s' → E (.ref e) s') :
    wpAny (model prog w) A (compareOp .Lt (.str x u) (.int i t)) Q E s := by
  show wpAny _ _ (richCompare .Lt (.str x u) (.int i t)) Q E s
  refine wpAny_richCompare_lt_declined hh (fun s' => typeIs_str s' x u) (fun s' => typeIs_int s' i t) (by decide) isSubtype_int_str PySem.F.slot_str_lt PySem.F.slot_int_gt_refl (by decide) (by decide) ?_
  refine wpAny_call_entry PySem.F.slot_str_lt (typeIs_str s x u) PySem.F.entry_str_lt
    (show wpAny _ _ (do rule "str.__lt__.not-a-str"; ret .notImplemented) _ _ s from wpAny_bind (wpAny_rule (wpAny_pure ⟨_, rfl, rfl, ?_⟩))) (PySem.F.args_str_lt_2 _ _)
  refine wpAny_call_entry PySem.F.slot_int_gt_refl (typeIs_int s i t) PySem.F.entry_int_gt
    (show wpAny _ _ (do rule "int.binary.not-an-int"; ret .notImplemented) _ _ s from wpAny_bind (wpAny_rule (wpAny_pure ⟨_, rfl, rfl, fun h' tk e M => ?_⟩))) (PySem.F.args_int_gt_2 _ _)
  obtain ⟨v0, F⟩ := fly_new (tk := tk) B M
  exact h e v0 _ F
end
end Mine
end
section
open PySem PySem.W PyProof.Rows
namespace Mine
section
variable {prog : Program} {w : World} {A : Around} {E : Value → Shared → Prop} {s : Shared} {h₁ : Heap} {os : OsState} {cs r : Cels} {G : Array GenState} {a C N : Addr} {g : Nat} {gs : GenState} {Φ : End → Shared → Prop}

theorem Sh.setGen (B : Sh h₁ os cs G s) (g : Nat) (x : GenState) : Sh h₁ os cs (G.setIfInBounds g x) (s.setGen g x) := ⟨B.hp, by show s.gens.setIfInBounds g x = _; rw [B.gens], B.os⟩
theorem Fly.setGen {e : Addr} {Cx v0 : Value} {fl : Option Value} (F : Fly h₁ os cs G e Cx v0 fl s) (g : Nat) (x : GenState) : Fly h₁ os cs (G.setIfInBounds g x) e Cx v0 fl (s.setGen g x) := by
  cases fl with
  | none => exact Sh.setGen F g x
  | some v => obtain ⟨tb, B⟩ := F; exact ⟨tb, B.setGen g x⟩

/-- a class that is no StopIteration -/
def NoStop (h₁ : Heap) (Cx : Value) : Prop := ∀ (M : Model) (A : Around) (s : Shared) (E : Value → Shared → Prop) (Q : Bool → Shared → Prop), (∀ b o, h₁.get? b = some o → s.heap.get? b = some o) → Q false s → wpAny M A (isSubtype Cx (.type "StopIteration")) Q E s
theorem Er.noStop (X : Er h₁ C N) : NoStop h₁ (.ref C) := by
  obtain ⟨nm, q, bs, hdct, sn, sub, ab, col, dd, k0, k1, k2, k3, k5, hC⟩ := X.cls
  intro M A s E Q k h
  obtain ⟨hp, g, d, t, os⟩ := s
  refine wpAny_isSubtype_exc (k _ _ hC) ?_
  have e : (Value.ref C :: veMro).contains (.type "StopIteration") = false := by
    show (Value.type "StopIteration" == Value.ref C || veMro.contains (.type "StopIteration")) = false
    rw [show (Value.type "StopIteration" == Value.ref C) = false from by rfl]; decide +kernel
  rw [e]; exact h
theorem isSubtype_te_stop : isSubtype (.type "TypeError") (.type "StopIteration") = pure false := by rw [isSubtype_type]; kernel_rfl
theorem noStop_te : NoStop h₁ (.type "TypeError") := fun _ _ _ _ _ _ h => wpAny_of_eq isSubtype_te_stop h

theorem isInst_noStop {M : Model} {e : Addr} {Cx v0 : Value} {fl : Option Value} {Q : Bool → Shared → Prop} (F : Fly h₁ os cs G e Cx v0 fl s) (n : NoStop h₁ Cx) (h : Q false s) : wpAny M A (isInstance (.ref e) (.type "StopIteration")) Q E s := by
  obtain ⟨tb, B⟩ := F.exc
  obtain ⟨oe, he, hcl, hd⟩ := B.get (.head _)
  unfold isInstance
  refine wpAny_bind (wpAny_typeOf_ref he ?_)
  rw [hcl]
  exact n _ _ _ _ _ B.hp.old h

/-- a guard that is asked for its next -/
theorem gen_next {Q : Option Value → Shared → Prop} (hh : A.handled = none) (hg : s.heap.IsGen a g) (hgs : s.gens[g]? = some gs) (hl : s.heap.NoLimit) (hroom : A.depth < recursionLimit)
    (hw : Wk (model prog w) A.in1 Φ gs (s.setGen g .running))
    (hΦ : ∀ e s₁, Φ e s₁ → e.quiet = true ∧ (match e with
      | .susp v .. => Q (some v) (s₁.setGen g e.genState)
      | .ret (.ok f) => f = .ret .none ∧ ∃ os cs G, Sh h₁ os cs G (s₁.setGen g .finished) ∧ ∀ x v0 s', Fly h₁ os cs G x (.type "StopIteration") v0 none s' → E (.ref x) s'
      | .ret (.error x) => ∃ os cs G e Cx v0 fl, x = .ref e ∧ Fly h₁ os cs G e Cx v0 fl (s₁.setGen g .finished) ∧ NoStop h₁ Cx ∧ (s₁.heap.IsGen a g) ∧ E x (s₁.setGen g .finished))) :
    wpAny (model prog w) A (callSpecial? (.ref a) (Str.ofString "__next__")) Q E s := by
  refine wpAny_callSpecial?_slot (name := Str.ofString "__next__") hg.typeIs slot_gen_next
    (wpAny_call_entry slot_gen_next hg.typeIs entry_gen_next ?_ (args_gen_next _))
  show wpAny _ _ (Builtin.Generator.genWake (.ref a) (.send .none)) _ _ s
  unfold Builtin.Generator.genWake
  refine wpAny_bind (wpAny_holding (wpAny_genNumber hg (wpAny_bind (wpAny_genState hgs ?_))))
  cases gs with
  | running => exact hw.elim
  | finished => exact hw.elim
  | _ =>
    refine wpAny_bind (wpAny_roomToWake hl hroom ?_)
    show wpAny _ _ (.resume g (.send .none) [] _) _ _ s
    refine resume_wk hgs hw fun e s₁ he => ?_
    obtain ⟨hq, he⟩ := hΦ e s₁ he
    refine ⟨hq, ?_⟩
    match e, hq, he with
    | .susp v gd l k c p fs, _, he => exact wpAny_pure ⟨v, rfl, he⟩
    | .ret (.ok f), _, he =>
      obtain ⟨rfl, os, cs, G, B, hE⟩ := he
      show wpAny _ _ (newExc (.type "StopIteration") [] >>= _) _ _ _
      refine wpAny_bind ?_
      simp only [newExc, newTuple]
      refine wpAny_bind (wpAny_newObj_type ?_ (by size_fits))
      refine wpAny_bind (m := firstArgMember _ _) (wpAny_of_eq (a := Value.none) (by first | rfl | (simp only [firstArgMember]; rfl)) ?_)
      refine wpAny_newObj_type ?_ (by size_fits)
      simp only [raiseNew]
      refine wpAny_bind (wpAny_bind (wpAny_handled ?_))
      rw [show A.in1.handled = none from hh]
      refine wpAny_throw (hE _ (.ref (s₁.setGen g .finished).heap.objs.size) _ ?_)
      have B2 := B.heap' (B.hp.grow fun b o e => Heap.get?_push_of_some (h := (s₁.setGen g .finished).heap) { cls := .type "tuple", data := .seq ([] : List Value).toArray } e)
      exact B2.heap' (B2.hp.push rfl ⟨rfl, rfl⟩)
    | .ret (.error x), _, he =>
      obtain ⟨os, cs, G, e, Cx, v0, fl, rfl, F, hN, hG, hE⟩ := he
      obtain ⟨o, nm, qn, ho, hc, hd, hs⟩ := hG
      show wpAny _ _ (Builtin.Generator.genLeft (.ref a) (.ref e)) _ _ _
      unfold Builtin.Generator.genLeft
      have hlam : ∀ (Q : Bool → Shared → Prop), Q false (s₁.setGen g .finished) → wpAny (model prog w) A.in1 (Builtin.Generator.madeByALambda (.ref a)) Q E (s₁.setGen g .finished) := by
        intro Q hQ
        unfold Builtin.Generator.madeByALambda
        refine wpAny_bind (wpAny_load (o := o) ho ?_)
        rw [hd, hc]
        exact wpAny_pure hQ
      refine wpAny_bind (hlam _ ?_)
      refine wpAny_bind (isInst_noStop F hN ?_)
      show wpAny _ _ (Builtin.Generator.genEscaped (.ref e)) _ _ _
      unfold Builtin.Generator.genEscaped
      refine wpAny_bind (isInst_noStop F hN ?_)
      exact wpAny_throw hE

/-- next in a for: an end, an item, or an error -/
theorem gen_pyNext {Q : Option Value → Shared → Prop} (hh : A.handled = none) (hg : s.heap.IsGen a g) (hgs : s.gens[g]? = some gs) (hl : s.heap.NoLimit) (hroom : A.depth < recursionLimit)
    (hw : Wk (model prog w) A.in1 Φ gs (s.setGen g .running))
    (hΦ : ∀ e s₁, Φ e s₁ → e.quiet = true ∧ (match e with
      | .susp v .. => Q (some v) (s₁.setGen g e.genState)
      | .ret (.ok f) => f = .ret .none ∧ ∃ os cs G, Sh h₁ os cs G (s₁.setGen g .finished) ∧ ∀ s', Sh h₁ os cs G s' → Q none s'
      | .ret (.error x) => ∃ os cs G e Cx v0 fl, x = .ref e ∧ Fly h₁ os cs G e Cx v0 fl (s₁.setGen g .finished) ∧ NoStop h₁ Cx ∧ (s₁.heap.IsGen a g) ∧ E x (s₁.setGen g .finished))) :
    wpAny (model prog w) A (pyNext (.ref a)) Q E s := by
  unfold pyNext
  refine wpAny_bind (wpAny_attempt ?_)
  refine gen_next (h₁ := h₁) hh hg hgs hl hroom hw fun e s₁ he => ?_
  obtain ⟨hq, he⟩ := hΦ e s₁ he
  refine ⟨hq, ?_⟩
  match e, hq, he with
  | .susp v gd l k c p fs, _, he => exact wpAny_pure he
  | .ret (.ok f), _, he =>
    obtain ⟨rfl, os, cs, G, B, hQ⟩ := he
    refine ⟨rfl, os, cs, G, B, fun x v0 s' F => ?_⟩
    obtain ⟨oe, he, hcl, hd⟩ := (show Sh h₁ os ((x, excP (.type "StopIteration") v0 .none) :: cs) G s' from F).get (.head _)
    refine wpAny_bind (wpAny_isInstance (T := "StopIteration") (b := true) ⟨_, he, hcl⟩ isSubtype_stop ?_)
    exact wpAny_pure (hQ s' F.sh)
  | .ret (.error x), _, he =>
    obtain ⟨os, cs, G, e, Cx, v0, fl, rfl, F, hN, hG, hE⟩ := he
    refine ⟨os, cs, G, e, Cx, v0, fl, rfl, F, hN, hG, ?_⟩
    refine wpAny_bind (isInst_noStop F hN ?_)
    exact wpAny_throw hE

/-- a guard at its end is asked -/
theorem gen_next_done {Q : Option Value → Shared → Prop} (hh : A.handled = none) (B : Sh h₁ os cs G s) (hg : s.heap.IsGen a g) (hgs : s.gens[g]? = some .finished)
    (h : ∀ x v0 s', Fly h₁ os cs G x (.type "StopIteration") v0 none s' → E (.ref x) s') :
    wpAny (model prog w) A (callSpecial? (.ref a) (Str.ofString "__next__")) Q E s := by
  refine wpAny_callSpecial?_slot (name := Str.ofString "__next__") hg.typeIs slot_gen_next
    (wpAny_call_entry slot_gen_next hg.typeIs entry_gen_next ?_ (args_gen_next _))
  show wpAny _ _ (Builtin.Generator.genWake (.ref a) (.send .none)) _ _ s
  unfold Builtin.Generator.genWake
  refine wpAny_bind (wpAny_holding (wpAny_genNumber hg (wpAny_bind (wpAny_genState hgs ?_))))
  show wpAny _ _ (.resume g (.send .none) [] _) _ _ s
  have hr : ∀ {α : Type} {k : GenResult → Sem α} {Q : α → Shared → Prop}, wpAny (model prog w) A.in1 (k .finished) Q E s → wpAny (model prog w) A.in1 (.resume g (.send .none) [] k) Q E s := by
    intro α k Q hk Γ p hΓ
    rw [Sem.wp_resume]
    exact ⟨.finished, s, by unfold Wakes; rw [hgs]; exact ⟨rfl, rfl⟩, hk Γ p hΓ⟩
  refine hr ?_
  show wpAny _ _ (newExc (.type "StopIteration") [] >>= _) _ _ _
  refine wpAny_bind ?_
  simp only [newExc, newTuple]
  refine wpAny_bind (wpAny_newObj_type ?_ (by size_fits))
  refine wpAny_bind (m := firstArgMember _ _) (wpAny_of_eq (a := Value.none) (by first | rfl | (simp only [firstArgMember]; rfl)) ?_)
  refine wpAny_newObj_type ?_ (by size_fits)
  simp only [raiseNew]
  refine wpAny_bind (wpAny_handled ?_)
  rw [show A.in1.handled = none from hh]
  refine wpAny_bind (wpAny_pure (wpAny_throw (h _ (.ref s.heap.objs.size) _ ?_)))
  have B2 := B.heap' (B.hp.grow fun b o e => Heap.get?_push_of_some (h := s.heap) { cls := .type "tuple", data := .seq ([] : List Value).toArray } e)
  exact B2.heap' (B2.hp.push rfl ⟨rfl, rfl⟩)
theorem gen_pyNext_done {Q : Option Value → Shared → Prop} (hh : A.handled = none) (B : Sh h₁ os cs G s) (hg : s.heap.IsGen a g) (hgs : s.gens[g]? = some .finished)
    (h : ∀ s', Sh h₁ os cs G s' → Q none s') : wpAny (model prog w) A (pyNext (.ref a)) Q E s := by
  unfold pyNext
  refine wpAny_bind (wpAny_attempt ?_)
  refine gen_next_done hh B hg hgs fun x v0 s' F => ?_
  obtain ⟨oe, he, hcl, hd⟩ := (show Sh h₁ os ((x, excP (.type "StopIteration") v0 .none) :: cs) G s' from F).get (.head _)
  refine wpAny_bind (wpAny_isInstance (T := "StopIteration") (b := true) ⟨_, he, hcl⟩ isSubtype_stop ?_)
  exact wpAny_pure (h s' F.sh)
end
end Mine
end
section
open PySem PySem.W PyProof.Rows
namespace Mine
section
variable {prog : Program} {w : World} {A : Around} {E : Value → Shared → Prop} {s : Shared} {h₁ : Heap} {os : OsState} {cs r : Cels} {G : Array GenState} {it l : Addr} {i : Nat}

theorem i_list {vs : List Value} {Q : Value → Shared → Prop} (B : Sh h₁ os cs G s) (hl : s.heap.IsList l vs.toArray) (h : ∀ it s', Sh h₁ os ((it, litP l 0) :: cs) G s' → Q (.ref it) s') :
    wpAny (model prog w) A (pyIter (.ref l)) Q E s :=
  wpAny_pyIter_list hl (h _ _ (B.heap' (B.hp.push rfl ⟨rfl, rfl⟩)))
theorem i_lit {Q : Value → Shared → Prop} (hit : s.heap.IsListIter it l i) (h : Q (.ref it) s) : wpAny (model prog w) A (pyIter (.ref it)) Q E s := wpAny_pyIter_listiter hit h

theorem Pt.litT {h : Heap} {a : Addr} {g d t o} (p : Pt h a (litP l i)) : (⟨h, g, d, t, o⟩ : Shared).TypeIs (.ref a) "list_iterator" := p.lit.typeIs
theorem Pt.lendT {s : Shared} {a : Addr} (p : Pt s.heap a lendP) : s.TypeIs (.ref a) "list_iterator" := let ⟨o, e, c, _⟩ := p; ⟨o, e, c⟩

theorem x_lit_item {vs : List Value} {x : Value} {Q : Option Value → Shared → Prop} (B : Sh h₁ os cs G s) (u : Upd it (litP l i) (litP l (i + 1)) cs r) (hl : s.heap.IsList l vs.toArray) (hx : vs[i]? = some x)
    (h : ∀ s', Sh h₁ os r G s' → Q (some x) s') : wpAny (model prog w) A (pyNext (.ref it)) Q E s :=
  wpAny_pyNext_list_item (B.get u.mem).lit hl (by simpa using hx) fun h' hi hs => h _ (B.heap' (B.hp.chgS u hs hi))

theorem stop_raise {α : Type} {Q : α → Shared → Prop} (hh : A.handled = none) (B : Sh h₁ os cs G s) (h : ∀ x v0 s', Fly h₁ os cs G x (.type "StopIteration") v0 none s' → E (.ref x) s') :
    wpAny (model prog w) A (do raiseNew (← newExc (.type "StopIteration") []) : Sem α) Q E s := by
  refine wpAny_bind ?_
  simp only [newExc, newTuple]
  refine wpAny_bind (wpAny_newObj_type ?_ (by size_fits))
  refine wpAny_bind (m := firstArgMember _ _) (wpAny_of_eq (a := Value.none) (by first | rfl | (simp only [firstArgMember]; rfl)) ?_)
  refine wpAny_newObj_type ?_ (by size_fits)
  simp only [raiseNew]
  refine wpAny_bind (wpAny_handled ?_)
  rw [hh]
  have B2 := B.heap' (B.hp.grow fun b o e => Heap.get?_push_of_some (h := s.heap) { cls := .type "tuple", data := .seq ([] : List Value).toArray } e)
  first
    | exact wpAny_throw (h _ (.ref s.heap.objs.size) _ (B2.heap' (B2.hp.push rfl ⟨rfl, rfl⟩)))
    | exact wpAny_bind (wpAny_pure (wpAny_throw (h _ (.ref s.heap.objs.size) _ (B2.heap' (B2.hp.push rfl ⟨rfl, rfl⟩)))))

theorem caught_stop {Q : Option Value → Shared → Prop} {x : Addr} {v0 : Value} (F : Fly h₁ os cs G x (.type "StopIteration") v0 none s) (h : Q none s) :
    wpAny (model prog w) A (do if ← isInstance (.ref x) (.type "StopIteration") then pure none else throw (.ref x) : Sem (Option Value)) Q E s := by
  obtain ⟨oe, he, hcl, hd⟩ := (show Sh h₁ os ((x, excP (.type "StopIteration") v0 .none) :: cs) G s from F).get (.head _)
  refine wpAny_bind (wpAny_isInstance (T := "StopIteration") (b := true) ⟨_, he, hcl⟩ isSubtype_stop ?_)
  exact wpAny_pure h

theorem x_lit_end {vs : List Value} {Q : Option Value → Shared → Prop} (hh : A.handled = none) (B : Sh h₁ os cs G s) (u : Upd it (litP l i) lendP cs r) (hl : s.heap.IsList l vs.toArray) (hx : vs[i]? = none)
    (h : ∀ s', Sh h₁ os r G s' → Q none s') : wpAny (model prog w) A (pyNext (.ref it)) Q E s := by
  have hit := (B.get u.mem).lit
  obtain ⟨o, ho, hc, hd⟩ := B.get u.mem
  obtain ⟨ol, hol, _, nl, hdl⟩ := hl
  unfold pyNext
  refine wpAny_bind (wpAny_attempt (wpAny_callSpecial?_slot (name := Str.ofString "__next__") hit.typeIs slot_listiter_next
    (wpAny_call_entry slot_listiter_next hit.typeIs entry_listiter_next ?_ (args_listiter_next _))))
  show wpAny _ _ (field (.ref it) 0 >>= _) _ _ s
  refine wpAny_bind (wpAny_field ho hd (x := .ref l) rfl ?_)
  show wpAny _ _ (if (Value.ref l == Value.none) = true then _ else _) _ _ s
  rw [if_neg (show ¬ ((Value.ref l == Value.none) = true) from Bool.false_ne_true)]
  show wpAny _ _ (field (.ref it) 1 >>= _) _ _ s
  refine wpAny_bind (wpAny_field ho hd (x := .int i 0) rfl ?_)
  show wpAny _ _ (seqItems? (.ref l) >>= _) _ _ s
  refine wpAny_bind (wpAny_seqItems hol hdl ?_)
  simp only [Int.toNat_natCast, List.getElem?_toArray, hx]
  refine wpAny_bind (wpAny_rule (wpAny_bind (wpAny_setField ho hd (by simp) ?_)))
  have B2 : Sh h₁ os r G { s with heap := s.heap.update it (Obj.mapFields (·.setIfInBounds 0 .none)) } :=
    B.heap' (B.hp.chgS u (Heap.SameBut.update ..) ⟨_, Heap.get?_update_self _ ho (Obj.isFreed_of_fields (Obj.data_mapFields hd _)), (Obj.cls_mapFields ..).trans hc, _, Obj.data_mapFields hd _⟩)
  refine stop_raise hh B2 fun x v0 s' F => ?_
  exact caught_stop F (h s' F.sh)
theorem x_lit_done {Q : Option Value → Shared → Prop} (hh : A.handled = none) (B : Sh h₁ os cs G s) (i : (it, lendP) ∈ cs)
    (h : ∀ s', Sh h₁ os cs G s' → Q none s') : wpAny (model prog w) A (pyNext (.ref it)) Q E s := by
  have hT := (B.get i).lendT
  obtain ⟨o, ho, hc, v, hd⟩ := B.get i
  unfold pyNext
  refine wpAny_bind (wpAny_attempt (wpAny_callSpecial?_slot (name := Str.ofString "__next__") hT slot_listiter_next
    (wpAny_call_entry slot_listiter_next hT entry_listiter_next ?_ (args_listiter_next _))))
  show wpAny _ _ (field (.ref it) 0 >>= _) _ _ s
  refine wpAny_bind (wpAny_field ho hd (x := .none) rfl ?_)
  show wpAny _ _ (if (Value.none == Value.none) = true then _ else _) _ _ s
  rw [if_pos (show (Value.none == Value.none) = true from rfl)]
  refine wpAny_bind (wpAny_rule (wpAny_bind (stop_raise hh B fun x v0 s' F => ?_)))
  exact caught_stop F (h s' F.sh)
theorem i_gen {a : Addr} {g : Nat} {Q : Value → Shared → Prop} (hg : s.heap.IsGen a g) (h : Q (.ref a) s) : wpAny (model prog w) A (pyIter (.ref a)) Q E s := wpAny_pyIter_gen hg h
theorem i_lend {Q : Value → Shared → Prop} (p : Pt s.heap it lendP) (h : Q (.ref it) s) : wpAny (model prog w) A (pyIter (.ref it)) Q E s := by
  refine wpAny_pyIter_slot p.lendT slot_listiter_iter (wpAny_call_entry slot_listiter_iter p.lendT entry_listiter_iter ?_ (args_listiter_iter _))
  show wpAny _ _ (ret (.ref it)) _ _ s
  exact wpAny_pure ⟨_, rfl, "list_iterator", _, p.lendT, slot_listiter_next.lookup, h⟩
end
end Mine
end
section
open PySem PySem.W PyProof.Rows
namespace Mine
section
variable {prog : Program} {w : World} {A : Around} {E : Value → Shared → Prop} {s : Shared} {h₁ : Heap} {os : OsState} {cs r : Cels} {G : Array GenState} {it l : Addr} {i : Nat}

theorem r_iadd {a b : Int} {t u : Tok} {Q : Value → Shared → Prop} (B : Sh h₁ os cs G s) (h : ∀ t s', Sh h₁ os cs G s' → Q (.int (a + b) t) s') :
    wpAny (model prog w) A (inplaceOp .Add (.int a t) (.int b u)) Q E s := iadd_int (h _ _ (B.toks _))

theorem drawL {vs : List Value} (hl : ∀ s' : Shared, (∃ cs, Sh h₁ os cs G s' ∧ ∀ p ∈ r, p ∈ cs) → s'.heap.IsList l vs.toArray) : ∀ (n i : Nat) (s : Shared) (Q : List Value → Shared → Prop), Sh h₁ os ((it, litP l i) :: r) G s → i + n ≤ vs.length →
    (∀ s', Sh h₁ os ((it, litP l (i + n)) :: r) G s' → Q ((vs.drop i).take n) s') → wpAny (model prog w) A (draw (.ref it) n) Q E s
  | 0, i, s, Q, B, _, h => by
    show wpAny _ _ (pure []) Q E s
    exact wpAny_pure (by simpa using h s B)
  | n + 1, i, s, Q, B, hle, h => by
    have hlt : i < vs.length := by omega
    show wpAny _ _ (pyNext (.ref it) >>= _) Q E s
    refine wpAny_bind (x_lit_item B .here (hl s ⟨_, B, fun p m => .tail _ m⟩) (x := vs[i]) (by simp [hlt]) fun s' B' => ?_)
    refine wpAny_bind (wpAny_holding (drawL hl n (i + 1) _ _ B' (by omega) fun s'' B'' => wpAny_pure ?_))
    have := h s'' (by rw [show i + (n + 1) = i + 1 + n by omega]; exact B'')
    rw [List.drop_eq_getElem_cons hlt, List.take_succ_cons] at this
    exact this

theorem unpackItemsL {vs : List Value} {Q : List Value → Shared → Prop} (hh : A.handled = none) (B : Sh h₁ os cs G s) (i : (l, lstP vs) ∈ cs) (h : ∀ s', Sh h₁ os cs G s' → Q vs s') :
    wpAny (model prog w) A (unpackItems (.ref l) vs.length none) Q E s := by
  have hl : ∀ s' : Shared, (∃ cs', Sh h₁ os cs' G s' ∧ ∀ p ∈ cs, p ∈ cs') → s'.heap.IsList l vs.toArray := fun s' ⟨_, B', k⟩ => (B'.get (k _ i)).lst
  unfold unpackItems
  refine wpAny_bind ?_
  unfold notIterableAtAll
  refine wpAny_bind (wpAny_specialOf (B.get i).lst.typeIs slot_list_iter.lookup ?_)
  refine wpAny_pure ?_
  simp only [Bool.false_eq_true, if_false]
  refine wpAny_bind (wpAny_holding (i_list B (B.get i).lst fun it s' B' => ?_))
  refine wpAny_bind (wpAny_holding (drawL (r := cs) hl vs.length 0 _ _ B' (by omega) fun s'' B'' => ?_))
  rw [List.drop_zero, List.take_length]
  rw [if_neg (by simp)]
  refine wpAny_bind (wpAny_holding (x_lit_end hh B'' .here (hl s'' ⟨_, B'', fun p m => .tail _ m⟩) (by simp) fun s₃ B₃ => ?_))
  simp only [Option.isSome_none, Bool.false_eq_true, if_false]
  exact wpAny_pure (h s₃ B₃.drop)
theorem r_assignL {env : Env} {elts : List PySem.Expr} {k : Nat} {pos : Pos} {vs : List Value} {Q : Unit → Shared → Prop} (hh : A.handled = none) (B : Sh h₁ os cs G s) (i : (l, lstP vs) ∈ cs)
    (hn : (assignEach elts env).length = vs.length) (hstar : (assignEach elts env).findIdx? (·.1) = none)
    (h : ∀ s', Sh h₁ os cs G s' → wpAny (model prog w) A (assignInOrder ((assignEach elts env).map (·.2)) vs) Q E s') :
    wpAny (model prog w) A (assign (.Tuple elts k pos) env (.ref l)) Q E s := by
  rw [arm_assign_Tuple]
  refine wpAny_bind (wpAny_standAt ?_)
  unfold unpack
  rw [hstar, hn]
  exact wpAny_bind (wpAny_holding (unpackItemsL hh B i h))
theorem r_assignT {env : Env} {elts : List PySem.Expr} {k : Nat} {pos : Pos} {vs : List Value} {Q : Unit → Shared → Prop} (hh : A.handled = none) (B : Sh h₁ os cs G s) (i : (l, tupP vs) ∈ cs)
    (hn : (assignEach elts env).length = vs.length) (hstar : (assignEach elts env).findIdx? (·.1) = none)
    (h : ∀ s', Sh h₁ os cs G s' → wpAny (model prog w) A (assignInOrder ((assignEach elts env).map (·.2)) vs) Q E s') :
    wpAny (model prog w) A (assign (.Tuple elts k pos) env (.ref l)) Q E s := by
  refine wpAny_assign_Tuple hh (B.get i).tup (by simpa using hn) hstar fun h' x => h _ (B.heap' (B.hp.grow fun b o e => x b o (Nat.ne_of_lt (Heap.lt_size e)) e))
end
end Mine
end
section
open PySem PySem.W PyProof.Rows
namespace Mine
theorem Upd.app {a : Addr} {c c' : Cel} {l l' : Cels} (r : Cels) (u : Upd a c c' l l') : Upd a c c' (l ++ r) (l' ++ r) := by
  induction u with
  | here => exact .here
  | there _ ih => exact .there ih
theorem Upd.pre {a : Addr} {c c' : Cel} {l l' : Cels} (p : Cels) (u : Upd a c c' l l') : Upd a c c' (p ++ l) (p ++ l') := by
  induction p with
  | nil => exact u
  | cons x p ih => exact .there ih
theorem Upd.flat {a : Addr} {c c' : Cel} {f f' : Nat → Cels} {k : Nat} (h : ∀ j, j ≠ k → f' j = f j) (u : Upd a c c' (f k) (f' k)) : ∀ {l : List Nat}, l.Nodup → k ∈ l → Upd a c c' (l.flatMap f) (l.flatMap f')
  | x :: l, nd, m => by
    rw [List.nodup_cons] at nd
    rw [List.flatMap_cons, List.flatMap_cons]
    by_cases e : x = k
    · subst e
      have : l.flatMap f' = l.flatMap f := by
        have : ∀ l : List Nat, x ∉ l → l.flatMap f' = l.flatMap f := by
          intro l hl
          induction l with
          | nil => rfl
          | cons y l ih =>
            rw [List.flatMap_cons, List.flatMap_cons, h y (fun q => hl (q ▸ .head _)), ih fun q => hl (.tail _ q)]
        exact this l nd.1
      rw [this]
      exact u.app _
    · rw [h x e]
      refine (Upd.flat h u nd.2 ?_).pre _
      rcases List.mem_cons.mp m with q | q
      · exact absurd q.symm e
      · exact q
theorem Upd.range {a : Addr} {c c' : Cel} {f f' : Nat → Cels} {k n : Nat} (h : ∀ j, j ≠ k → f' j = f j) (u : Upd a c c' (f k) (f' k)) (hk : k < n) : Upd a c c' ((List.range n).flatMap f) ((List.range n).flatMap f') :=
  Upd.flat h u List.nodup_range (List.mem_range.mpr hk)
end Mine
end
section
open PySem PySem.W PyProof.Rows
open Builtin Builtin.Str Builtin.BaseException Builtin.Exceptions
set_option maxRecDepth 100000
namespace Mine
section
variable {prog : Program} {w : World} {A : Around} {E : Value → Shared → Prop} {h : Heap} {g : Array GenState} {d : Drawn} {t : Nat} {os : OsState}
variable {nm q : Str} {C N : Addr} {bs : List Value} {hdct : Bool} {sn : List Str} {sub : List Value} {ab : Bool} {col : Option Bool} {dd : Option Addr} {k0 k1 k2 k3 k5 : Option Value} {newId : String}

theorem check_str_own {M : Model} {a : Addr} {o : Obj} {Q : Unit → Shared → Prop} (hC : h.get? C = some (excClassObj nm q C N bs veMro hdct sn sub ab col dd k0 k1 k2 k3 k5 newId))
    (hx : h.get? a = some o) (hc : o.cls = .ref C) (hq : Q () ⟨h, g, d, t, os⟩) : wpAny M A (checkBuiltinCall "BaseException.__str__" ⟨[.ref a], []⟩) Q E ⟨h, g, d, t, os⟩ := by
  have hk : builtinKind "BaseException.__str__" = some .slot := by decide +kernel
  have hsplit : splitId "BaseException.__str__" = some ("BaseException", "__str__") := by decide +kernel
  have hcB : (Value.ref C :: veMro).contains (.type "BaseException") = true := by rw [List.contains_cons]; rfl
  have ha := F.args_bexc_str (.ref a)
  simp only [checkBuiltinCall, hk, hsplit]
  refine wpAny_bind ?_
  · unfold isInstance
    repeat (first | (with_reducible refine wpAny_loadPart_at hx ?_; rw [hc]) | (with_reducible refine wpAny_isSubtype_exc hC ?_; rw [hcB]) | wp_step)
    exact hq
theorem bexcArgs_at {M : Model} {e t0 : Addr} {o ot : Obj} {vs : Array Value} {items : List Value} {k : Nat} {Q : Value × List Value → Shared → Prop} (ho : h.get? e = some o) (hd : o.data = .fields vs) (h0 : vs[0]? = some (.ref t0)) (hto : h.get? t0 = some ot) (htd : ot.data = .seq items.toArray k) (hq : Q (.ref t0, items) ⟨h, g, d, t, os⟩) :
    wpAny M A (bexcArgs (.ref e)) Q E ⟨h, g, d, t, os⟩ := by
  unfold bexcArgs
  refine wpAny_bind (wpAny_field ho hd h0 (wpAny_bind (wpAny_seqItems hto htd ?_)))
  have : items.toArray.toList = items := by simp
  show wpAny M A (pure (Value.ref t0, items.toArray.toList)) Q E _
  rw [this]; exact wpAny_pure hq
theorem strOf_own {mN : Str → Option Value} {e t0 : Addr} {o ot : Obj} {vs : Array Value} {x : Str} {tk : Tok} {k : Nat} {Q : Value → Shared → Prop} (hC : h.get? C = some (excClassObj nm q C N bs veMro hdct sn sub ab col dd k0 k1 k2 k3 k5 newId))
    (hn : h.Ns N mN) (hm : mN (Str.ofString "__str__") = none) (ho : h.get? e = some o) (hcl : o.cls = .ref C) (hd : o.data = .fields vs) (h0 : vs[0]? = some (.ref t0)) (hto : h.get? t0 = some ot) (htd : ot.data = .seq [Value.str x tk].toArray k)
    (hu : A.units < cLine) (hq : Q (.str x tk) ⟨h, g, d, t, os⟩) : wpAny (model prog w) A (Builtin.Str.strOf (.ref e)) Q E ⟨h, g, d, t, os⟩ := by
  have f3 := F.excStr_ValueError.str.bind (.ref e)
  unfold Builtin.Str.strOf
  repeat (first | with_reducible refine wpAny_cRoomFor hu ?_ | (with_reducible refine wpAny_loadPart_at ho ?_; rw [hcl]) | (with_reducible refine wpAny_typeLookup_exc hC hn PySem.F.excBase_ValueError.mroIs F.excStr_ValueError.str.lookup ?_; rw [hm]) | wp_step)
  refine codeAny_call_builtin F.excStr_ValueError.str.plain F.entry_bexc_str (check_str_own hC ho hcl ?_)
  unfold Builtin.«BaseException.__str__»
  repeat (first | with_reducible refine bexcArgs_at ho hd h0 hto htd ?_ | wp_step)
  exact hq
end

section
variable {prog : Program} {w : World} {A : Around} {E : Value → Shared → Prop} {s : Shared} {h₁ : Heap} {os : OsState} {cs r : Cels} {G : Array GenState} {C N e te : Addr} {tb : Value} {env : Env}

/-- str of an error of the own class -/
theorem r_strExc {x : Str} {tk : Tok} {Q : Value → Shared → Prop} (X : Er h₁ C N) (hu : A.units + 2 < cLine) (B : Sh h₁ os cs G s) (i : (e, excP (.ref C) (.ref te) tb) ∈ cs) (j : (te, tupP [.str x tk]) ∈ cs) (h : Q (.str x tk) s) :
    wpAny (model prog w) A (call (.type "str") [.ref e]) Q E s := by
  refine callType_new F.called_str (by decide) (F.typeCall_str_1 _) (F.newCall_str_1 _) (fun obj => F.args_object_init_2 obj _) F.entry_str_new
    (meets_str_new (S := fun A' R s' => A'.units + 1 < cLine ∧ Sh h₁ os cs G s' ∧ R (.ok (.ret (.str x tk))) s') fun _ _ A' _ s' hq => ?_) ⟨(show A.units + 1 + 1 < cLine from hu), B, typeIs_str _ _ _, h⟩
  obtain ⟨nm, q, bs, hdct, sn, sub, ab, col, dd, k0, k1, k2, k3, k5, hC⟩ := X.cls
  obtain ⟨mN, hN, _, hs⟩ := X.ns
  obtain ⟨o, ho, hcl, hd⟩ := hq.2.1.get i
  obtain ⟨ot, hto, n, hod⟩ := hq.2.1.get j
  obtain ⟨hp, g, d, t, os⟩ := s'
  exact strOf_own (A := A'.in1) (hq.2.1.hp.old _ _ hC) (hN.keeps hq.2.1.hp.old) hs ho hcl hd rfl hto (by rw [hod]) hq.1 hq.2.2
theorem r_typeExc {Q : Value → Shared → Prop} {v0 : Value} (B : Sh h₁ os cs G s) (i : (e, excP (.ref C) v0 tb) ∈ cs) (h : Q (.ref C) s) : wpAny (model prog w) A (call (.type "type") [.ref e]) Q E s := by
  obtain ⟨o, ho, hcl, hd⟩ := B.get i
  obtain ⟨hp, g, d, t, os⟩ := s
  exact call_type_obj ho (by rw [hcl]; rfl) (by rw [hcl]; exact h)

/-- an own error against a class of the language -/
theorem m_own {M : Model} {T : String} {v0 : Value} {Q : Bool → Shared → Prop} (X : Er h₁ C N) (B : Sh h₁ os cs G s) (i : (e, excP (.ref C) v0 tb) ∈ cs) (hexc : isSubtype (.type T) (.type "BaseException") = pure true) (hnt : isSubtype (.type ((Manifest.find? T).elim "type" fun x => x.metatype)) (.type "tuple") = pure false)
    (h : Q (veMro.contains (.type T)) s) : wpAny M A (excMatches (.ref e) (.type T)) Q E s := by
  obtain ⟨nm, q, bs, hdct, sn, sub, ab, col, dd, k0, k1, k2, k3, k5, hC⟩ := X.cls
  obtain ⟨o, ho, hcl, hd⟩ := B.get i
  have hC' := B.hp.old _ _ hC
  obtain ⟨hp, g, d, t, os⟩ := s
  exact wpAny_excMatches_sub_type hC' ho hcl hexc hnt h
theorem m_self {M : Model} {v0 : Value} {Q : Bool → Shared → Prop} (X : Er h₁ C N) (B : Sh h₁ os cs G s) (i : (e, excP (.ref C) v0 tb) ∈ cs)
    (h : Q true s) : wpAny M A (excMatches (.ref e) (.ref C)) Q E s := by
  obtain ⟨nm, q, bs, hdct, sn, sub, ab, col, dd, k0, k1, k2, k3, k5, hC⟩ := X.cls
  obtain ⟨o, ho, hcl, hd⟩ := B.get i
  have hC' := B.hp.old _ _ hC
  obtain ⟨hp, g, d, t, os⟩ := s
  exact wpAny_excMatches_sub_self hC' ho hcl rfl h
theorem m_not_own {M : Model} {v0 : Value} {T : String} {Q : Bool → Shared → Prop} (X : Er h₁ C N) (B : Sh h₁ os cs G s) (i : (e, excP (.type T) v0 tb) ∈ cs) (hsub : isSubtype (.type T) (.ref C) = pure false)
    (h : Q false s) : wpAny M A (excMatches (.ref e) (.ref C)) Q E s := by
  obtain ⟨nm, q, bs, hdct, sn, sub, ab, col, dd, k0, k1, k2, k3, k5, hC⟩ := X.cls
  obtain ⟨o, ho, hcl, hd⟩ := B.get i
  have hC' := B.hp.old _ _ hC
  obtain ⟨hp, g, d, t, os⟩ := s
  have hcB : (Value.ref C :: veMro).contains (.type "BaseException") = true := by rw [List.contains_cons]; rfl
  have f := tc_notTuple
  unfold excMatches
  repeat (first | (with_reducible refine wpAny_loadPart_at ho ?_; rw [hcl]) | with_reducible refine wpAny_loadPart_at hC' ?_ | (with_reducible refine wpAny_isSubtype_exc hC' ?_; rw [hcB]) | wp_step)
  exact h
theorem m_type {M : Model} {v0 : Value} {T X : String} {b : Bool} {Q : Bool → Shared → Prop} (B : Sh h₁ os cs G s) (i : (e, excP (.type X) v0 tb) ∈ cs) (hexc : isSubtype (.type T) (.type "BaseException") = pure true) (hnt : isSubtype (.type ((Manifest.find? T).elim "type" fun x => x.metatype)) (.type "tuple") = pure false)
    (hsub : isSubtype (.type X) (.type T) = pure b) (h : Q b s) : wpAny M A (excMatches (.ref e) (.type T)) Q E s := by
  obtain ⟨o, ho, hcl, hd⟩ := B.get i
  exact wpAny_excMatches_type ⟨o, ho, hcl⟩ hexc hnt hsub h

theorem h_no {t : PySem.Expr} {name : Option Str} {suite : List Stmt} {pos : Pos} {rest : List ExceptHandler} {Q : Flow → Shared → Prop}
    (h : wpAny (model prog w) (A.mark (some (.ref e))) (eval t env) (fun c s₁ => wpAny (model prog w) (A.mark (some (.ref e))) (excMatches (.ref e) c) (fun b s₂ => b = false ∧ wpAny (model prog w) A (handleBy (.ref e) env rest) Q E s₂) (notedBy (model prog w) (A.mark (some (.ref e))) env (cameBackBy (model prog w) A env E)) s₁) (notedBy (model prog w) (A.mark (some (.ref e))) env (cameBackBy (model prog w) A env E)) s) :
    wpAny (model prog w) A (handleBy (.ref e) env (.ExceptHandler (some t) name suite pos :: rest)) Q E s := by
  refine wpAny_handleBy_cons (codeAny_handlers_test (wpAny_mono h (fun c s₁ h₁ => ?_) fun _ _ x => x)) (by intro q; cases q)
  refine wpAny_mono h₁ (fun b s₂ h₂ => ?_) fun _ _ x => x
  obtain ⟨rfl, h₂⟩ := h₂
  exact h₂
theorem h_yes {t : PySem.Expr} {b₀ : Stmt} {suite : List Stmt} {pos : Pos} {rest : List ExceptHandler} {Q : Flow → Shared → Prop}
    (h : wpAny (model prog w) (A.mark (some (.ref e))) (eval t env) (fun c s₁ => wpAny (model prog w) (A.mark (some (.ref e))) (excMatches (.ref e) c) (fun b s₂ => b = true ∧ wpAny (model prog w) (A.mark (some (.ref e))) (setFlight (.ref e) none) (fun _ s₂ => wpAny (model prog w) (A.mark (some (.ref e))) (execs (b₀ :: suite) env) Q (notedBy (model prog w) (A.mark (some (.ref e))) env (cameBackBy (model prog w) A env E)) s₂) (notedBy (model prog w) (A.mark (some (.ref e))) env (cameBackBy (model prog w) A env E)) s₂) (notedBy (model prog w) (A.mark (some (.ref e))) env (cameBackBy (model prog w) A env E)) s₁) (notedBy (model prog w) (A.mark (some (.ref e))) env (cameBackBy (model prog w) A env E)) s) :
    wpAny (model prog w) A (handleBy (.ref e) env (.ExceptHandler (some t) none (b₀ :: suite) pos :: rest)) Q E s := by
  refine wpAny_handleBy_cons (codeAny_handlers_test (wpAny_mono h (fun c s₁ h₁ => ?_) fun _ _ x => x)) (by intro q; cases q)
  refine wpAny_mono h₁ (fun b s₂ h₂ => ?_) fun _ _ x => x
  obtain ⟨rfl, h₂⟩ := h₂
  exact codeAny_handlers_suite h₂
theorem h_yesAs {t : PySem.Expr} {n : Str} {b₀ : Stmt} {suite : List Stmt} {pos : Pos} {rest : List ExceptHandler} {Q : Flow → Shared → Prop}
    (h : wpAny (model prog w) (A.mark (some (.ref e))) (eval t env) (fun c s₁ => wpAny (model prog w) (A.mark (some (.ref e))) (excMatches (.ref e) c) (fun b s₂ => b = true ∧
        wpAny (model prog w) (A.mark (some (.ref e))) (setFlight (.ref e) none) (fun _ s₂ =>
          wpAny (model prog w) (A.mark (some (.ref e))) (storeName env n (.ref e)) (fun _ s₃ =>
            wpAny (model prog w) (A.mark (some (.ref e))) (execs (b₀ :: suite) env)
              (fun f s₄ => wpAny (model prog w) A (do bindName env n .none; unbindBehindTheSuite env n pos) (fun _ s₅ => Q f s₅) E s₄)
              (fun _ _ => False) s₃) (fun _ _ => False) s₂) (fun _ _ => False) s₂) (notedBy (model prog w) (A.mark (some (.ref e))) env (cameBackBy (model prog w) A env E)) s₁) (notedBy (model prog w) (A.mark (some (.ref e))) env (cameBackBy (model prog w) A env E)) s) :
    wpAny (model prog w) A (handleBy (.ref e) env (.ExceptHandler (some t) (some n) (b₀ :: suite) pos :: rest)) Q E s := by
  refine wpAny_handleBy_cons (codeAny_handlers_test (wpAny_mono h (fun c s₁ h₁ => ?_) fun _ _ x => x)) (by intro q; cases q)
  refine wpAny_mono h₁ (fun b s₂ h₂ => ?_) fun _ _ x => x
  obtain ⟨rfl, h₂⟩ := h₂
  refine codeAny_handlers_suite_as ?_
  refine wpAny_mono h₂ (fun _ s₃ h₃ => ?_) fun _ _ x => x.elim
  refine wpAny_mono h₃ (fun _ s₄ h₄ => ?_) fun _ _ x => x.elim
  exact wpAny_mono h₄ (fun _ s₅ h₅ => h₅) fun _ _ x => x.elim

/-- the error's name goes -/
theorem n_goes {name n : Str} {sc : Scope} {L f : Addr} {cd : Value} {m : Str → Option Value} {pos : Pos} {Q : Unit → Shared → Prop} {M : Model} (B : Sh h₁ os ((L, nsP m) :: r) G s) (hl : sc.names.lookup n = some .local) (hk : sc.kind = .function)
    (h : ∀ m' s', Sh h₁ os ((L, nsP m') :: r) G s' → Q () s') : wpAny M A (do bindName (envOf name sc L f cd) n .none; unbindBehindTheSuite (envOf name sc L f cd) n pos) Q E s :=
  wpAny_nameGoes hl (B.get (.head _)).ns (by show (sc.kind == .class || (sc.kind == .module && L != mainGlobals)) = false; rw [hk]; rfl) fun h' m' hn hs => h m' _ (B.heap (B.hp.chgS .here hs (Pt.ofNs hn)) _)

theorem r_next {a : Addr} {g : Nat} {Q : Value → Shared → Prop} (hg : s.heap.IsGen a g) (h : wpAny (model prog w) A.in1 (callSpecial? (.ref a) (Str.ofString "__next__")) (fun r s' => ∃ v, r = some v ∧ Q v s') E s) :
    wpAny (model prog w) A (call (.builtin "next") [.ref a]) Q E s := by
  refine Calls.call_function_entry (by decide +kernel) (by decide +kernel) kdk_entry_next (kdk_args_next _) ?_
  unfold Builtin.«next»
  refine wpAny_bind (m := someArgs "next" 1 2 _) (wpAny_of_eq (a := [Value.ref a]) (by first | rfl | kernel_rfl!) ?_)
  dsimp only
  refine wpAny_bind (wpAny_specialOf (name := Str.ofString "__next__") hg.typeIs slot_gen_next.lookup ?_)
  refine wpAny_ite_split (fun hab => absurd hab (by decide)) (fun _ => ?_)
  refine wpAny_bind (wpAny_mono h (fun r s' h' => ?_) fun _ _ x => x)
  obtain ⟨v, rfl, hv⟩ := h'
  exact wpAny_pure ⟨_, rfl, hv⟩
theorem r_iter {v : Value} {Q : Value → Shared → Prop} (h : wpAny (model prog w) A.in1 (pyIter v) Q E s) : wpAny (model prog w) A (call (.builtin "iter") [v]) Q E s := by
  refine Calls.call_function_entry (by decide +kernel) (by decide +kernel) kdk_entry_iter (kdk_args_iter _) ?_
  unfold Builtin.«iter»
  refine wpAny_bind (m := someArgs "iter" 1 2 _) (wpAny_of_eq (a := [v]) (by first | rfl | kernel_rfl!) ?_)
  show wpAny _ _ (pyIter v >>= _) _ _ _
  exact wpAny_bind (wpAny_mono h (fun v s' h' => wpAny_pure ⟨_, rfl, h'⟩) fun _ _ x => x)
end
end Mine
end
section
open PySem PySem.W PyProof.Rows
namespace Mine
section
variable {α : Type}
def bagS (α : Type) : Setoid (List α) := ⟨List.Perm, List.Perm.refl, List.Perm.symm, List.Perm.trans⟩
/-- lists up to order -/
def Bag (α : Type) := Quotient (bagS α)
def Bag.mk (l : List α) : Bag α := Quotient.mk (bagS α) l
theorem perm_of_mk {a b : List α} (h : Bag.mk a = Bag.mk b) : a.Perm b := Quotient.exact (s := bagS α) h
def Bag.add (a b : Bag α) : Bag α := Quotient.lift₂ (s₁ := bagS α) (s₂ := bagS α) (fun x y => Bag.mk (x ++ y)) (fun _ _ _ _ h k => Quotient.sound (s := bagS α) (List.Perm.append h k)) a b
theorem Bag.mk_append (a b : List α) : Bag.mk (a ++ b) = (Bag.mk a).add (Bag.mk b) := rfl
theorem Bag.add_comm (a b : Bag α) : a.add b = b.add a := by
  induction a using Quotient.ind; induction b using Quotient.ind
  exact Quotient.sound (s := bagS α) List.perm_append_comm
theorem Bag.add_assoc (a b c : Bag α) : (a.add b).add c = a.add (b.add c) := by
  induction a using Quotient.ind; induction b using Quotient.ind; induction c using Quotient.ind
  exact congrArg Bag.mk (List.append_assoc _ _ _)
def Bag.one (a : α) : Bag α := Bag.mk [a]
def Bag.zero : Bag α := Bag.mk []
theorem Bag.mk_cons (a : α) (l : List α) : Bag.mk (a :: l) = (Bag.one a).add (Bag.mk l) := rfl
theorem Bag.mk_nil : Bag.mk ([] : List α) = Bag.zero := rfl
theorem Bag.add_zero (a : Bag α) : a.add Bag.zero = a := by
  induction a using Quotient.ind
  exact congrArg Bag.mk (List.append_nil _)
theorem Bag.zero_add (a : Bag α) : Bag.zero.add a = a := by rw [Bag.add_comm, Bag.add_zero]
theorem bagA : Std.Associative (Bag.add (α := α)) := ⟨Bag.add_assoc⟩
theorem bagC : Std.Commutative (Bag.add (α := α)) := ⟨Bag.add_comm⟩
end
end Mine
end
section
open PySem PySem.W PyProof.Rows
set_option maxRecDepth 100000
namespace Mine
def titP (t : Addr) (i : Nat) : Cel := fun o => o.cls = .type "tuple_iterator" ∧ o.data = .fields #[.ref t, .int i 0]
def ritP (x left : Int) : Cel := isP { cls := .type "range_iterator", dict := none, data := .fields #[rawInt x, rawInt left, rawInt 1], slots := #[] }
section
variable {prog : Program} {w : World} {A : Around} {E : Value → Shared → Prop} {s : Shared} {h₁ : Heap} {os : OsState} {cs r : Cels} {G : Array GenState}
  {name : Str} {sc : Scope} {L f : Addr} {cd : Value} {l : List (Str × Value)} {m : Str → Option Value}

/-- a loop over what is given one by one -/
theorem for_gen {x : Str} {px : Pos} {it : Value} {body : List Stmt} {R : Result → Shared → Prop} (n : Nat) (V : Nat → Value → Prop) (iC : Nat → Cels)
    (hk : sc.kind = .function) (hx : sc.names.lookup x = some .local)
    (nxI : ∀ i E (Q : Option Value → Shared → Prop) s l cs G, i < n → Sh h₁ os ((L, nsP (frm l)) :: (iC i ++ cs)) G s → (∀ v s', V i v → Sh h₁ os ((L, nsP (frm l)) :: (iC (i + 1) ++ cs)) G s' → Q (some v) s') → wpAny (model prog w) A (pyNext it) Q E s)
    (nxE : ∀ E (Q : Option Value → Shared → Prop) s l cs G, Sh h₁ os ((L, nsP (frm l)) :: (iC n ++ cs)) G s → (∀ s', Sh h₁ os ((L, nsP (frm l)) :: cs) G s' → Q none s') → wpAny (model prog w) A (pyNext it) Q E s)
    (Inv : Nat → List (Str × Value) → Cels → Array GenState → Prop)
    (step : ∀ i v l cs G s (E : Value → Shared → Prop), i < n → V i v → Inv i l cs G → Sh h₁ os ((L, nsP (frm ((x, v) :: l))) :: (iC (i + 1) ++ cs)) G s →
      wpAny (model prog w) A (execs body (envOf name sc L f cd)) (fun fl s' => fl = .next ∧ ∃ l' cs' G', Inv (i + 1) l' cs' G' ∧ Sh h₁ os ((L, nsP (frm l')) :: (iC (i + 1) ++ cs')) G' s') E s)
    (h0 : Inv 0 l cs G) (B : Sh h₁ os ((L, nsP (frm l)) :: (iC 0 ++ cs)) G s)
    (h : ∀ l' cs' G' s', Inv n l' cs' G' → Sh h₁ os ((L, nsP (frm l')) :: cs') G' s' → R (.ok .next) s')
    (ht : ∀ v, letOwnedTupleGo (.Name x px) it v = pure () := by intro _; rfl) :
    codeAny (model prog w) A (.forLoop (.Name x px) it body [] (envOf name sc L f cd)) R s := by
  refine codeAny_forLoop (fun k s' => ∃ i l' cs' G', i ≤ n ∧ k = n - i ∧ Inv i l' cs' G' ∧ Sh h₁ os ((L, nsP (frm l')) :: (iC i ++ cs')) G' s') ?_ n ⟨0, l, cs, G, Nat.zero_le _, rfl, h0, B⟩ ht
  rintro k s' ⟨i, l', cs', G', hi, rfl, hI, B'⟩
  rcases Nat.lt_or_eq_of_le hi with hi | rfl
  · refine nxI i _ _ s' l' cs' G' hi B' fun v s'' hV B'' => ?_
    refine wpAny_assign_Name (r_set B'' (fun s₃ B₃ => ?_) hk hx)
    refine wpAny_mono (step i v l' cs' G' s₃ _ hi hV hI B₃) (fun fl s₄ h₄ => ?_) fun _ _ e => e
    obtain ⟨rfl, l₅, cs₅, G₅, hI₅, B₅⟩ := h₄
    exact ⟨n - (i + 1), by omega, i + 1, l₅, cs₅, G₅, hi, rfl, hI₅, B₅⟩
  · refine nxE _ _ s' l' cs' G' B' fun s'' B'' => ?_
    exact wpAny_execs_nil (h l' cs' G' s'' hI B'')

theorem nx_listI {vs : List Value} {it a : Addr} {i : Nat} {Q : Option Value → Shared → Prop} (hi : i < vs.length) (B : Sh h₁ os ((L, nsP m) :: ([(it, litP a i), (a, lstP vs)] ++ cs)) G s)
    (h : ∀ v s', vs[i]? = some v → Sh h₁ os ((L, nsP m) :: ([(it, litP a (i + 1)), (a, lstP vs)] ++ cs)) G s' → Q (some v) s') : wpAny (model prog w) A (pyNext (.ref it)) Q E s := by
  obtain ⟨v, hv⟩ : ∃ v, vs[i]? = some v := ⟨_, List.getElem?_eq_getElem hi⟩
  exact x_lit_item B (.there .here) (B.get (.tail _ (.tail _ (.head _)))).lst hv fun s' B' => h v s' hv B'
theorem nx_listE {vs : List Value} {it a : Addr} {Q : Option Value → Shared → Prop} (hh : A.handled = none) (B : Sh h₁ os ((L, nsP m) :: ([(it, litP a vs.length), (a, lstP vs)] ++ cs)) G s)
    (h : ∀ s', Sh h₁ os ((L, nsP m) :: cs) G s' → Q none s') : wpAny (model prog w) A (pyNext (.ref it)) Q E s :=
  x_lit_end hh B (.there .here) (B.get (.tail _ (.tail _ (.head _)))).lst (by simp) fun s' B' => h s' (B'.sub (.cons_cons _ (.cons _ (.cons _ (.refl _)))))
theorem nx_tupI {vs : List Value} {it a : Addr} {i : Nat} {Q : Option Value → Shared → Prop} (hi : i < vs.length) (B : Sh h₁ os ((L, nsP m) :: ([(it, titP a i), (a, tupP vs)] ++ cs)) G s)
    (h : ∀ v s', vs[i]? = some v → Sh h₁ os ((L, nsP m) :: ([(it, titP a (i + 1)), (a, tupP vs)] ++ cs)) G s' → Q (some v) s') : wpAny (model prog w) A (pyNext (.ref it)) Q E s := by
  obtain ⟨v, hv⟩ : ∃ v, vs[i]? = some v := ⟨_, List.getElem?_eq_getElem hi⟩
  exact wpAny_pyNext_tuple_item (B.get (.tail _ (.head _))) (B.get (.tail _ (.tail _ (.head _)))).tup (by simpa using hv) fun h' hi hs => h v _ hv (B.heap' (B.hp.chgS (.there .here) hs hi))
theorem nx_tupE {vs : List Value} {it a : Addr} {Q : Option Value → Shared → Prop} (hh : A.handled = none) (B : Sh h₁ os ((L, nsP m) :: ([(it, titP a vs.length), (a, tupP vs)] ++ cs)) G s)
    (h : ∀ s', Sh h₁ os ((L, nsP m) :: cs) G s' → Q none s') : wpAny (model prog w) A (pyNext (.ref it)) Q E s := by
  refine wpAny_pyNext_tuple_end hh (B.get (.tail _ (.head _))) (B.get (.tail _ (.tail _ (.head _)))).tup (by simp) fun h' hs => h _ (B.heap' ?_)
  have H2 := B.hp.perm (List.Perm.swap ..)
  refine ((Hp.mk (fun b o e => ?_) (fun p i => ?_) H2.drop.nod : Hp h₁ _ h').sub (.cons_cons _ (.cons _ (.refl _))))
  · exact hs b o (B.hp.old_ne (.tail _ (.head _)) e) (B.hp.old b o e)
  · refine ⟨(H2.cel p (.tail _ i)).1.keep fun o e => hs _ o (fun q => ?_) e, (H2.cel p (.tail _ i)).2⟩
    have nd := H2.nod
    rw [List.map_cons, List.nodup_cons] at nd
    exact nd.1 (List.mem_map.mpr ⟨p, i, q⟩)
end
end Mine
end
section
open PySem PySem.W PyProof.Rows
set_option maxRecDepth 100000
namespace Mine
theorem Hp.lose {h₁ h h' : Heap} {cs : Cels} {a : Addr} {c : Cel} (H2 : Hp h₁ ((a, c) :: cs) h) (hs : Heap.ExtBut a h h') : Hp h₁ cs h' := by
  refine ⟨fun b o e => ?_, fun p i => ?_, H2.drop.nod⟩
  · exact hs b o (H2.old_ne (.head _) e) (H2.old b o e)
  · refine ⟨(H2.cel p (.tail _ i)).1.keep fun o e => hs _ o (fun q => ?_) e, (H2.cel p (.tail _ i)).2⟩
    have nd := H2.nod
    rw [List.map_cons, List.nodup_cons] at nd
    exact nd.1 (List.mem_map.mpr ⟨p, i, q⟩)
section
variable {prog : Program} {w : World} {A : Around} {E : Value → Shared → Prop} {s : Shared} {h₁ : Heap} {os : OsState} {cs r : Cels} {G : Array GenState}
  {name : Str} {sc : Scope} {L f : Addr} {cd : Value} {l : List (Str × Value)} {m : Str → Option Value}
theorem nx_rngI {it : Addr} {n i : Nat} {Q : Option Value → Shared → Prop} (hi : i < n) (B : Sh h₁ os ((L, nsP m) :: ([(it, ritP i ((n : Int) - i))] ++ cs)) G s)
    (h : ∀ v s', (∃ t, v = .int i t) → Sh h₁ os ((L, nsP m) :: ([(it, ritP ((i + 1 : Nat) : Int) ((n : Int) - ((i + 1 : Nat) : Int)))] ++ cs)) G s' → Q (some v) s') : wpAny (model prog w) A (pyNext (.ref it)) Q E s := by
  refine wpAny_pyNext_range_item (B.get (.tail _ (.head _))).is (by omega) fun h' hi hs => h _ _ ⟨_, rfl⟩ (B.heap (B.hp.chgS (.there .here) hs ⟨_, hi, ?_⟩) _)
  have e1 : ((i + 1 : Nat) : Int) = (i : Int) + 1 := by omega
  have e2 : (n : Int) - ((i + 1 : Nat) : Int) = (n : Int) - i - 1 := by omega
  rw [e1, ← e1, e2]
  rfl
theorem nx_rngE {it : Addr} {n : Nat} {Q : Option Value → Shared → Prop} (hh : A.handled = none) (B : Sh h₁ os ((L, nsP m) :: ([(it, ritP n ((n : Int) - n))] ++ cs)) G s)
    (h : ∀ s', Sh h₁ os ((L, nsP m) :: cs) G s' → Q none s') : wpAny (model prog w) A (pyNext (.ref it)) Q E s :=
  wpAny_pyNext_range_end hh (B.get (.tail _ (.head _))).is (by omega) fun h' hs => h _ (B.heap' ((B.hp.perm (List.Perm.swap ..)).lose hs))
/-- range(n) and its iterator -/
theorem r_range {n : Nat} {t : Tok} {Q : Value → Shared → Prop} (hn : n < 2 ^ 30) (B : Sh h₁ os ((L, nsP m) :: cs) G s)
    (h : ∀ it s', Sh h₁ os ((L, nsP m) :: ([(it, ritP ((0 : Nat) : Int) ((n : Int) - ((0 : Nat) : Int)))] ++ cs)) G s' → Q (.ref it) s') :
    wpAny (model prog w) A (call (.type "range") [.int n t]) (fun v s₁ => wpAny (model prog w) A (pyIter v) Q E s₁) E s := by
  refine call_range_1 ?_
  have B2 := B.heap (t := s.toks + 1 + 1) (B.hp.grow fun b o e => Heap.get?_push_of_some (h := s.heap) { cls := .type "range", data := .fields #[.int 0 s.toks, .int n t, .int 1 (s.toks + 1)] } e)
  have hz : Builtin.Range.rangeSize 0 (n : Int) 1 = n := by
    unfold Builtin.Range.rangeSize
    rw [if_pos (by decide)]
    by_cases hp : (0 : Int) < n
    · rw [if_pos hp, Int.ediv_one]; omega
    · rw [if_neg hp]; omega
  refine wpAny_pyIter_range (IsRange.new ..) ?_ ?_
  · exact small_one (by decide) (by decide) (by omega) (by omega)
  · rw [hz]
    refine h _ _ ((B2.heap' (B2.hp.push rfl ?_)).perm (.swap ..))
    rw [show (n : Int) - ((0 : Nat) : Int) = n by omega]
    rfl
theorem r_listOf {a : Addr} {vs : List Value} {Q : Value → Shared → Prop} (B : Sh h₁ os ((L, nsP m) :: cs) G s) (hl : Pt s.heap a (lstP vs)) (hz : vs.length ≤ sizeLine) (h : ∀ b s', Sh h₁ os ((L, nsP m) :: (b, lstP vs) :: cs) G s' → Q (.ref b) s') :
    wpAny (model prog w) A (call (.type "list") [.ref a]) Q E s := by
  obtain ⟨o, ho, n, rfl⟩ := hl
  exact call_list_seq a (.inl rfl) ho rfl rfl (fun h' c' hk hn => h _ _ ((B.heap' (B.hp.new hk ⟨_, hn, c', rfl⟩ (Nat.le_refl _))).perm (.swap ..))) (by simpa using hz)
theorem r_addL {a b : Addr} {vs ws : List Value} {Q : Value → Shared → Prop} (B : Sh h₁ os ((L, nsP m) :: cs) G s) (hl : s.heap.IsList a vs.toArray) (hb : s.heap.IsList b ws.toArray) (hz : vs.length + ws.length ≤ sizeLine)
    (h : ∀ c s', Sh h₁ os ((L, nsP m) :: (c, lstP (vs ++ ws)) :: cs) G s' → Q (.ref c) s') : wpAny (model prog w) A (binaryOp .Add (.ref a) (.ref b)) Q E s := by
  obtain ⟨⟨cls, dd, data, sl⟩, ho, hc, n, hd⟩ := id hl
  obtain ⟨⟨cls2, dd2, data2, sl2⟩, ho2, hc2, n2, hd2⟩ := id hb
  simp only at hc hd hc2 hd2
  subst hc hd hc2 hd2
  have e : vs.toArray ++ ws.toArray = (vs ++ ws).toArray := by simp
  refine concat_meets ⟨_, ho, rfl⟩ ⟨_, ho2, rfl⟩ noFill_list_add seq_list_add PySem.F.slot_list_add PySem.F.entry_list_add (PySem.F.args_list_add_2 _ _) (list_addW a b vs.toArray ws.toArray n n2 dd dd2 sl sl2 (by simpa using hz)) ⟨ho, ho2, ?_⟩
  rw [e]
  exact h _ _ ((B.heap' (B.hp.push rfl ⟨0, rfl⟩)).perm (.swap ..))
theorem r_max2 {a b : Int} {t u : Tok} {Q : Value → Shared → Prop} (hh : A.handled = none) (B : Sh h₁ os cs G s) (h : ∀ t s', Sh h₁ os cs G s' → Q (.int (if b > a then b else a) t) s') :
    wpAny (model prog w) A (call (.builtin "max") [.int a t, .int b u]) Q E s := by
  refine max_two_ints hh fun h' tk hk => ?_
  have B' : Sh h₁ os cs G { s with heap := h', toks := tk } := B.heap (B.hp.grow hk) tk
  by_cases hab : b > a
  · rw [if_pos hab]; have := h u _ B'; rw [if_pos hab] at this; exact this
  · rw [if_neg hab]; have := h t _ B'; rw [if_neg hab] at this; exact this
/-- a generator is made -/
theorem call_gen {R : Result → Shared → Prop} {fd : FuncData} {o : Obj} {args : List Value} {binds : List (Str × Value)} {bd : List Stmt}
    (B : Sh h₁ os ((L, nsP m) :: cs) G s) (hlim : h₁.NoLimit) (hroom : A.depth < recursionLimit) (ho : h₁.get? f = some o) (hd : o.data = .func fd) (hco : fd.scope.isCoroutine = false) (hgen : fd.scope.isGenerator = true) (hbody : fd.body = .stmts bd)
    (hcd : h₁.CodeRec fd.code fd.qualname) (hb : BindsTo s fd ⟨args, []⟩ binds) (hcell : ∀ x ∈ fd.scope.names, x.2 ≠ .cell) (hloc : ∀ x ∈ binds, fd.scope.names.lookup x.1 = some .local) (hk : fd.scope.kind = .function)
    (h : ∀ a g gf s' , g = G.size → Sh h₁ os ((L, nsP m) :: (a, genP g) :: (gf, nsP (fun x => binds.reverse.lookup x)) :: cs) (G.push (.fresh (.func bd (newEnv fd.scope gf fd.globals fd.closure (fd.qualname ++ ".<locals>.") (some f) fd.code none fd.builtins)))) s' → R (.ok (.ret (.ref a))) s') :
    codeAny (model prog w) A (.call (.ref f) ⟨args, []⟩) R s := by
  refine codeAny_call_generator hroom (B.hp.old _ _ ho) hd hco hgen hbody (hcd.keeps B.hp.old) (hb _ _ _ _ ?_)
  refine wpAny_newFunctionEnv hcell hloc (fun h' hn hs => ⟨(hlim.keeps B.hp.old).fresh _ hs, ?_⟩) hk
  have H1 : Hp h₁ ((s.heap.objs.size, nsP (fun x => binds.reverse.lookup x)) :: (L, nsP m) :: cs) h' := B.hp.new (fun b o e => hs.extBut b o (Nat.ne_of_lt (Heap.lt_size e)) (Heap.get?_push_of_some _ e)) (Pt.ofNs hn) (Nat.le_refl _)
  have H2 := H1.push (c := genP s.gens.size) (o := { cls := .type "generator", data := .fields #[.int s.gens.size 0, .str fd.name (s.toks + binds.length), .str fd.qualname (s.toks + binds.length + 1)] }) rfl ⟨_, _, rfl, rfl, rfl⟩
  refine h h'.objs.size s.gens.size s.heap.objs.size _ (by rw [← B.gens]) ⟨H2.perm ?_, ?_, B.os⟩
  · apply perm_of_mk
    simp only [Bag.mk_cons, B.gens]
    have h1 := bagA (α := Addr × Cel)
    have h2 := bagC (α := Addr × Cel)
    ac_rfl
  · show s.gens.push _ = _
    rw [B.gens]

theorem unpackT {t : Addr} {vs : List Value} {n : Nat} {Q : List Value → Shared → Prop} (hh : A.handled = none) (B : Sh h₁ os cs G s) (i : (t, tupP vs) ∈ cs) (hn : n = vs.length) (h : ∀ s', Sh h₁ os cs G s' → Q vs s') :
    wpAny (model prog w) A (unpackItems (.ref t) n none) Q E s := by
  have := wpAny_unpackItems_tuple (prog := prog) (w := w) (E := E) (Q := Q) hh (B.get i).tup fun h' x => h _ (B.heap' (B.hp.grow fun b o e => x b o (Nat.ne_of_lt (Heap.lt_size e)) e))
  rw [List.size_toArray, ← hn] at this
  exact this

theorem extend_lit {vs : List Value} {S it a : Addr} {res : Value} (hh : A.handled = none) {R : Result → Shared → Prop} (hz : vs.length ≤ sizeLine) : ∀ (k i : Nat) (s : Shared) (acc : List Value), vs.length - i = k → acc.length ≤ i →
    Sh h₁ os ((S, lstP acc) :: (it, litP a i) :: (a, lstP vs) :: cs) G s → (∀ s', Sh h₁ os ((S, lstP (acc ++ vs.drop i)) :: (it, lendP) :: (a, lstP vs) :: cs) G s' → R (.ok (.ret res)) s') →
    codeAny (model prog w) A (.builtin "list.extend.loop" ⟨[.ref S, .ref it, res], []⟩) R s := by
  intro k
  induction k with
  | zero =>
    intro i s acc hk ha B h
    refine codeAny_builtin F.entry_extend_loop ?_
    rw [Around.under_plainId F.plain_extend_loop _]
    show wpAny _ A.in1 (pyNext (.ref it) >>= _) _ _ s
    refine wpAny_bind (x_lit_end hh B (.there .here) (B.get (.tail _ (.tail _ (.head _)))).lst (List.getElem?_eq_none (by omega)) fun s' B' => wpAny_pure (h s' ?_))
    rw [List.drop_eq_nil_of_le (by omega), List.append_nil]
    exact B'
  | succ k ih =>
    intro i s acc hk ha B h
    have hlt : i < vs.length := by omega
    refine codeAny_builtin F.entry_extend_loop ?_
    rw [Around.under_plainId F.plain_extend_loop _]
    show wpAny _ A.in1 (pyNext (.ref it) >>= _) _ _ s
    refine wpAny_bind (x_lit_item B (.there .here) (B.get (.tail _ (.tail _ (.head _)))).lst (x := vs[i]) (by simp [hlt]) fun s' B' => ?_)
    show wpAny _ A.in1 (updateSeq S (·.push vs[i]) >>= _) _ _ _
    refine wpAny_bind ?_
    obtain ⟨o, ho, n, rfl⟩ := B'.get (.head _)
    refine wpAny_updateSeq ho rfl (wpAny_pure ⟨plainId_quiet F.plain_extend_loop _, ih (i + 1) _ (acc ++ [vs[i]]) (by omega) (by simp; omega) (B'.heap' (B'.hp.chgS .here (Heap.SameBut.update ..) ⟨_, Heap.get?_update_self _ ho rfl, _, by simp only [Obj.mapSeq, List.push_toArray]; rfl⟩)) fun s'' B'' => h s'' ?_⟩)
      (by simp; omega) (by simp; omega)
    rw [List.drop_eq_getElem_cons hlt]
    simpa using B''
theorem extend_lend {S it : Addr} {res : Value} (hh : A.handled = none) {R : Result → Shared → Prop} (B : Sh h₁ os cs G s) (i : (it, lendP) ∈ cs) (h : ∀ s', Sh h₁ os cs G s' → R (.ok (.ret res)) s') :
    codeAny (model prog w) A (.builtin "list.extend.loop" ⟨[.ref S, .ref it, res], []⟩) R s := by
  refine codeAny_builtin F.entry_extend_loop ?_
  rw [Around.under_plainId F.plain_extend_loop _]
  show wpAny _ A.in1 (pyNext (.ref it) >>= _) _ _ s
  exact wpAny_bind (x_lit_done hh B i fun s' B' => wpAny_pure (h s' B'))
/-- list of a list's iterator: the way to the loop -/
theorem listIt {it : Addr} {Q : Value → Shared → Prop} (hT : s.TypeIs (.ref it) "list_iterator") (B : Sh h₁ os ((L, nsP m) :: cs) G s) (hi : ∀ s' A' E' Q', Sh h₁ os ((L, nsP m) :: cs) G s' → Q' (.ref it) s' → wpAny (model prog w) A' (pyIter (.ref it)) Q' E' s') (hnew : it < s.heap.objs.size)
    (hty : ∀ s', Sh h₁ os ((L, nsP m) :: cs) G s' → s'.TypeIs (.ref it) "list_iterator")
    (h : ∀ S s', Sh h₁ os ((S, lstP []) :: (L, nsP m) :: cs) G s' → codeAny (model prog w) A.in1 (.builtin "list.extend.loop" ⟨[.ref S, .ref it, .none], []⟩) (fun r s'' => match r with | .ok (.ret v) => v = .none ∧ Q (.ref S) s'' | .ok _ => False | .error e => E e s'') s') :
    wpAny (model prog w) A (call (.type "list") [.ref it]) Q E s := by
  refine callType_codes (Q₁ := fun obj s₁ => obj = .ref s.heap.objs.size ∧ s₁ = { s with heap := s.heap.push { cls := .type "list", data := .seq #[] } }) F.called_list (F.typeCall_list_1 _) F.entry_list_init
    (code_list_new _ ⟨rfl, rfl⟩) fun obj s₁ h₁' => ?_
  obtain ⟨rfl, rfl⟩ := h₁'
  have hS : (s.heap.push { cls := .type "list", data := .seq #[] }).get? s.heap.objs.size = some { cls := .type "list", data := .seq #[] } := Heap.get?_push_size _ rfl
  have B1 : Sh h₁ os ((s.heap.objs.size, lstP []) :: (L, nsP m) :: cs) G { s with heap := s.heap.push { cls := .type "list", data := .seq #[] } } := B.heap' (B.hp.push rfl ⟨0, rfl⟩)
  refine ⟨⟨_, hS, rfl⟩, F.args_list_init_2 _ _, ?_⟩
  show wpAny _ _ (do let old ← Builtin.List.listItems (.ref s.heap.objs.size); Builtin.List.listUpdate (.ref s.heap.objs.size) (fun _ => #[]); letGo old.toList.reverse; Builtin.List.listExtendWith (.ref s.heap.objs.size) (.ref it) .none) _ _ _
  refine wpAny_bind ?_
  unfold Builtin.List.listItems
  refine wpAny_bind (wpAny_seqItems hS rfl (wpAny_pure ?_))
  show wpAny _ _ (updateSeq s.heap.objs.size (fun _ => #[]) >>= fun _ => letGo (#[] : Array Value).toList.reverse >>= fun _ => Builtin.List.listExtendWith (.ref s.heap.objs.size) (.ref it) .none) _ _ _
  refine wpAny_bind (wpAny_updateSeq hS rfl ?_)
  refine wpAny_bind (wpAny_letGo ?_)
  have B2 : Sh h₁ os ((s.heap.objs.size, lstP []) :: (L, nsP m) :: cs) G { s with heap := (s.heap.push { cls := .type "list", data := .seq #[] }).update s.heap.objs.size (Obj.mapSeq (fun _ => (#[] : Array Value))) } :=
    B1.heap' (B1.hp.chgS .here (Heap.SameBut.update ..) ⟨_, Heap.get?_update_self _ hS rfl, _, by simp only [Obj.mapSeq]; rfl⟩)
  have h1 : Builtin.List.listSameRef (.ref s.heap.objs.size) (.ref it) = false := by
    have hSI : s.heap.objs.size ≠ it := Nat.ne_of_gt hnew
    simp [Builtin.List.listSameRef, hSI]
  unfold Builtin.List.listExtendWith
  refine wpAny_bind (wpAny_typeOf (hty _ B2.drop) ?_)
  rw [if_neg (by rw [h1]; decide)]
  refine wpAny_bind (hi _ _ _ _ B2.drop ?_)
  refine wpAny_bind (wpAny_holding ?_)
  unfold Builtin.List.listLengthHint
  refine wpAny_bind (wpAny_specialOf (hty _ B2.drop) F.nolen_li ?_)
  show wpAny _ _ (specialOf (Value.ref it) (Str.ofString "__length_hint__") >>= _) _ _ _
  refine wpAny_bind (wpAny_specialOf (hty _ B2.drop) F.hint_li ?_)
  generalize hid : ("list_iterator.__length_hint__" : String) = id0
  wp_delta
  rw [show splitId id0 = some ("list_iterator", "__length_hint__") from by subst hid; decide +kernel]
  subst hid
  refine wpAny_bind (wpAny_isInstance (b := true) (hty _ B2.drop) (by rw [isSubtype_type]; kernel_rfl) ?_)
  refine wpAny_pure ?_
  rw [if_neg (by decide)]
  refine wpAny_pure ⟨plainId_quiet F.plain_extend_loop _, ?_⟩
  refine codeAny_mono (h _ _ B2) fun r s'' hr => ?_
  cases r with
  | error e => exact hr
  | ok fl => cases fl <;> exact hr
/-- a list's method -/
theorem r_meth {nm : Str} {id : String} {pl : Sem Bool} {a : Addr} {vs : List Value} {cs : Cels} {Q : Value × List Value → Shared → Prop} (B : Sh h₁ os cs G s) (i : (a, lstP vs) ∈ cs) (slot : Slot "list" nm id) (ht : typeOf (.builtin id) = pure (.type "method_descriptor")) (h : Q (.builtin id, [.ref a]) s) :
    wpAny (model prog w) A (getMethod (.ref a) nm pl) Q E s := by
  exact getMethod_list_of slot ht (B.get i).lst (B.get i).lstN h
end
end Mine
end
namespace Mine
local macro_rules | `(tactic| walk_at "pm") => `(tactic| (apply Mine.perm_of_mk; simp only [Mine.Bag.mk_append, Mine.Bag.mk_cons, Mine.Bag.mk_nil, Mine.Bag.add_zero, Mine.Bag.zero_add]; try (have h1 := Mine.bagA (α := Addr × Mine.Cel); have h2 := Mine.bagC (α := Addr × Mine.Cel); ac_rfl)))
local macro_rules | `(tactic| walk_at "nm") => `(tactic| first
  | (refine' t_ld ?k1 ?k2 ?k3 ?k4 ?k5 ?_; (case k3 => decide +kernel); (case k1 => assumption); (case k2 => first | exact rfl | assumption); (case k4 => decide +kernel); (case k5 => decide +kernel))
  | (refine' t_bi ?k0 ?k1 ?k2 ?k3 ?k4 ?k5 ?_; (case k0 => assumption); (case k2 => exact rfl); (case k1 => assumption); (case k3 => decide +kernel); (case k4 => decide +kernel); (case k5 => decide +kernel))
  | (refine' t_gl ?k0 ?k1 ?k2 ?k3 ?k4 ?k5 ?_; (case k0 => assumption); (case k2 => exact rfl); (case k1 => assumption); (case k3 => decide +kernel); (case k4 => decide +kernel); (case k5 => decide +kernel)))
local macro_rules | `(tactic| walk_at "mem") => `(tactic| (repeat (first | exact List.Mem.head _ | assumption | apply List.Mem.tail)))
local macro_rules | `(tactic| walk_at "upd") => `(tactic| (repeat (first | exact Mine.Upd.here | assumption | apply Mine.Upd.there)))
local macro_rules | `(tactic| walk_at "w") => `(tactic| first
  | ((with_reducible show wpAny _ _ (execs (_ :: _) _) _ _ _); refine wpAny_execs_cons ?_)
  | walk_at "v")
local macro_rules | `(tactic| walk_at "v") => `(tactic| first
  | ((with_reducible show wpAny _ _ (execs [] _) _ _ _); refine wpAny_execs_nil ?_)
  | ((with_reducible show wpAny _ _ (exec (Stmt.If _ _ _ _) _) _ _ _); refine wpAny_If ?_)
  | ((with_reducible show wpAny _ _ (exec (Stmt.Return (some _) _) _) _ _ _); refine wpAny_Return_some ?_)
  | ((with_reducible show wpAny _ _ (exec (Stmt.Assign [PySem.Expr.Name _ _] _ _) _) _ _ _); refine wpAny_Assign_Name ?_)
  | ((with_reducible show wpAny _ _ (exec (Stmt.Assign [PySem.Expr.Subscript _ _ _] _ _) _) _ _ _); refine wpAny_Assign_Subscript ?_)
  | ((with_reducible show wpAny _ _ (exec (Stmt.Expr _ _) _) _ _ _); refine wpAny_Expr_any ?_)
  | ((with_reducible show wpAny _ _ (PySem.isTrue (PySem.Expr.Compare _ [_] [_] _) _ _) _ _ _); refine wpAny_isTrue_Compare1 ?_)
  | ((with_reducible show wpAny _ _ (PySem.isTrue (PySem.Expr.BoolOp _ _ _) _ _) _ _ _); refine wpAny_isTrue_BoolOp ?_)
  | ((with_reducible show wpAny _ _ (PySem.isTrue (PySem.Expr.UnaryOp UnaryOp.Not _ _) _ _) _ _ _); refine wpAny_isTrue_Not ?_)
  | ((with_reducible show wpAny _ _ (PySem.isTrue _ _ _) _ _ _); refine wpAny_isTrue_value ?_)
  | ((with_reducible show wpAny _ _ (allTrue BoolOp.And (_ :: _) _) _ _ _); refine wpAny_allTrue_And_cons ?_)
  | ((with_reducible show wpAny _ _ (allTrue BoolOp.And [] _) _ _ _); refine wpAny_allTrue_And_nil ?_)
  | ((with_reducible show wpAny _ _ (allTrue BoolOp.Or (_ :: _) _) _ _ _); refine wpAny_allTrue_Or_cons ?_)
  | ((with_reducible show wpAny _ _ (allTrue BoolOp.Or [] _) _ _ _); refine wpAny_allTrue_Or_nil ?_)
  | ((with_reducible show wpAny _ _ (eval (PySem.Expr.Name _ _) _) _ _ _); walk_at "nm")
  | ((with_reducible show wpAny _ _ (eval (PySem.Expr.Constant (Const.int _) _ _) _) _ _ _); refine' r_int ?k1 ?_; (case k1 => assumption); intro _ _ _)
  | ((with_reducible show wpAny _ _ (eval (PySem.Expr.Constant (Const.str _) _ _) _) _ _ _); refine' r_str ?k1 ?_; (case k1 => assumption); intro _ _ _)
  | ((with_reducible show wpAny _ _ (eval (PySem.Expr.Constant (Const.bool _) _ _) _) _ _ _); refine r_bool ?_)
  | ((with_reducible show wpAny _ _ (eval (PySem.Expr.Constant Const.none _ _) _) _ _ _); refine r_none ?_)
  | ((with_reducible show wpAny _ _ (eval (PySem.Expr.BinOp _ _ _ _) _) _ _ _); refine wpAny_BinOp ?_)
  | ((with_reducible show wpAny _ _ (eval (PySem.Expr.Compare _ [_] [_] _) _) _ _ _); refine wpAny_Compare1 ?_)
  | ((with_reducible show wpAny _ _ (eval (PySem.Expr.IfExp _ _ _ _) _) _ _ _); refine wpAny_IfExp ?_)
  | ((with_reducible show wpAny _ _ (eval (PySem.Expr.UnaryOp _ _ _) _) _ _ _); refine wpAny_UnaryOp ?_)
  | ((with_reducible show wpAny _ _ (eval (PySem.Expr.BoolOp BoolOp.And [_, _] _) _) _ _ _); refine wpAny_And2 ?_)
  | ((with_reducible show wpAny _ _ (eval (PySem.Expr.BoolOp BoolOp.Or [_, _] _) _) _ _ _); refine wpAny_Or2 ?_)
  | ((with_reducible show wpAny _ _ (eval (PySem.Expr.Tuple _ _ _) _) _ _ _); refine Tuple_ ?_)
  | ((with_reducible show wpAny _ _ (eval (PySem.Expr.List _ _) _) _ _ _); refine List_ ?_)
  | ((with_reducible show wpAny _ _ (eval (PySem.Expr.Subscript _ _ _) _) _ _ _); refine Subscript_ ?_)
  | ((with_reducible show wpAny _ _ (eval (PySem.Expr.Call (PySem.Expr.Attribute _ _ _) _ [] _) _) _ _ _); refine MethodCall_ ?_)
  | ((with_reducible show wpAny _ _ (eval (PySem.Expr.Call _ _ [] _) _) _ _ _); refine Call_ ?_)
  | ((with_reducible show wpAny _ _ (spliced (backTo _ (starEach (_ :: _) _))) _ _ _); refine spliced_more ?_)
  | ((with_reducible show wpAny _ _ (spliced (backTo _ (starEach [] _))) _ _ _); refine spliced_none ?_)
  | ((with_reducible show wpAny _ _ (callWith _ (Value.builtin _) [] (backTo _ (starEach (_ :: _) _)) []) _ _ _); refine PyProof.Rows.callWith_builtin1 ?_)
  | ((with_reducible show wpAny _ _ (callWith _ (Value.type _) [] (backTo _ (starEach (_ :: _) _)) []) _ _ _); refine PyProof.Rows.callWith_type1 ?_)
  | ((with_reducible show wpAny _ _ (callWith _ (Value.builtin _) _ (backTo _ (starEach (_ :: _) _)) []) _ _ _); refine callWith_method1 ?_)
  | ((with_reducible show wpAny _ _ (newList _) _ _ _); refine' r_newList ?k1 ?_; (case k1 => assumption); intro _ _ _)
  | ((with_reducible show wpAny _ _ (newTuple _) _ _ _); refine' r_newTuple ?k1 ?_; (case k1 => assumption); intro _ _ _)
  | ((with_reducible show wpAny _ _ (storeName _ _ _) _ _ _); refine' r_set ?k1 ?_ ?k3 ?k4; (case k1 => assumption); (case k3 => decide +kernel); (case k4 => decide +kernel); intro _ _)
  | ((with_reducible show wpAny _ _ (assignInOrder _ _) _ _ _); first | (refine wpAny_assignInOrder_more ?_; refine wpAny_assign_Name ?_) | refine wpAny_assignInOrder_none ?_)
  | ((with_reducible show wpAny _ _ (truthy (Value.bool _)) _ _ _); refine wpAny_truthy_bool ?_)
  | ((with_reducible show wpAny _ _ (compareOp CmpOp.GtE (Value.int _ _) (Value.int _ _)) _ _ _); refine P.ge_int ?_)
  | ((with_reducible show wpAny _ _ (compareOp CmpOp.NotEq (Value.str _ _) (Value.str _ _)) _ _ _); refine ne_str ?_)
  | ((with_reducible show wpAny _ _ (compareOp CmpOp.Is Value.none Value.none) _ _ _); refine wpAny_is_plain rfl ?_)
  | ((with_reducible show wpAny _ _ (compareOp CmpOp.Is (Value.ref _) Value.none) _ _ _); refine wpAny_is_plain rfl ?_)
  | ((with_reducible show wpAny _ _ (compareOp CmpOp.Is (Value.type _) (Value.type _)) _ _ _); refine wpAny_is_plain rfl ?_)
  | ((with_reducible show wpAny _ _ (call (Value.type "type") [Value.int _ _]) _ _ _); refine call_type_of (Tx := "int") rfl rfl ?_)
  | ((with_reducible show wpAny _ _ (call (Value.type "type") [Value.str _ _]) _ _ _); refine call_type_of (Tx := "str") rfl rfl ?_)
  | ((with_reducible show wpAny _ _ (call (Value.type "type") [Value.none]) _ _ _); refine call_type_of (Tx := "NoneType") rfl rfl ?_)
  | ((with_reducible show wpAny _ _ (inplaceOp Operator.Add (Value.int _ _) (Value.int _ _)) _ _ _); refine' r_iadd ?k1 ?_; (case k1 => assumption); intro _ _ _)
  | ((with_reducible show wpAny _ _ (exec (Stmt.AugAssign (PySem.Expr.Subscript _ _ _) _ _ _) _) _ _ _); refine wpAny_AugAssign_Subscript_any ?_)
  | ((with_reducible show wpAny _ _ (compareOp CmpOp.Eq (Value.int _ _) (Value.int _ _)) _ _ _); refine eq_int ?_)
  | ((with_reducible show wpAny _ _ (compareOp CmpOp.Lt (Value.int _ _) (Value.int _ _)) _ _ _); refine PyProof.Rows.lt_int ?_)
  | ((with_reducible show wpAny _ _ (binaryOp Operator.Add (Value.int _ _) (Value.int _ _)) _ _ _); refine' r_add ?k1 ?_; (case k1 => assumption); intro _ _ _)
  | ((with_reducible show wpAny _ _ (binaryOp Operator.Sub (Value.int _ _) (Value.int _ _)) _ _ _); refine' r_sub ?k1 ?_; (case k1 => assumption); intro _ _ _)
  | ((with_reducible show wpAny _ _ (binaryOp Operator.Mod (Value.int _ _) (Value.int _ _)) _ _ _); refine' r_mod ?k1 ?k2 ?_; (case k1 => assumption); (case k2 => first | decide | omega); intro _ _ _)
  | ((with_reducible show wpAny _ _ (unaryOp UnaryOp.USub (Value.int _ _)) _ _ _); refine' r_neg ?k1 ?_; (case k1 => assumption); intro _ _ _)
  | ((with_reducible show wpAny _ _ (call (Value.builtin "abs") [Value.int _ _]) _ _ _); refine' r_abs ?k1 ?_; (case k1 => assumption); intro _ _ _)
  | ((with_reducible show wpAny _ _ (call (Value.type "str") [Value.int _ _]) _ _ _); refine' r_strInt ?k1 ?k2 ?_; (case k1 => assumption); rotate_left; intro _ _ _))

section
abbrev PP : Program := PySem.Challenge.pw_dn0164_02
def dFail : { b : Arguments × List Stmt × Scope // b = ((PP.theDef "_fail_neg").getD default) } := by
  refine ⟨?b, Eq.symm ?h⟩
  case h => conv => lhs; whnf
abbrev prFail : Arguments := dFail.1.1
abbrev bdFail : List Stmt := dFail.1.2.1
abbrev scFail : Scope := dFail.1.2.2
def fLoop : Stmt → PySem.Expr × List Stmt
  | .For t _ b _ _ => (t, b)
  | _ => (.Constant .none 0 ⟨0, 0, 0, 0⟩, [])
def dLoop : { b : PySem.Expr × List Stmt // b = fLoop (bdFail.headD (.Pass ⟨0, 0, 0, 0⟩)) } := by
  refine ⟨?b, Eq.symm ?h⟩
  case h => conv => lhs; whnf
abbrev fTarget : PySem.Expr := dLoop.1.1
abbrev fBody : List Stmt := dLoop.1.2
abbrev fEnv (L f : Addr) (cd : Value) : Env := envOf "_fail_neg" scFail L f cd
abbrev fCode (it : Value) (env : Env) : Code := .forLoop fTarget it fBody [] env
def fK (f : Flow) : Sem PySem.Fin := .pure (.done (.ret (match f with | .ret v => v | _ => .none)))
def fH (env : Env) (e : Value) : Sem PySem.Fin := (leaving env e).wrap (fun _ => .raise e) .raise id id
def fFrames (env : Env) (p : Pos) : List Frame := [.ret (loopK env fK (fH env) id id) none false [] (.func bdFail env) p []]

section
variable {w : World} {A : Around} {s : Shared} {h₁ : Heap} {os : OsState} {cs : Cels} {G : Array GenState} {L f C N : Addr} {m mg mb : Str → Option Value} {cd : Value} {glV biV : List (Str × Value)} {Φ : End → Shared → Prop} {p : Pos} {outer : List Env}

theorem fOver_handled {it : Value} {env : Env} : (A.over (fCode it env) (fFrames env p)).handled = A.handled := rfl
theorem fOver_frames {it : Value} (hfr : A.frames = some outer) : (A.over (fCode it (fEnv L f cd)) (fFrames (fEnv L f cd) p)).frames = some (fEnv L f cd :: outer) := by
  obtain ⟨hd, d, fr, gs, u⟩ := A
  dsimp only at hfr
  subst hfr
  rfl
theorem fOver_depth {it : Value} {env : Env} : (A.over (fCode it env) (fFrames env p)).depth = A.depth + 1 := rfl
theorem fOver_units {it : Value} {env : Env} : (A.over (fCode it env) (fFrames env p)).units = A.units + 3 := rfl

/-- an error goes out of the guard's loop and its frame -/
theorem fail_out {it : Value} {e : Addr} {Cx v0 : Value} (hfr : A.frames = some outer) (F : Fly h₁ os cs G e Cx v0 none s ∨ Fly h₁ os cs G e Cx v0 (some .none) s) (hF : FramesIn (fEnv L f cd :: outer) cs)
    (h : ∀ s', Fly h₁ os cs G e Cx v0 (some .none) s' → Φ (.ret (.error (.ref e))) s') :
    Sg (model PP w) A Φ (fCode it (fEnv L f cd)) (outLoop (fEnv L f cd) (.ref e)) (fFrames (fEnv L f cd) p) s := by
  have go : ∀ s', Fly h₁ os cs G e Cx v0 (some (rawInt L)) s' → wpAny (model PP w) (A.over (fCode it (fEnv L f cd)) (fFrames (fEnv L f cd) p)) (theTreesLotGoes (.ref e)) (fun _ s'' => Sg (model PP w) A Φ (fCode it (fEnv L f cd)) (.raise (.ref e)) (fFrames (fEnv L f cd) p) s'') (fun x s'' => Sg (model PP w) A Φ (fCode it (fEnv L f cd)) (.raise x) (fFrames (fEnv L f cd) p) s'') s' := by
    intro s' F'
    refine wpAny_theTreesLotGoes ?_
    refine sg_leaf (.error (.ref e)) ?_
    unfold loopK
    show Sg _ _ _ _ ((Sem.bind _ fun _ => Sem.raise (.ref e)).wrap fK (fH (fEnv L f cd)) id id) [] s'
    refine sg_bw ?_
    obtain ⟨tb, B⟩ := id F'
    obtain ⟨oe, he, hcl, hd⟩ := B.get (.head _)
    refine wpAny_bind (wpAny_field he hd (x := .ref tb) rfl ?_)
    rw [if_neg (show ¬ ((Value.ref tb == Value.none) = true) from by simp)]
    refine f_set F' fun s'' F'' => ?_
    show Sg _ _ _ _ (fH (fEnv L f cd) (.ref e)) [] s''
    unfold fH
    exact sg_wrap (f_leave (env := fEnv L f cd) F'' rfl fun s₃ F₃ => sg_end (.error (.ref e)) (h s₃ F₃))
  unfold outLoop
  refine sg_bind (wpAny_bind ?_)
  rcases F with F | F
  · exact n_first F (fOver_frames hfr) hF rfl go
  · exact n_next F (fOver_frames hfr) hF rfl go

/-- one turn of a guard, from the loop's head on -/
theorem guard_head {it : Value} (T : Tp glV biV h₁ mg mb) (X : Er h₁ C N) (hx : glV.lookup (Str.ofString "StatisticsError") = some (.ref C)) (hh : A.handled = none) (hfr : A.frames = some outer)
    (hn : wpAny (model PP w) (A.over (fCode it (fEnv L f cd)) (fFrames (fEnv L f cd) p)) (pyNext it) (fun r s₁ => match r with
      | none => Φ (.ret (.ok (.ret .none))) s₁
      | some v => ∃ cs G m ew, Sh h₁ os ((L, nsP m) :: cs) G s₁ ∧ m "errmsg" = some ew ∧ FramesIn outer cs ∧ ((∃ i t, v = .int i t ∧
          (i < 0 → ∀ e t m' s', (∀ y, y ≠ Str.ofString "x" → m' y = m y) → Fly h₁ os ((t, tupP [ew]) :: (L, nsP m') :: cs) G e (.ref C) (.ref t) (some .none) s' → Φ (.ret (.error (.ref e))) s') ∧
          (0 ≤ i → ∀ m' s' l k q, (∀ y, y ≠ Str.ofString "x" → m' y = m y) → Sh h₁ os ((L, nsP m') :: cs) G s' → Ready (model PP w) (fCode it (fEnv L f cd)) (fFrames (fEnv L f cd) p) (.suspended k l (fCode it (fEnv L f cd)) q (fFrames (fEnv L f cd) p) false) →
            Φ (.susp v false l k (fCode it (fEnv L f cd)) q (fFrames (fEnv L f cd) p)) s')) ∨
        (∃ x t, v = .str x t ∧ ∀ e v0 m' s', (∀ y, y ≠ Str.ofString "x" → m' y = m y) → Fly h₁ os ((L, nsP m') :: cs) G e (.type "TypeError") v0 (some .none) s' → Φ (.ret (.error (.ref e))) s')))
      (fun e s₁ => ∃ cs G a Cx v0, e = .ref a ∧ Fly h₁ os cs G a Cx v0 (some .none) s₁ ∧ FramesIn (fEnv L f cd :: outer) cs ∧ ∀ s', Fly h₁ os cs G a Cx v0 (some .none) s' → Φ (.ret (.error e)) s') s) :
    Sg (model PP w) A Φ (fCode it (fEnv L f cd)) ((model PP w).den (fCode it (fEnv L f cd))) (fFrames (fEnv L f cd) p) s := by
  refine sg_forLoop (wpAny_mono hn (fun r s₁ h₁' => ?_) fun e s₁ h₁' => ?_)
  · cases r with
    | none =>
      refine sg_again rfl ?_
      refine sg_bind (wpAny_noted (wpAny_execs_nil ?_))
      refine sg_leaf (.ok .next) ?_
      refine sg_end (.ok (.ret .none)) h₁'
    | some v =>
      obtain ⟨cs, G, m, ew, B, hew, hF, hcase⟩ := h₁'
      refine r_st B rfl ?_ (by decide +kernel) (by decide +kernel)
      intro s B
      have hx' : (fun y => if y = (Str.ofString "x") then some v else m y) (Str.ofString "x") = some v := if_pos rfl
      have hw' : (fun y => if y = (Str.ofString "x") then some v else m y) (Str.ofString "errmsg") = some ew := hew
      have hoth : ∀ y, y ≠ Str.ofString "x" → (fun y => if y = (Str.ofString "x") then some v else m y) y = m y := fun y hy => if_neg hy
      generalize (fun y => if y = (Str.ofString "x") then some v else m y) = m' at B hx' hw' hoth
      have hFF : FramesIn (fEnv L f cd :: outer) ((L, nsP m') :: cs) := hF.tail.cons (by show scFail.kind ≠ _; decide +kernel) rfl (.head _)
      refine sg_execs_cons ?_
      refine sg_wrap ?_
      refine wpAny_If ?_
      refine wpAny_isTrue_Compare1 ?_
      refine t_ld B hx' (by decide +kernel) (by decide +kernel) (by decide +kernel) ?_
      refine r_int B ?_
      intro t0 s B
      rcases hcase with ⟨i, t, rfl, hlt, hge⟩ | ⟨x, t, rfl, hst⟩
      · refine PyProof.Rows.lt_int ?_
        refine wpAny_truthy_bool ?_
        by_cases hi : i < 0
        · rw [if_pos (by simpa using hi)]
          refine wpAny_execs_cons ?_
          refine r_raise T X hh B hx hw' (by decide +kernel) (by decide +kernel) (by decide +kernel) (by decide +kernel) (by decide +kernel) ?_
          intro e te s F
          exact fail_out hfr (.inl F) hFF.tail fun s' F' => hlt hi e te m' s' hoth F'
        · rw [if_neg (by simpa using hi)]
          refine wpAny_execs_nil ?_
          refine sg_execs_cons ?_
          refine sg_Yield rfl rfl ?_
          refine t_ld B hx' (by decide +kernel) (by decide +kernel) (by decide +kernel) ?_
          intro l k q hk
          refine hge (by omega) m' s l k q hoth B ⟨k, l, q, rfl, fun A' Φ' s' hs => hk A' Φ' s' ?_⟩
          exact sg_again rfl hs
      · refine r_lt_str_int hh B ?_
        intro e v0 s F
        exact fail_out hfr (.inl F) hFF fun s' F' => hst e v0 m' s' hoth F'
  · obtain ⟨cs, G, a, Cx, v0, rfl, F, hF, h⟩ := h₁'
    exact fail_out hfr (.inr F) hF h
end
end
section
/-- an item of the row -/
inductive It where
  | i (n : Int)
  | t (x : Str)
def It.Is : It → Value → Prop
  | .i n, v => ∃ t, v = .int n t
  | .t x, v => ∃ t, v = .str x t
inductive Kd where
  | row
  | src
  | on (j : Nat)
deriving DecidableEq
/-- a guard: what it stands on, its words, whether it goes on, its own place and whether its own well still gives -/
structure GD where
  kd : Kd
  u : Int
  words : Str
  going : Bool
  pos : Nat
  live : Bool
structure W2 where
  items : List It
  sp : Nat
  sa : Bool
  gs : List GD
inductive Rs where
  | fin
  | item (n : Int)
  | below (w : Str)
  | nonum
def Rs.isItem : Rs → Bool
  | .item _ => true
  | _ => false
def readIt (x : It) (w : Str) : Rs := match x with
  | .t _ => .nonum
  | .i n => if n < 0 then .below w else .item n
def W2.upd (W : W2) (k : Nat) (f : GD → GD) : W2 := { W with gs := W.gs.modify k f }
def W2.stop (W : W2) (k : Nat) : W2 := W.upd k fun d => { d with going := false }
/-- place and life of the well of a guard -/
def W2.well (W : W2) (d : GD) : Nat × Bool := match d.kd with
  | .src => (W.sp, W.sa)
  | _ => (d.pos, d.live)
def W2.setWell (W : W2) (k : Nat) (d : GD) (p : Nat) (b : Bool) : W2 := match d.kd with
  | .src => { W with sp := p, sa := b }
  | _ => W.upd k fun d => { d with pos := p, live := b }
def W2.endIf (W : W2) (k : Nat) (r : Rs) : W2 := if r.isItem then W else W.stop k
/-- a guard is asked: its answer and what is then -/
def ask (W : W2) (k : Nat) : Rs × W2 :=
  match W.gs[k]? with
  | none => (.fin, W)
  | some d =>
    if d.going then
      match d.kd with
      | .on j => if _h : j < k then ((ask W j).1, (ask W j).2.endIf k (ask W j).1) else (.fin, W)
      | _ =>
        match (if (W.well d).2 then W.items[(W.well d).1]? else none) with
        | none => (.fin, (W.setWell k d (W.well d).1 false).stop k)
        | some x => (readIt x d.words, (W.setWell k d ((W.well d).1 + 1) true).endIf k (readIt x d.words))
    else (.fin, W)
termination_by k
end
section
def dDue : { b : Arguments × List Stmt × Scope // b = ((PP.theDef "_law_due").getD default) } := by
  refine ⟨?b, Eq.symm ?h⟩
  case h => conv => lhs; whnf
abbrev prDue : Arguments := dDue.1.1
abbrev bdDue : List Stmt := dDue.1.2.1
abbrev scDue : Scope := dDue.1.2.2
def gl2 : List (Str × Value) := [("StatisticsError", .ref 24), ("_fail_neg", .ref 35), ("_law_item", .ref 42), ("_law_due", .ref 49), ("_law_told", .ref 56), ("_law_right", .ref 63)]
def bi2 : List (Str × Value) := [("len", .builtin "len"), ("abs", .builtin "abs"), ("str", .type "str"), ("next", .builtin "next"), ("type", .type "type"), ("list", .type "list"), ("iter", .builtin "iter"), ("max", .builtin "max"), ("range", .type "range"), ("StopIteration", .type "StopIteration"), ("TypeError", .type "TypeError")]
abbrev Tp2 := Tp gl2 bi2

structure Ad where
  P : Addr
  Sh : Addr
  M : Addr
  G : Addr
  R : Addr
  S : Addr
  pe : Nat → Addr
  pw : Nat → Addr
  ga : Nat → Addr
  gf : Nat → Addr
  it : Nat → Addr
  gi : Nat → Nat
structure Tk where
  u : Nat → Tok
  wd : Nat → Tok
  p : Nat → Tok
  s : Tok
  mv : List Value

def wellV (ad : Ad) (k : Nat) (d : GD) : Value := match d.kd with
  | .row => .ref (ad.pw k)
  | .src => .ref ad.Sh
  | .on _ => .none
def pEnt (ad : Ad) (τ : Tk) (k : Nat) (d : GD) : List Value := [.int d.u (τ.u k), wellV ad k d, .str d.words (τ.wd k), .bool d.going]
def pWel (τ : Tk) (k : Nat) (d : GD) : List Value := [.int d.pos (τ.p k), .bool d.live]
def pShd (τ : Tk) (W : W2) : List Value := [.int W.sp τ.s, .bool W.sa]
def pOne (ad : Ad) (τ : Tk) (W : W2) (k : Nat) : Cels := match W.gs[k]? with
  | none => []
  | some d => (ad.pe k, lstP (pEnt ad τ k d)) :: (if d.kd = .row then [(ad.pw k, lstP (pWel τ k d))] else [])
def pLst (ad : Ad) (n : Nat) : List Value := (List.range n).map fun k => .ref (ad.pe k)
def pC (ad : Ad) (τ : Tk) (W : W2) : Cels :=
  (ad.P, lstP (pLst ad W.gs.length)) :: (ad.Sh, lstP (pShd τ W)) :: (ad.M, lstP τ.mv) :: (List.range W.gs.length).flatMap (pOne ad τ W)

/-- what is so of every world of the law -/
structure W2.Ok (W : W2) : Prop where
  on : ∀ (k : Nat) (d : GD) (j : Nat), W.gs[k]? = some d → d.kd = .on j → j < k ∧ d.u = j
  big : W.items.length ≤ 1000
  few : W.gs.length ≤ 200

def ResIs : Rs → List Value → Prop
  | .fin, vs => ∃ t, vs = [.str "end" t, .none]
  | .item n, vs => ∃ t u, vs = [.str "item" t, .int n u]
  | .below x, vs => ∃ t u, vs = [.str "below" t, .str x u]
  | .nonum, vs => ∃ t, vs = [.str "no number" t, .none]

section
variable {ad : Ad} {τ : Tk} {W : W2} {k : Nat} {d : GD}
theorem pC_P : (ad.P, lstP (pLst ad W.gs.length)) ∈ pC ad τ W := .head _
theorem pC_Sh : (ad.Sh, lstP (pShd τ W)) ∈ pC ad τ W := .tail _ (.head _)
theorem pC_M : (ad.M, lstP τ.mv) ∈ pC ad τ W := .tail _ (.tail _ (.head _))
theorem pC_pe (h : W.gs[k]? = some d) : (ad.pe k, lstP (pEnt ad τ k d)) ∈ pC ad τ W :=
  .tail _ (.tail _ (.tail _ (List.mem_flatMap.mpr ⟨k, List.mem_range.mpr (List.getElem?_eq_some_iff.mp h).1, by unfold pOne; rw [h]; exact .head _⟩)))
theorem pC_pw (h : W.gs[k]? = some d) (hr : d.kd = .row) : (ad.pw k, lstP (pWel τ k d)) ∈ pC ad τ W :=
  .tail _ (.tail _ (.tail _ (List.mem_flatMap.mpr ⟨k, List.mem_range.mpr (List.getElem?_eq_some_iff.mp h).1, by unfold pOne; rw [h]; simp [hr]⟩)))

theorem pOne_other {f : GD → GD} {τ' : Tk} (hu : ∀ j, j ≠ k → τ'.u j = τ.u j) (hw : ∀ j, j ≠ k → τ'.wd j = τ.wd j) (hp : ∀ j, j ≠ k → τ'.p j = τ.p j) (j : Nat) (hj : j ≠ k) : pOne ad τ' (W.upd k f) j = pOne ad τ W j := by
  unfold pOne W2.upd pEnt pWel
  simp only [List.getElem?_modify, Ne.symm hj, if_false, hu j hj, hw j hj, hp j hj]
  simp
theorem gs_upd (h : W.gs[k]? = some d) (f : GD → GD) : (W.upd k f).gs[k]? = some (f d) := by
  unfold W2.upd
  simp only [List.getElem?_modify, h]
  simp

/-- a guard's flag turns -/
theorem upd_stop (h : W.gs[k]? = some d) : Upd (ad.pe k) (lstP (pEnt ad τ k d)) (lstP (pEnt ad τ k { d with going := false })) (pC ad τ W) (pC ad τ (W.stop k)) := by
  unfold pC
  have hl : (W.stop k).gs.length = W.gs.length := by simp [W2.stop, W2.upd]
  rw [hl]
  refine .there (.there (.there (Upd.range (k := k) (fun j hj => pOne_other (fun _ _ => rfl) (fun _ _ => rfl) (fun _ _ => rfl) j hj) ?_ (List.getElem?_eq_some_iff.mp h).1)))
  have h' := gs_upd h fun d => { d with going := false }
  unfold pOne
  rw [h]
  have h'' : (W.stop k).gs[k]? = some { d with going := false } := h'
  rw [h'']
  exact .here
/-- a guard's own well turns -/
theorem upd_well {p : Nat} {b : Bool} {t : Tok} (h : W.gs[k]? = some d) (hr : d.kd = .row) :
    Upd (ad.pw k) (lstP (pWel τ k d)) (lstP [.int p t, .bool b]) (pC ad τ W) (pC ad { τ with p := fun j => if j = k then t else τ.p j } (W.setWell k d p b)) := by
  have hs : W.setWell k d p b = W.upd k fun d => { d with pos := p, live := b } := by unfold W2.setWell; rw [hr]
  rw [hs]
  unfold pC
  have hl : (W.upd k fun d => { d with pos := p, live := b }).gs.length = W.gs.length := by simp [W2.upd]
  rw [hl]
  refine .there (.there (.there (Upd.range (k := k) (fun j hj => pOne_other (τ := τ) (τ' := { τ with p := fun j => if j = k then t else τ.p j }) (fun _ _ => rfl) (fun _ _ => rfl) (fun i hi => if_neg hi) j hj) ?_ (List.getElem?_eq_some_iff.mp h).1)))
  have h' := gs_upd h fun d => { d with pos := p, live := b }
  unfold pOne
  rw [h, h']
  have : pWel { τ with p := fun j => if j = k then t else τ.p j } k { d with pos := p, live := b } = [.int p t, .bool b] := by simp [pWel]
  show Upd _ _ _ (_ :: (if d.kd = .row then _ else _)) (_ :: (if d.kd = .row then _ else _))
  rw [if_pos hr, if_pos hr, this]
  exact .there .here
/-- the shared well turns -/
theorem upd_shared {p : Nat} {b : Bool} {t : Tok} (hr : d.kd = .src) :
    Upd ad.Sh (lstP (pShd τ W)) (lstP [.int p t, .bool b]) (pC ad τ W) (pC ad { τ with s := t } (W.setWell k d p b)) := by
  have hs : W.setWell k d p b = { W with sp := p, sa := b } := by unfold W2.setWell; rw [hr]
  rw [hs]
  exact .there .here
end
end
section
inductive ItsAre : List It → List Value → Prop
  | nil : ItsAre [] []
  | cons {x v xs vs} : It.Is x v → ItsAre xs vs → ItsAre (x :: xs) (v :: vs)
theorem ItsAre.length : ∀ {xs vs}, ItsAre xs vs → vs.length = xs.length
  | _, _, .nil => rfl
  | _, _, .cons _ r => by simp [r.length]
theorem ItsAre.get : ∀ {xs : List It} {vs : List Value}, ItsAre xs vs → ∀ (i : Nat) (x : It), xs[i]? = some x → ∃ v, vs[i]? = some v ∧ It.Is x v
  | _, _, .cons h _, 0, x, e => by simp at e; subst e; exact ⟨_, rfl, h⟩
  | _, _, .cons _ r, i + 1, x, e => by simpa using r.get i x (by simpa using e)

theorem ResIs.two {r : Rs} {vs : List Value} (h : ResIs r vs) : ∃ x t v, vs = [.str x t, v] ∧ (x != (Str.ofString "item")) = !r.isItem := by
  cases r with
  | fin => obtain ⟨t, rfl⟩ := h; exact ⟨_, _, _, rfl, by decide +kernel⟩
  | item n => obtain ⟨t, u, rfl⟩ := h; exact ⟨_, _, _, rfl, by show _ = false; decide +kernel⟩
  | below x => obtain ⟨t, u, rfl⟩ := h; exact ⟨_, _, _, rfl, by show _ = true; decide +kernel⟩
  | nonum => obtain ⟨t, rfl⟩ := h; exact ⟨_, _, _, rfl, by decide +kernel⟩

/-- the end of _law_due -/
theorem due_tail {w : World} {A : Around} {h₁ : Heap} {os : OsState} {rest : Cels} {G : Array GenState} {cd : Value} {ad : Ad} {E : Value → Shared → Prop} {Q : Flow → Shared → Prop} {s : Shared} {L tp : Addr} {m : Str → Option Value} {vs : List Value} {τ : Tk} {W : W2} {d : GD} {k : Nat} {tk : Tok} {r : Rs}
    (hk : k < 1000) (hd : W.gs[k]? = some d) (hr : ResIs r vs) (B : Sh h₁ os ((L, nsP m) :: (tp, tupP vs) :: (pC ad τ W ++ rest)) G s)
    (m1 : m (Str.ofString "due") = some (.ref tp)) (m2 : m (Str.ofString "plan") = some (.ref ad.P)) (m3 : m (Str.ofString "k") = some (.int k tk))
    (h : ∀ s', Sh h₁ os ((L, nsP m) :: (tp, tupP vs) :: (pC ad τ (W.endIf k r) ++ rest)) G s' → Q (.ret (.ref tp)) s') :
    wpAny (model PP w) A (execs (bdDue.drop 3) (envOf "_law_due" scDue L 49 cd)) Q E s := by
  obtain ⟨x, t, v, rfl, hx⟩ := hr.two
  have hlt := (List.getElem?_eq_some_iff.mp hd).1
  refine wpAny_execs_cons ?_
  repeat walk_at "w"
  refine r_itemT (by assumption) (by walk_at "mem") (by decide) (by decide) rfl ?_
  repeat walk_at "w"
  rw [hx]
  cases hi : r.isItem with
  | true =>
    rw [if_neg (by decide)]
    repeat walk_at "w"
    exact h _ (by rw [W2.endIf, if_pos hi]; assumption)
  | false =>
    rw [if_pos (by decide)]
    have mP : (ad.P, lstP (pLst ad W.gs.length)) ∈ pC ad τ W ++ rest := List.mem_append_left _ pC_P
    repeat walk_at "w"
    refine r_item (by assumption) (by walk_at "mem") (by omega) (by omega) (x := .ref (ad.pe k)) (by simp [pLst, hlt]) ?_
    repeat walk_at "w"
    refine r_setItem (by assumption) (.there (.there ((upd_stop hd).app rest))) (by decide) (by decide) (by simp [pEnt]) ?_
    intro s B
    repeat walk_at "w"
    exact h _ (by rw [W2.endIf, if_neg (by rw [hi]; decide)]; exact B)

theorem ask_len (W : W2) (k : Nat) : (ask W k).2.gs.length = W.gs.length := by
  induction k using Nat.strongRecOn with
  | ind k ih =>
  rw [ask]
  split
  · rfl
  · rename_i d hd
    split
    · split
      · split
        · rename_i j hj h
          have := ih _ h
          simp only [W2.endIf]
          split
          · exact this
          · simpa [W2.stop, W2.upd] using this
        · rfl
      · split
        · simp only [W2.stop, W2.upd, W2.setWell]; split <;> simp
        · simp only [W2.endIf, W2.stop, W2.upd, W2.setWell]; split <;> split <;> simp
    · rfl
theorem ask_items (W : W2) (k : Nat) : (ask W k).2.items = W.items := by
  induction k using Nat.strongRecOn with
  | ind k ih =>
  rw [ask]
  split
  · rfl
  · rename_i d hd
    split
    · split
      · split
        · rename_i j hj h
          have := ih _ h
          simp only [W2.endIf]
          split
          · exact this
          · simpa [W2.stop, W2.upd] using this
        · rfl
      · split
        · simp only [W2.stop, W2.upd, W2.setWell]; split <;> simp
        · simp only [W2.endIf, W2.stop, W2.upd, W2.setWell]; split <;> split <;> simp
    · rfl
theorem stop_other (W : W2) {j k : Nat} (h : k ≠ j) : (W.stop j).gs[k]? = W.gs[k]? := by
  simp [W2.stop, W2.upd, List.getElem?_modify, Ne.symm h]
theorem setWell_other (W : W2) {j k : Nat} (h : k ≠ j) (d : GD) (p : Nat) (b : Bool) : (W.setWell j d p b).gs[k]? = W.gs[k]? := by
  unfold W2.setWell; split
  · rfl
  · simp [W2.upd, List.getElem?_modify, Ne.symm h]
theorem endIf_other (W : W2) {j k : Nat} (h : k ≠ j) (r : Rs) : (W.endIf j r).gs[k]? = W.gs[k]? := by
  unfold W2.endIf; split
  · rfl
  · exact stop_other W h
theorem ask_other (W : W2) (j k : Nat) (h : j < k) : (ask W j).2.gs[k]? = W.gs[k]? := by
  induction j using Nat.strongRecOn with
  | ind j ih =>
  have hne : k ≠ j := by omega
  rw [ask]
  split
  · rfl
  · split
    · split
      · split
        · rename_i i _ hij
          rw [endIf_other _ hne, ih _ hij (by omega)]
        · rfl
      · split
        · rw [stop_other _ hne, setWell_other _ hne]
        · rw [endIf_other _ hne, setWell_other _ hne]
    · rfl
theorem due_call {w : World} {h₁ : Heap} {os : OsState} {G : Array GenState} {cd : Value} {mg mb : Str → Option Value} {ad : Ad}
    (T : Tp2 h₁ mg mb) (F : Fn h₁ 49 "_law_due" prDue bdDue scDue cd) : ∀ (k : Nat) (A : Around) (R : Result → Shared → Prop) (s : Shared) (W : W2) (τ : Tk) (tk : Tok) (rest : Cels),
    W.Ok → k < W.gs.length → ItsAre W.items τ.mv → A.handled = none → A.depth + k < recursionLimit → Sh h₁ os (pC ad τ W ++ rest) G s →
    (∀ τ' s' tp vs, τ'.mv = τ.mv → ResIs (ask W k).1 vs → Sh h₁ os ((tp, tupP vs) :: (pC ad τ' (ask W k).2 ++ rest)) G s' → R (.ok (.ret (.ref tp))) s') →
    codeAny (model PP w) A (.call (.ref 49) ⟨[.ref ad.P, .ref ad.M, .int k tk], []⟩) R s := by
  intro k
  induction k using Nat.strongRecOn with
  | ind k ih =>
  intro A R s W τ tk rest ok hk hits hh hd B h
  obtain ⟨d, hgd⟩ : ∃ d, W.gs[k]? = some d := ⟨_, List.getElem?_eq_getElem hk⟩
  refine call_fn (binds := [("plan", .ref ad.P), ("row", .ref ad.M), ("k", .int k tk)]) (m := frm [("k", .int k tk), ("row", .ref ad.M), ("plan", .ref ad.P)]) F B (by omega) (fun _ _ => rfl) (locs rfl) rfl ?_ (by decide +kernel) (by decide +kernel) (by decide +kernel) (by decide +kernel)
  intro L s B
  have hh' : (A.deeper (envOf "_law_due" scDue L 49 cd)).handled = none := hh
  have mP : (ad.P, lstP (pLst ad W.gs.length)) ∈ pC ad τ W ++ rest := List.mem_append_left _ pC_P
  have mE : (ad.pe k, lstP (pEnt ad τ k d)) ∈ pC ad τ W ++ rest := List.mem_append_left _ (pC_pe hgd)
  refine wpAny_execs_cons ?_
  refine Assign_Tuple ?_
  repeat walk_at "w"
  refine r_item B (by walk_at "mem") (by omega) (by have := ok.few; omega) (x := .ref (ad.pe k)) (by simp [pLst, hk]) ?_
  refine r_assignL hh' B (.tail _ mE) rfl rfl ?_
  intro s B
  cases hg : d.going with
  | false =>
    have ha : ask W k = (.fin, W) := by rw [ask]; simp [hgd, hg]
    unfold pEnt
    rw [hg]
    repeat walk_at "w"
    rw [if_pos (by decide)]
    repeat walk_at "w"
    refine h τ _ _ ?vs rfl ?zr ?zb
    case zb => rw [ha]; exact Sh.drop (by assumption)
    case zr => rw [ha]; exact ⟨_, rfl⟩
  | true =>
    by_cases hon : ∃ j, d.kd = .on j
    · obtain ⟨j, hkd⟩ := hon
      obtain ⟨hj, hu⟩ := ok.on k d j hgd hkd
      have e : pEnt ad τ k d = [.int j (τ.u k), .none, .str d.words (τ.wd k), .bool true] := by simp [pEnt, wellV, hkd, hg, hu]
      have ha : ask W k = ((ask W j).1, (ask W j).2.endIf k (ask W j).1) := by rw [ask]; simp [hgd, hg, hkd, hj]
      rw [e]
      repeat walk_at "w"
      rw [if_neg (by decide)]
      repeat walk_at "w"
      rw [if_pos (by decide)]
      repeat walk_at "w"
      refine r_callFn F.fn ?_
      repeat walk_at "w"
      refine ⟨⟨_, _, _, by assumption⟩, wpAny_call ?_⟩
      refine ih j hj _ _ _ W τ _ (_ :: rest) ok (by omega) hits hh' (by show A.depth + 1 + j < _; omega) (Sh.perm (by assumption) List.perm_middle.symm) ?_
      intro τ' s tp vs hmv hr B
      have B := B.perm ((List.perm_middle.cons _).trans (.swap ..))
      dsimp only
      repeat walk_at "v"
      refine due_tail (k := k) (by have := ok.few; omega) (d := d) (by rw [ask_other W j k hj]; exact hgd) hr (by assumption) rfl rfl rfl ?_
      intro s B
      exact h τ' _ _ _ hmv (by rw [ha]; exact hr) (by rw [ha]; exact B.drop)
    · obtain ⟨wa, p, t, b, hwV, hmem, hupd, hwell⟩ : ∃ wa p t b, wellV ad k d = .ref wa ∧ (wa, lstP [.int (p : Nat) t, .bool b]) ∈ pC ad τ W ++ rest ∧
          (∀ (p' : Nat) t' b', ∃ τ', τ'.mv = τ.mv ∧ Upd wa (lstP [.int p t, .bool b]) (lstP [.int p' t', .bool b']) (pC ad τ W ++ rest) (pC ad τ' (W.setWell k d p' b') ++ rest)) ∧ W.well d = (p, b) := by
        cases hkd : d.kd with
        | on j => exact absurd ⟨j, hkd⟩ hon
        | src => exact ⟨ad.Sh, W.sp, τ.s, W.sa, by simp [wellV, hkd], List.mem_append_left _ pC_Sh, fun p' t' b' => ⟨{ τ with s := t' }, rfl, (upd_shared hkd).app _⟩, by simp [W2.well, hkd]⟩
        | row => exact ⟨ad.pw k, d.pos, τ.p k, d.live, by simp [wellV, hkd], List.mem_append_left _ (pC_pw hgd hkd), fun p' t' b' => ⟨{ τ with p := fun j => if j = k then t' else τ.p j }, rfl, (upd_well hgd hkd).app _⟩, by simp [W2.well, hkd]⟩
      have e : pEnt ad τ k d = [.int d.u (τ.u k), .ref wa, .str d.words (τ.wd k), .bool true] := by simp [pEnt, hwV, hg]
      have ha : ask W k = (match (if b then W.items[p]? else none) with
        | none => (.fin, (W.setWell k d p false).stop k)
        | some x => (readIt x d.words, (W.setWell k d (p + 1) true).endIf k (readIt x d.words))) := by
        rw [ask]
        simp only [hgd, hg, if_true]
        cases hkd : d.kd with
        | on j => exact absurd ⟨j, hkd⟩ hon
        | src => simp only [hwell] <;> rfl
        | row => simp only [hwell] <;> rfl
      rw [e]
      repeat walk_at "w"
      rw [if_neg (by decide)]
      repeat walk_at "w"
      rw [if_neg (show ¬ ((Value.ref wa == Value.none) = true) from Bool.false_ne_true)]
      repeat walk_at "w"
      refine r_item (by assumption) (by walk_at "mem") (by decide) (by decide) (x := .bool b) rfl ?_
      -- the way to the end of the well
      have hgd' : ∀ p' b', ∃ d', (W.setWell k d p' b').gs[k]? = some d' := fun p' b' => ⟨_, List.getElem?_eq_getElem (by unfold W2.setWell; split <;> simp [W2.upd] <;> exact hk)⟩
      cases b with
      | false =>
        repeat walk_at "v"
        rw [if_pos (by decide)]
        repeat walk_at "v"
        rw [if_pos (by decide)]
        refine wpAny_execs_cons ?_
        repeat walk_at "v"
        obtain ⟨τ', hmv, hU⟩ := hupd p t false
        refine r_setItem (by assumption) (.there hU) (by decide) (by decide) (by simp) ?_
        intro s B
        refine wpAny_execs_cons ?_
        repeat walk_at "v"
        obtain ⟨d', hd'⟩ := hgd' p false
        refine due_tail (k := k) (r := .fin) (by have := ok.few; omega) hd' ⟨_, rfl⟩ (by assumption) rfl rfl rfl ?_
        intro s B
        have ha' : ask W k = (.fin, (W.setWell k d p false).stop k) := by rw [ha]; rfl
        rw [ha'] at h
        exact h τ' _ _ _ hmv ⟨_, rfl⟩ B.drop
      | true =>
        repeat walk_at "v"
        rw [if_neg (by decide)]
        repeat walk_at "v"
        refine r_item (by assumption) (by walk_at "mem") (by decide) (by decide) (x := .int p t) rfl ?_
        have mM : (ad.M, lstP τ.mv) ∈ pC ad τ W ++ rest := List.mem_append_left _ pC_M
        have hlen := hits.length
        have hbig := ok.big
        repeat walk_at "v"
        refine r_len (by assumption) (by walk_at "mem") (by omega) ?_
        intro t1 s B
        repeat walk_at "v"
        by_cases hp : τ.mv.length ≤ p
        · rw [if_pos (by simpa using hp)]
          rw [if_pos rfl]
          refine wpAny_execs_cons ?_
          repeat walk_at "v"
          obtain ⟨τ', hmv, hU⟩ := hupd p t false
          refine r_setItem (by assumption) (.there hU) (by decide) (by decide) (by simp) ?_
          intro s B
          refine wpAny_execs_cons ?_
          repeat walk_at "v"
          obtain ⟨d', hd'⟩ := hgd' p false
          refine due_tail (k := k) (r := .fin) (by have := ok.few; omega) hd' ⟨_, rfl⟩ (by assumption) rfl rfl rfl ?_
          intro s B
          have ha' : ask W k = (.fin, (W.setWell k d p false).stop k) := by
            rw [ha]; simp only [if_true]
            rw [show W.items[p]? = none from List.getElem?_eq_none (by omega)]
          rw [ha'] at h
          exact h τ' _ _ _ hmv ⟨_, rfl⟩ B.drop
        · rw [if_neg (by simpa using hp)]
          repeat walk_at "v"
          rw [if_neg (by decide)]
          obtain ⟨x, hx⟩ : ∃ x, W.items[p]? = some x := ⟨_, List.getElem?_eq_getElem (by omega)⟩
          obtain ⟨v, hv, hxv⟩ := hits.get p x hx
          refine wpAny_execs_cons ?_
          repeat walk_at "v"
          refine r_item (by assumption) (by walk_at "mem") (by decide) (by decide) (x := .int p t) rfl ?_
          refine r_item (by assumption) (by walk_at "mem") (by omega) (by omega) (x := v) (by simpa using hv) ?_
          repeat walk_at "v"
          refine wpAny_execs_cons ?_
          repeat walk_at "v"
          refine r_getItem (by assumption) (by walk_at "mem") (by decide) (by decide) (x := .int p t) rfl ?_
          repeat walk_at "v"
          obtain ⟨τ', hmv, hU⟩ := hupd (p + 1) (by assumption) true
          refine r_setItem (by assumption) (.there hU) (by decide) (by decide) (by simp) ?_
          intro s B
          obtain ⟨d', hd'⟩ := hgd' (p + 1) true
          have ha' : ask W k = (readIt x d.words, (W.setWell k d (p + 1) true).endIf k (readIt x d.words)) := by
            rw [ha]; simp only [if_true, hx]
          rw [ha'] at h
          cases x with
          | t y =>
            obtain ⟨tv, rfl⟩ := hxv
            refine wpAny_execs_cons ?_
            repeat walk_at "v"
            rw [if_pos (by decide)]
            refine wpAny_execs_cons ?_
            repeat walk_at "v"
            refine due_tail (k := k) (r := .nonum) (by have := ok.few; omega) hd' ⟨_, rfl⟩ (by assumption) rfl rfl rfl ?_
            intro s B
            exact h τ' _ _ _ hmv ⟨_, rfl⟩ B.drop
          | i n =>
            obtain ⟨tv, rfl⟩ := hxv
            refine wpAny_execs_cons ?_
            repeat walk_at "v"
            rw [if_neg (by decide)]
            refine wpAny_execs_cons ?_
            repeat walk_at "v"
            by_cases hn : n < 0
            · rw [if_neg (by rw [if_pos hn]; simp; omega)]
              repeat walk_at "v"
              have hr : readIt (.i n) d.words = .below d.words := if_pos hn
              rw [hr] at h
              refine due_tail (k := k) (r := .below d.words) (by have := ok.few; omega) hd' ⟨_, _, rfl⟩ (by assumption) rfl rfl rfl ?_
              intro s B
              exact h τ' _ _ _ hmv ⟨_, _, rfl⟩ B.drop
            · rw [if_pos (by rw [if_neg hn]; simp)]
              repeat walk_at "v"
              have hr : readIt (.i n) d.words = .item n := if_neg hn
              rw [hr] at h
              refine due_tail (k := k) (r := .item n) (by have := ok.few; omega) hd' ⟨_, _, rfl⟩ (by assumption) rfl rfl rfl ?_
              intro s B
              exact h τ' _ _ _ hmv ⟨_, _, rfl⟩ B.drop
end
section
/-- cells within cells -/
def Sb (Y X : Cels) : Prop := ∃ Z, (Y ++ Z).Perm X
theorem Sb.refl (Y : Cels) : Sb Y Y := ⟨[], by rw [List.append_nil]⟩
theorem Sb.ofPerm {Y X : Cels} (p : Y.Perm X) : Sb Y X := ⟨[], by rw [List.append_nil]; exact p⟩
theorem Sb.cons {Y X : Cels} (p : Addr × Cel) (h : Sb Y X) : Sb (p :: Y) (p :: X) := let ⟨Z, q⟩ := h; ⟨Z, q.cons p⟩
theorem Sb.trans {Y X V : Cels} (h : Sb Y X) (g : Sb X V) : Sb Y V := by
  obtain ⟨Z, p⟩ := h
  obtain ⟨U, q⟩ := g
  exact ⟨Z ++ U, by rw [← List.append_assoc]; exact (p.append_right U).trans q⟩
theorem Sb.skip {Y X : Cels} (p : Addr × Cel) (h : Sb Y X) : Sb Y (p :: X) := let ⟨Z, q⟩ := h; ⟨p :: Z, List.perm_middle.trans (q.cons p)⟩
theorem Sh.sb {h₁ : Heap} {os : OsState} {Y X : Cels} {G : Array GenState} {s : Shared} (B : Sh h₁ os X G s) (h : Sb Y X) : Sh h₁ os Y G s := by
  obtain ⟨Z, p⟩ := h
  exact (B.perm p.symm).sub (List.sublist_append_left ..)
theorem Fly.sb {h₁ : Heap} {os : OsState} {Y X : Cels} {G : Array GenState} {s : Shared} {e : Addr} {C v0 : Value} {fl : Option Value} (F : Fly h₁ os X G e C v0 fl s) (h : Sb Y X) : Fly h₁ os Y G e C v0 fl s := by
  cases fl with
  | none => exact Sh.sb F (h.cons _)
  | some v => obtain ⟨tb, B⟩ := F; exact ⟨tb, B.sb ((h.cons _).cons _)⟩

/-- a guard's own frame -/
def gfP (v : Value) (x : Str) : Cel := fun o => ∃ m, nsP m o ∧ m (Str.ofString "values") = some v ∧ ∃ t, m (Str.ofString "errmsg") = some (.str x t)
theorem Sh.openF {h₁ : Heap} {os : OsState} {X : Cels} {G : Array GenState} {s : Shared} {a : Addr} {v : Value} {x : Str} (B : Sh h₁ os ((a, gfP v x) :: X) G s) :
    ∃ m t, Sh h₁ os ((a, nsP m) :: X) G s ∧ m (Str.ofString "values") = some v ∧ m (Str.ofString "errmsg") = some (.str x t) := by
  obtain ⟨o, ho, m, hm, hv, t, hw⟩ := B.get (.head _)
  exact ⟨m, t, ⟨B.hp.chg .here (fun _ _ _ e => e) ⟨o, ho, hm⟩, B.gens, B.os⟩, hv, hw⟩
theorem Sh.close {h₁ : Heap} {os : OsState} {X X' : Cels} {G : Array GenState} {s : Shared} {a : Addr} {v : Value} {x : Str} {m : Str → Option Value} {t : Tok} (B : Sh h₁ os X G s) (u : Upd a (nsP m) (gfP v x) X X')
    (hv : m (Str.ofString "values") = some v) (hw : m (Str.ofString "errmsg") = some (.str x t)) : Sh h₁ os X' G s := ⟨B.hp.weak u fun o q => ⟨m, q, hv, t, hw⟩, B.gens, B.os⟩
theorem Fly.close {h₁ : Heap} {os : OsState} {X X' : Cels} {G : Array GenState} {s : Shared} {e : Addr} {C v0 : Value} {fl : Option Value} {a : Addr} {v : Value} {x : Str} {m : Str → Option Value} {t : Tok} (F : Fly h₁ os X G e C v0 fl s) (u : Upd a (nsP m) (gfP v x) X X')
    (hv : m (Str.ofString "values") = some v) (hw : m (Str.ofString "errmsg") = some (.str x t)) : Fly h₁ os X' G e C v0 fl s := by
  cases fl with
  | none => exact Sh.close F (.there u) hv hw
  | some w => obtain ⟨tb, B⟩ := F; exact ⟨tb, B.close (.there (.there u)) hv hw⟩

def valV (ad : Ad) (d : GD) : Value := match d.kd with
  | .row => .ref ad.R
  | .src => .ref ad.S
  | .on j => .ref (ad.ga j)
def itV (ad : Ad) (k : Nat) (d : GD) : Value := match d.kd with
  | .row => .ref (ad.it k)
  | .src => .ref ad.S
  | .on j => .ref (ad.ga j)
def itc (ad : Ad) (σ : Nat → Bool) (k : Nat) (d : GD) : Cels := if d.kd = .row ∧ d.going = true ∧ σ k = true then [(ad.it k, litP ad.R d.pos)] else []
def gOne (ad : Ad) (σ : Nat → Bool) (W : W2) (k : Nat) : Cels := match W.gs[k]? with
  | none => []
  | some d => (ad.ga k, genP (ad.gi k)) :: (ad.gf k, gfP (valV ad d) d.words) :: itc ad σ k d
def srcP (ad : Ad) (W : W2) : Cel := if W.sa then litP ad.R W.sp else lendP
def gH (ad : Ad) (rv : List Value) (W : W2) : Cels := [(ad.R, lstP rv), (ad.S, srcP ad W)]
def gC (ad : Ad) (σ : Nat → Bool) (rv : List Value) (W : W2) (n : Nat) : Cels := gH ad rv W ++ (List.range n).flatMap (gOne ad σ W)

theorem gC_succ (ad : Ad) (σ : Nat → Bool) (rv : List Value) (W : W2) (n : Nat) : gC ad σ rv W (n + 1) = gC ad σ rv W n ++ gOne ad σ W n := by
  unfold gC; rw [List.range_succ, List.flatMap_append, List.append_assoc]; simp
theorem flat_congr {f g : Nat → Cels} : ∀ {l : List Nat}, (∀ i ∈ l, f i = g i) → l.flatMap f = l.flatMap g
  | [], _ => rfl
  | x :: l, h => by rw [List.flatMap_cons, List.flatMap_cons, h x (.head _), flat_congr fun i m => h i (.tail _ m)]
def mids (ad : Ad) (σ : Nat → Bool) (W : W2) (j k : Nat) : Cels := ((List.range (k - (j + 1))).map ((j + 1) + ·)).flatMap (gOne ad σ W)
theorem gC_split (ad : Ad) (σ : Nat → Bool) (rv : List Value) (W : W2) {j k : Nat} (h : j < k) : gC ad σ rv W k = gC ad σ rv W (j + 1) ++ mids ad σ W j k := by
  unfold gC mids
  rw [List.append_assoc, ← List.flatMap_append, ← List.range_add, show j + 1 + (k - (j + 1)) = k by omega]

variable (w : World) (cd : Value)
def GSt (ad : Ad) (σ : Nat → Bool) (k : Nat) (d : GD) (gs : GenState) : Prop :=
  if d.going = true then (if σ k = true then ∃ p, Ready (model PP w) (fCode (itV ad k d) (fEnv (ad.gf k) 35 cd)) (fFrames (fEnv (ad.gf k) 35 cd) p) gs else gs = .fresh (.func bdFail (fEnv (ad.gf k) 35 cd))) else gs = .finished
structure GOk (ad : Ad) (σ : Nat → Bool) (W : W2) (n : Nat) (G : Array GenState) : Prop where
  st : ∀ (k : Nat) (d : GD), k < n → W.gs[k]? = some d → ∃ gs, G[ad.gi k]? = some gs ∧ GSt w cd ad σ k d gs
  inj : ∀ i j, i < n → j < n → ad.gi i = ad.gi j → i = j
  live : ∀ (k : Nat) (d : GD), k < n → W.gs[k]? = some d → d.kd = .row → d.going = true → d.live = true ∧ (σ k = false → d.pos = 0)
/-- what is so behind an asking of the guard k -/
structure Res (ad : Ad) (σ : Nat → Bool) (W : W2) (k : Nat) (G : Array GenState) (ad' : Ad) (σ' : Nat → Bool) (G' : Array GenState) : Prop where
  ad_ : ∃ it', ad' = { ad with it := it' } ∧ ∀ i, k < i → it' i = ad.it i
  sg : ∀ i, k < i → σ' i = σ i
  ok : GOk w cd ad' σ' (ask W k).2 (k + 1) G'
  oth : ∀ g, (∀ i, i ≤ k → g ≠ ad.gi i) → G'[g]? = G[g]?
end
section
section
variable {w : World} {cd : Value} {h₁ : Heap} {os : OsState} {mg mb : Str → Option Value} {ad ad' : Ad} {σ σ' : Nat → Bool} {rv : List Value} {W W1 : W2} {k : Nat} {d d1 : GD} {rest X : Cels} {G G₁ : Array GenState} {r : Rs}
structure Mid (w : World) (cd : Value) (ad : Ad) (σ : Nat → Bool) (rv : List Value) (k : Nat) (d : GD) (rest : Cels) (G : Array GenState) (X : Cels) (W1 : W2) (d1 : GD) (ad' : Ad) (σ' : Nat → Bool) (G₁ : Array GenState) : Prop where
  sbS : Sb (gC ad' σ' rv (W1.stop k) (k + 1) ++ rest) ((ad.gf k, gfP (valV ad d) d.words) :: X)
  ad_ : ∃ it', ad' = { ad with it := it' } ∧ ∀ i, k < i → it' i = ad.it i
  sg : ∀ i, k < i → σ' i = σ i
  okb : GOk w cd ad' σ' W1 k G₁
  gsk : W1.gs[k]? = some d1
  gok : d1.going = true
  sk : σ' k = true
  run : G₁[ad.gi k]? = some .running
  inj : ∀ i, i < k → ad.gi i ≠ ad.gi k
  oth : ∀ g, (∀ i, i ≤ k → g ≠ ad.gi i) → G₁[g]? = G[g]?
  gen : (ad.ga k, genP (ad.gi k)) ∈ X

theorem Mid.item (Z : Mid w cd ad σ rv k d rest G X W1 d1 ad' σ' G₁) (hrow : d1.kd = .row → d1.live = true) (ha : (ask W k).2 = W1) {gs : GenState} {p : Pos} (hr : Ready (model PP w) (fCode (itV ad' k d1) (fEnv (ad.gf k) 35 cd)) (fFrames (fEnv (ad.gf k) 35 cd) p) gs) :
    Res w cd ad σ W k G ad' σ' (G₁.setIfInBounds (ad.gi k) gs) := by
  have hsz : ad.gi k < G₁.size := (Array.getElem?_eq_some_iff.mp Z.run).1
  refine ⟨Z.ad_, Z.sg, ?_, fun g hg => ?_⟩
  · rw [ha]
    obtain ⟨it', rfl, hit⟩ := Z.ad_
    refine ⟨fun i di hi hdi => ?_, fun i j hi hj e => ?_, fun i di hi hdi => ?_⟩
    · rcases Nat.lt_succ_iff_lt_or_eq.mp hi with hi | rfl
      · obtain ⟨gs', h1, h2⟩ := Z.okb.st i di hi hdi
        refine ⟨gs', ?_, h2⟩
        rw [Array.getElem?_setIfInBounds_ne (Ne.symm (Z.inj i hi))]
        exact h1
      · rw [Z.gsk] at hdi
        cases hdi
        refine ⟨gs, by simp [hsz], ?_⟩
        unfold GSt
        rw [if_pos Z.gok, if_pos Z.sk]
        exact ⟨p, hr⟩
    · rcases Nat.lt_succ_iff_lt_or_eq.mp hi with hi | rfl <;> rcases Nat.lt_succ_iff_lt_or_eq.mp hj with hj | rfl
      · exact Z.okb.inj i j hi hj e
      · exact absurd e (Z.inj i hi)
      · exact absurd e.symm (Z.inj j hj)
      · rfl
    · rcases Nat.lt_succ_iff_lt_or_eq.mp hi with hi | rfl
      · exact Z.okb.live i di hi hdi
      · rw [Z.gsk] at hdi
        cases hdi
        exact fun h1 _ => ⟨hrow h1, fun h2 => by rw [Z.sk] at h2; cases h2⟩
  · rw [Array.getElem?_setIfInBounds_ne (Ne.symm (hg k (Nat.le_refl _)))]
    exact Z.oth g hg
theorem Mid.stop (Z : Mid w cd ad σ rv k d rest G X W1 d1 ad' σ' G₁) (ha : (ask W k).2 = W1.stop k) : Res w cd ad σ W k G ad' σ' (G₁.setIfInBounds (ad.gi k) .finished) := by
  have hsz : ad.gi k < G₁.size := (Array.getElem?_eq_some_iff.mp Z.run).1
  have hst : (W1.stop k).gs[k]? = some { d1 with going := false } := gs_upd Z.gsk _
  refine ⟨Z.ad_, Z.sg, ?_, fun g hg => ?_⟩
  · rw [ha]
    obtain ⟨it', rfl, hit⟩ := Z.ad_
    refine ⟨fun i di hi hdi => ?_, fun i j hi hj e => ?_, fun i di hi hdi => ?_⟩
    · rcases Nat.lt_succ_iff_lt_or_eq.mp hi with hi | rfl
      · rw [stop_other _ (by omega)] at hdi
        obtain ⟨gs', h1, h2⟩ := Z.okb.st i di hi hdi
        refine ⟨gs', ?_, h2⟩
        rw [Array.getElem?_setIfInBounds_ne (Ne.symm (Z.inj i hi))]
        exact h1
      · rw [hst] at hdi
        cases hdi
        refine ⟨.finished, by simp [hsz], ?_⟩
        unfold GSt
        rw [if_neg (by simp)]
    · rcases Nat.lt_succ_iff_lt_or_eq.mp hi with hi | rfl <;> rcases Nat.lt_succ_iff_lt_or_eq.mp hj with hj | rfl
      · exact Z.okb.inj i j hi hj e
      · exact absurd e (Z.inj i hi)
      · exact absurd e.symm (Z.inj j hj)
      · rfl
    · rcases Nat.lt_succ_iff_lt_or_eq.mp hi with hi | rfl
      · rw [stop_other _ (by omega)] at hdi
        exact Z.okb.live i di hi hdi
      · rw [hst] at hdi
        cases hdi
        exact fun _ h2 => by simp at h2
  · rw [Array.getElem?_setIfInBounds_ne (Ne.symm (hg k (Nat.le_refl _)))]
    exact Z.oth g hg

/-- what is asked of the four ends of an asking -/
structure Cont (w : World) (cd : Value) (h₁ : Heap) (os : OsState) (ad : Ad) (σ : Nat → Bool) (rv : List Value) (W : W2) (k : Nat) (rest : Cels) (G : Array GenState) (Q : Option Value → Shared → Prop) (E : Value → Shared → Prop) : Prop where
  item : ∀ n t ad' σ' G' s', (ask W k).1 = .item n → Res w cd ad σ W k G ad' σ' G' → Sh h₁ os (gC ad' σ' rv (ask W k).2 (k + 1) ++ rest) G' s' → Q (some (.int n t)) s'
  fin : ∀ x v0 ad' σ' G' s', (ask W k).1 = .fin → Res w cd ad σ W k G ad' σ' G' → Fly h₁ os (gC ad' σ' rv (ask W k).2 (k + 1) ++ rest) G' x (.type "StopIteration") v0 none s' → E (.ref x) s'
  below : ∀ x e te tw ad' σ' G' s', (ask W k).1 = .below x → Res w cd ad σ W k G ad' σ' G' → Fly h₁ os ((te, tupP [.str x tw]) :: (gC ad' σ' rv (ask W k).2 (k + 1) ++ rest)) G' e (.ref 24) (.ref te) (some .none) s' → E (.ref e) s'
  nonum : ∀ e v0 ad' σ' G' s', (ask W k).1 = .nonum → Res w cd ad σ W k G ad' σ' G' → Fly h₁ os (gC ad' σ' rv (ask W k).2 (k + 1) ++ rest) G' e (.type "TypeError") v0 (some .none) s' → E (.ref e) s'

/-- what gen_next wants of an end -/
def PhiOf (h₁ : Heap) (Q : Option Value → Shared → Prop) (E : Value → Shared → Prop) (a : Addr) (g : Nat) (e : End) (s₁ : Shared) : Prop := e.quiet = true ∧ (match e with
  | .susp v .. => Q (some v) (s₁.setGen g e.genState)
  | .ret (.ok f) => f = .ret .none ∧ ∃ os cs G, Sh h₁ os cs G (s₁.setGen g .finished) ∧ ∀ x v0 s', Fly h₁ os cs G x (.type "StopIteration") v0 none s' → E (.ref x) s'
  | .ret (.error x) => ∃ os cs G e Cx v0 fl, x = .ref e ∧ Fly h₁ os cs G e Cx v0 fl (s₁.setGen g .finished) ∧ NoStop h₁ Cx ∧ (s₁.heap.IsGen a g) ∧ E x (s₁.setGen g .finished))

variable {Q : Option Value → Shared → Prop} {E : Value → Shared → Prop} {s : Shared} {m : Str → Option Value} {t : Tok} {outer : List Env} {p : Pos}

/-- the well has given nothing -/
theorem turn_none (K : Cont w cd h₁ os ad σ rv W k rest G Q E) (Z : Mid w cd ad σ rv k d rest G X W1 d1 ad' σ' G₁) (ha : ask W k = (.fin, W1.stop k)) (B : Sh h₁ os ((ad.gf k, nsP m) :: X) G₁ s)
    (hv : m (Str.ofString "values") = some (valV ad d)) (hw : m (Str.ofString "errmsg") = some (.str d.words t)) : PhiOf h₁ Q E (ad.ga k) (ad.gi k) (.ret (.ok (.ret .none))) s := by
  refine ⟨rfl, rfl, os, _, _, ((B.close .here hv hw).sb Z.sbS).setGen (ad.gi k) .finished, fun x v0 s' F => ?_⟩
  refine K.fin x v0 ad' σ' _ s' (by rw [ha]) (Z.stop (by rw [ha])) ?_
  rw [ha]
  exact F
/-- an item has been read -/
theorem turn_some {x : It} {v : Value} (hE : Er h₁ 24 23) (K : Cont w cd h₁ os ad σ rv W k rest G Q E) (Z : Mid w cd ad σ rv k d rest G X W1 d1 ad' σ' G₁) (hrow : d1.kd = .row → d1.live = true) (hsb : Sb (gC ad' σ' rv W1 (k + 1) ++ rest) ((ad.gf k, gfP (valV ad d) d.words) :: X)) (ha : ask W k = (readIt x d.words, W1.endIf k (readIt x d.words))) (hx : It.Is x v) (B : Sh h₁ os ((ad.gf k, nsP m) :: X) G₁ s)
    (hv : m (Str.ofString "values") = some (valV ad d)) (hw : m (Str.ofString "errmsg") = some (.str d.words t)) (hF : FramesIn outer X) :
    ∃ cs G m ew, Sh h₁ os ((ad.gf k, nsP m) :: cs) G s ∧ m "errmsg" = some ew ∧ FramesIn outer cs ∧ ((∃ i t, v = .int i t ∧
          (i < 0 → ∀ e t m' s', (∀ y, y ≠ Str.ofString "x" → m' y = m y) → Fly h₁ os ((t, tupP [ew]) :: (ad.gf k, nsP m') :: cs) G e (.ref 24) (.ref t) (some .none) s' → PhiOf h₁ Q E (ad.ga k) (ad.gi k) (.ret (.error (.ref e))) s') ∧
          (0 ≤ i → ∀ m' s' l kk q, (∀ y, y ≠ Str.ofString "x" → m' y = m y) → Sh h₁ os ((ad.gf k, nsP m') :: cs) G s' → Ready (model PP w) (fCode (itV ad' k d1) (fEnv (ad.gf k) 35 cd)) (fFrames (fEnv (ad.gf k) 35 cd) p) (.suspended kk l (fCode (itV ad' k d1) (fEnv (ad.gf k) 35 cd)) q (fFrames (fEnv (ad.gf k) 35 cd) p) false) →
            PhiOf h₁ Q E (ad.ga k) (ad.gi k) (.susp v false l kk (fCode (itV ad' k d1) (fEnv (ad.gf k) 35 cd)) q (fFrames (fEnv (ad.gf k) 35 cd) p)) s')) ∨
        (∃ x t, v = .str x t ∧ ∀ e v0 m' s', (∀ y, y ≠ Str.ofString "x" → m' y = m y) → Fly h₁ os ((ad.gf k, nsP m') :: cs) G e (.type "TypeError") v0 (some .none) s' → PhiOf h₁ Q E (ad.ga k) (ad.gi k) (.ret (.error (.ref e))) s')) := by
  have nv : Str.ofString "values" ≠ Str.ofString "x" := by decide +kernel
  have nw : Str.ofString "errmsg" ≠ Str.ofString "x" := by decide +kernel
  refine ⟨X, G₁, m, _, B, hw, hF, ?_⟩
  cases x with
  | i n =>
    obtain ⟨tv, rfl⟩ := hx
    refine .inl ⟨n, tv, rfl, fun hn e te m' s' ho F => ?_, fun hn m' s' l kk q ho B' hR => ?_⟩
    · have hr : readIt (.i n) d.words = .below d.words := if_pos hn
      rw [hr] at ha
      have hend : W1.endIf k (.below d.words) = W1.stop k := rfl
      rw [hend] at ha
      have F2 := F.close (.there .here) ((ho _ nv).trans hv) ((ho _ nw).trans hw)
      have F3 := F2.sb (Z.sbS.cons (te, tupP [.str d.words t]))
      refine ⟨rfl, os, _, _, e, .ref 24, .ref te, some .none, rfl, F3.setGen (ad.gi k) .finished, hE.noStop, ?_, ?_⟩
      · exact (F.sh.get (.tail _ (.tail _ Z.gen))).gen
      · refine K.below d.words e te t ad' σ' _ _ (by rw [ha]) (Z.stop (by rw [ha])) ?_
        rw [ha]
        exact F3.setGen (ad.gi k) .finished
    · have hr : readIt (.i n) d.words = .item n := if_neg (by omega)
      rw [hr] at ha
      have hend : W1.endIf k (.item n) = W1 := rfl
      rw [hend] at ha
      have B2 := (B'.close .here ((ho _ nv).trans hv) ((ho _ nw).trans hw)).sb hsb
      refine ⟨rfl, ?_⟩
      refine K.item n tv ad' σ' _ _ (by rw [ha]) (Z.item hrow (by rw [ha]) hR) ?_
      rw [ha]
      exact B2.setGen (ad.gi k) _
  | t y =>
    obtain ⟨tv, rfl⟩ := hx
    refine .inr ⟨y, tv, rfl, fun e v0 m' s' ho F => ?_⟩
    have hr : readIt (.t y) d.words = .nonum := rfl
    rw [hr] at ha
    have hend : W1.endIf k .nonum = W1.stop k := rfl
    rw [hend] at ha
    have F2 := F.close .here ((ho _ nv).trans hv) ((ho _ nw).trans hw)
    have F3 := F2.sb Z.sbS
    refine ⟨rfl, os, _, _, e, .type "TypeError", v0, some .none, rfl, F3.setGen (ad.gi k) .finished, noStop_te, ?_, ?_⟩
    · exact (F.sh.get (.tail _ Z.gen)).gen
    · refine K.nonum e v0 ad' σ' _ _ (by rw [ha]) (Z.stop (by rw [ha])) ?_
      rw [ha]
      exact F3.setGen (ad.gi k) .finished
end
end
section
section
variable {w : World} {cd : Value} {h₁ : Heap} {os : OsState} {mg mb : Str → Option Value} {ad : Ad} {σ : Nat → Bool} {rv : List Value} {W : W2} {k : Nat} {d : GD} {rest X : Cels} {G G₁ : Array GenState} {A : Around}
variable {Q : Option Value → Shared → Prop} {E : Value → Shared → Prop} {s : Shared} {m : Str → Option Value} {t : Tok} {outer : List Env} {p : Pos} {Φ : End → Shared → Prop}

theorem fresh_go {L f : Addr} {v : Value} (B : Sh h₁ os ((L, nsP m) :: X) G s) (hv : m (Str.ofString "values") = some v)
    (h : wpAny (model PP w) (A.over (.func bdFail (fEnv L f cd)) []) (pyIter v) (fun it s₂ => ∀ p, Sg (model PP w) A Φ (fCode it (fEnv L f cd)) ((model PP w).den (fCode it (fEnv L f cd))) (fFrames (fEnv L f cd) p) s₂) (fun _ _ => False) s) :
    Sg (model PP w) A Φ (.func bdFail (fEnv L f cd)) ((model PP w).den (.func bdFail (fEnv L f cd))) [] s := by
  refine sg_func ?_
  refine sg_execs_cons ?_
  refine sg_For ?_
  refine t_ld B hv (by decide +kernel) (by decide +kernel) (by decide +kernel) ?_
  refine wpAny_mono h (fun it s₂ h₂ p => ?_) fun _ _ x => x.elim
  have e : (fun fl => match fl with | .next => (execs [] (fEnv L f cd)).wrap fK (fH (fEnv L f cd)) id id | fl => fK fl) = fK := funext fun fl => by cases fl <;> rfl
  have := h₂ p
  unfold fFrames at this
  rw [← e] at this
  exact this

theorem gC_congr {it' : Nat → Addr} {σ' : Nat → Bool} {W' : W2} {n : Nat} (hs : srcP ad W' = srcP ad W) (hi : ∀ i, i < n → it' i = ad.it i) (hσ : ∀ i, i < n → σ' i = σ i) (hg : ∀ i, i < n → W'.gs[i]? = W.gs[i]?) :
    gC { ad with it := it' } σ' rv W' n = gC ad σ rv W n := by
  unfold gC
  have h1 : gH { ad with it := it' } rv W' = gH ad rv W := by
    unfold gH
    have : srcP { ad with it := it' } W' = srcP ad W' := rfl
    rw [this, hs]
  rw [h1]
  congr 1
  refine flat_congr fun i m => ?_
  have hi' := List.mem_range.mp m
  unfold gOne
  rw [hg i hi']
  cases W.gs[i]? with
  | none => rfl
  | some d =>
    have : itc { ad with it := it' } σ' i d = itc ad σ i d := by
      unfold itc
      rw [hσ i hi']
      split
      · have : ({ ad with it := it' } : Ad).it i = ad.it i := hi i hi'
        rw [this]
      · rfl
    show _ :: _ :: itc { ad with it := it' } σ' i d = _
    rw [this]
    rfl
theorem gOk_congr {it' : Nat → Addr} {σ' : Nat → Bool} {W' : W2} {n : Nat} (g : GOk w cd ad σ W n G) (hi : ∀ i, i < n → it' i = ad.it i) (hσ : ∀ i, i < n → σ' i = σ i) (hg : ∀ i, i < n → W'.gs[i]? = W.gs[i]?) :
    GOk w cd { ad with it := it' } σ' W' n G := by
  refine ⟨fun i di hin hdi => ?_, fun i j hin hj e => g.inj i j hin hj e, fun i di hin hdi => ?_⟩
  · rw [hg i hin] at hdi
    obtain ⟨gs, h1, h2⟩ := g.st i di hin hdi
    refine ⟨gs, h1, ?_⟩
    unfold GSt at h2 ⊢
    rw [hσ i hin]
    have : itV { ad with it := it' } i di = itV ad i di := by
      unfold itV
      cases di.kd with
      | row => show Value.ref (it' i) = _; rw [hi i hin]
      | src => rfl
      | on j => rfl
    rw [this]
    exact h2
  · rw [hg i hin] at hdi
    rw [hσ i hin]
    exact g.live i di hin hdi

/-- a guard on the row, at its loop's head -/
theorem head_row {a : Addr} (T : Tp2 h₁ mg mb) (hE : Er h₁ 24 23) (K : Cont w cd h₁ os ad σ rv W k rest G Q E) (hh : A.handled = none) (hfr : A.frames = some outer) (hF : FramesIn outer rest)
    (hd : W.gs[k]? = some d) (hkd : d.kd = .row) (hgo : d.going = true) (hlv : d.live = true) (hits : ItsAre W.items rv)
    (B : Sh h₁ os ((ad.gf k, nsP m) :: (a, litP ad.R d.pos) :: (gC ad σ rv W k ++ (ad.ga k, genP (ad.gi k)) :: rest)) G₁ s)
    (hv : m (Str.ofString "values") = some (valV ad d)) (hw : m (Str.ofString "errmsg") = some (.str d.words t))
    (okb : GOk w cd ad σ W k G₁) (run : G₁[ad.gi k]? = some .running) (inj : ∀ i, i < k → ad.gi i ≠ ad.gi k) (oth : ∀ g, (∀ i, i ≤ k → g ≠ ad.gi i) → G₁[g]? = G[g]?) :
    Sg (model PP w) A (PhiOf h₁ Q E (ad.ga k) (ad.gi k)) (fCode (.ref a) (fEnv (ad.gf k) 35 cd)) ((model PP w).den (fCode (.ref a) (fEnv (ad.gf k) 35 cd))) (fFrames (fEnv (ad.gf k) 35 cd) p) s := by
  have mR : (ad.R, lstP rv) ∈ gC ad σ rv W k ++ (ad.ga k, genP (ad.gi k)) :: rest := List.mem_append_left _ (.head _)
  have hFX : ∀ c, FramesIn outer ((a, c) :: (gC ad σ rv W k ++ (ad.ga k, genP (ad.gi k)) :: rest)) := fun c => hF.sub fun q i => .tail _ (List.mem_append_right _ (.tail _ i))
  have hsw : ∀ p' b', W.setWell k d p' b' = W.upd k fun d => { d with pos := p', live := b' } := fun p' b' => by unfold W2.setWell; rw [hkd]
  have hlt := (List.getElem?_eq_some_iff.mp hd).1
  have hat : ({ ad with it := fun i => if i = k then a else ad.it i } : Ad).it k = a := if_pos rfl
  have hgC : ∀ p' b', gC { ad with it := fun i => if i = k then a else ad.it i } (fun i => if i = k then true else σ i) rv (W.setWell k d p' b') k = gC ad σ rv W k := fun p' b' => by
    refine gC_congr (by rw [hsw]; rfl) (fun i hi => if_neg (by omega)) (fun i hi => if_neg (by omega)) fun i hi => setWell_other _ (by omega) ..
  have hgk : ∀ p' b', (W.setWell k d p' b').gs[k]? = some { d with pos := p', live := b' } := fun p' b' => by rw [hsw]; exact gs_upd hd _
  have hone : ∀ p' b', gOne { ad with it := fun i => if i = k then a else ad.it i } (fun i => if i = k then true else σ i) (W.setWell k d p' b') k = [(ad.ga k, genP (ad.gi k)), (ad.gf k, gfP (valV ad d) d.words), (a, litP ad.R p')] := fun p' b' => by
    unfold gOne
    rw [hgk]
    show _ :: _ :: itc _ _ k _ = _
    unfold itc
    rw [if_pos ⟨hkd, hgo, if_pos rfl⟩]
    rw [hat]
    rfl
  have honeS : ∀ p' b', gOne { ad with it := fun i => if i = k then a else ad.it i } (fun i => if i = k then true else σ i) ((W.setWell k d p' b').stop k) k = [(ad.ga k, genP (ad.gi k)), (ad.gf k, gfP (valV ad d) d.words)] := fun p' b' => by
    unfold gOne
    rw [show ((W.setWell k d p' b').stop k).gs[k]? = _ from gs_upd (hgk p' b') _]
    show _ :: _ :: itc _ _ k _ = _
    unfold itc
    rw [if_neg (by simp)]
    rfl
  have hgCS : ∀ p' b', gC { ad with it := fun i => if i = k then a else ad.it i } (fun i => if i = k then true else σ i) rv ((W.setWell k d p' b').stop k) k = gC ad σ rv W k := fun p' b' => by
    refine gC_congr (by rw [hsw]; rfl) (fun i hi => if_neg (by omega)) (fun i hi => if_neg (by omega)) fun i hi => ?_
    rw [stop_other _ (by omega), setWell_other _ (by omega)]
  have mid : ∀ (p' : Nat) (b' : Bool) (c : Cel), Mid w cd ad σ rv k d rest G ((a, c) :: (gC ad σ rv W k ++ (ad.ga k, genP (ad.gi k)) :: rest)) (W.setWell k d p' b') { d with pos := p', live := b' } { ad with it := fun i => if i = k then a else ad.it i } (fun i => if i = k then true else σ i) G₁ := by
    intro p' b' c
    refine ⟨?_, ⟨_, rfl, fun i hi => if_neg (by omega)⟩, fun i hi => if_neg (by omega), ?_, hgk p' b', hgo, if_pos rfl, run, inj, oth, .tail _ (List.mem_append_right _ (.head _))⟩
    · rw [gC_succ, hgCS, honeS, List.append_assoc]
      refine Sb.trans (Sb.ofPerm ?_) ((Sb.refl _).skip (a, c) |>.cons _)
      show (gC ad σ rv W k ++ (ad.ga k, genP (ad.gi k)) :: (ad.gf k, gfP (valV ad d) d.words) :: rest).Perm _
      exact ((List.Perm.swap ..).append_left _).trans List.perm_middle
    · exact gOk_congr okb (fun i hi => if_neg (by omega)) (fun i hi => if_neg (by omega)) fun i hi => setWell_other _ (by omega) ..
  have hask : ∀ o, W.items[d.pos]? = o → ask W k = (match o with
      | none => (.fin, (W.setWell k d d.pos false).stop k)
      | some x => (readIt x d.words, (W.setWell k d (d.pos + 1) true).endIf k (readIt x d.words))) := by
    intro o ho
    rw [ask]
    simp only [hd, hgo, if_true, hkd, W2.well, hlv, ho]
    all_goals (cases o <;> rfl)
  refine guard_head (os := os) T hE (by decide +kernel) hh hfr ?_
  cases hx : W.items[d.pos]? with
  | none =>
    refine x_lit_end (r := (ad.gf k, nsP m) :: (a, lendP) :: (gC ad σ rv W k ++ (ad.ga k, genP (ad.gi k)) :: rest)) hh B (.there .here) (B.get (.tail _ (.tail _ mR))).lst ?_ fun s' B' => ?_
    · rw [List.getElem?_eq_none_iff] at hx ⊢
      rw [hits.length]; exact hx
    · exact turn_none K (mid _ _ _) (hask _ hx) B' hv hw
  | some x =>
    obtain ⟨v, hvx, hxv⟩ := hits.get _ _ hx
    refine x_lit_item (r := (ad.gf k, nsP m) :: (a, litP ad.R (d.pos + 1)) :: (gC ad σ rv W k ++ (ad.ga k, genP (ad.gi k)) :: rest)) B (.there .here) (B.get (.tail _ (.tail _ mR))).lst hvx fun s' B' => ?_
    have := turn_some (p := p) hE K (mid (d.pos + 1) true (litP ad.R (d.pos + 1))) (fun _ => rfl) ?_ (hask _ hx) hxv B' hv hw (hFX _)
    · have e : itV { ad with it := fun i => if i = k then a else ad.it i } k { d with pos := d.pos + 1, live := true } = .ref a := by
        unfold itV
        show (match d.kd with | .row => _ | .src => _ | .on j => _) = _
        rw [hkd]
        show Value.ref (if k = k then a else _) = _
        rw [if_pos rfl]
      rw [e] at this
      exact this
    · rw [gC_succ, hgC, hone, List.append_assoc]
      refine Sb.ofPerm ?_
      show (gC ad σ rv W k ++ (ad.ga k, genP (ad.gi k)) :: (ad.gf k, gfP (valV ad d) d.words) :: (a, litP ad.R (d.pos + 1)) :: rest).Perm _
      refine ((List.Perm.swap ..).append_left _).trans (List.perm_middle.trans (List.Perm.cons _ ?_))
      exact ((List.Perm.swap ..).append_left _).trans List.perm_middle
end
end
section
section
variable {w : World} {cd : Value} {h₁ : Heap} {os : OsState} {mg mb : Str → Option Value} {ad : Ad} {σ : Nat → Bool} {rv : List Value} {W : W2} {k : Nat} {d : GD} {rest X : Cels} {G G₁ : Array GenState} {A : Around}
variable {Q : Option Value → Shared → Prop} {E : Value → Shared → Prop} {s : Shared} {m : Str → Option Value} {t : Tok} {outer : List Env} {p : Pos} {Φ : End → Shared → Prop}

theorem upd_src {W1 : W2} {n : Nat} {Y : Cels} (hg : W1.gs = W.gs) : Upd ad.S (srcP ad W) (srcP ad W1) (gC ad σ rv W n ++ Y) (gC ad σ rv W1 n ++ Y) := by
  have e : gOne ad σ W1 = gOne ad σ W := by funext i; unfold gOne; rw [hg]
  unfold gC gH
  rw [e]
  exact .there .here

/-- the middle of a turn of a guard that has no iterator of its own -/
theorem mid_plain {ad' : Ad} {σ' : Nat → Bool} {W1 : W2} {it' : Nat → Addr} {G' : Array GenState} (hkd : d.kd ≠ .row) (hgo : d.going = true) (had : ad' = { ad with it := it' }) (hit : ∀ i, k ≤ i → it' i = ad.it i) (hσ : ∀ i, k < i → σ' i = σ i) (hgk : W1.gs[k]? = some d)
    (okb : GOk w cd ad' σ' W1 k G') (run : G'[ad.gi k]? = some .running) (inj : ∀ i, i < k → ad.gi i ≠ ad.gi k) (oth : ∀ g, (∀ i, i ≤ k → g ≠ ad.gi i) → G'[g]? = G[g]?) :
    Mid w cd ad σ rv k d rest G (gC ad' σ' rv W1 k ++ (ad.ga k, genP (ad.gi k)) :: rest) W1 d ad' (fun i => if i = k then true else σ' i) G' ∧
      Sb (gC ad' (fun i => if i = k then true else σ' i) rv W1 (k + 1) ++ rest) ((ad.gf k, gfP (valV ad d) d.words) :: (gC ad' σ' rv W1 k ++ (ad.ga k, genP (ad.gi k)) :: rest)) := by
  subst had
  have hone : ∀ (W' : W2) (d' : GD), W'.gs[k]? = some d' → d'.kd = d.kd → d'.words = d.words → gOne { ad with it := it' } (fun i => if i = k then true else σ' i) W' k = [(ad.ga k, genP (ad.gi k)), (ad.gf k, gfP (valV ad d) d.words)] := fun W' d' h1 h2 h3 => by
    unfold gOne
    rw [h1]
    show _ :: _ :: itc _ _ k _ = _
    unfold itc
    rw [if_neg (by rw [h2]; exact fun q => hkd q.1)]
    unfold valV
    rw [h2, h3]
  have hper : (gC { ad with it := it' } σ' rv W1 k ++ (ad.ga k, genP (ad.gi k)) :: (ad.gf k, gfP (valV ad d) d.words) :: rest).Perm ((ad.gf k, gfP (valV ad d) d.words) :: (gC { ad with it := it' } σ' rv W1 k ++ (ad.ga k, genP (ad.gi k)) :: rest)) :=
    ((List.Perm.swap ..).append_left _).trans List.perm_middle
  have hgC : ∀ W' : W2, srcP ad W' = srcP ad W1 → (∀ i, i < k → W'.gs[i]? = W1.gs[i]?) → gC { ad with it := it' } (fun i => if i = k then true else σ' i) rv W' k = gC { ad with it := it' } σ' rv W1 k := fun W' hs hg =>
    gC_congr (ad := { ad with it := it' }) hs (fun _ _ => rfl) (fun i hi => if_neg (by omega)) hg
  refine ⟨⟨?_, ⟨it', rfl, fun i hi => hit i (by omega)⟩, fun i hi => by rw [if_neg (by omega)]; exact hσ i hi, ?_, hgk, hgo, if_pos rfl, run, inj, oth, List.mem_append_right _ (.head _)⟩, ?_⟩
  · rw [gC_succ, hgC (W1.stop k) rfl fun i hi => stop_other W1 (Nat.ne_of_lt hi), hone (W1.stop k) _ (gs_upd hgk _) rfl rfl, List.append_assoc]
    exact Sb.ofPerm hper
  · exact gOk_congr (ad := { ad with it := it' }) okb (fun _ _ => rfl) (fun i hi => if_neg (by omega)) fun _ _ => rfl
  · rw [gC_succ, hgC W1 rfl fun i hi => rfl, hone W1 _ hgk rfl rfl, List.append_assoc]
    exact Sb.ofPerm hper

/-- a guard on the shared iterator, at its loop's head -/
theorem head_src (T : Tp2 h₁ mg mb) (hE : Er h₁ 24 23) (K : Cont w cd h₁ os ad σ rv W k rest G Q E) (hh : A.handled = none) (hfr : A.frames = some outer) (hF : FramesIn outer rest)
    (hd : W.gs[k]? = some d) (hkd : d.kd = .src) (hgo : d.going = true) (hits : ItsAre W.items rv)
    (B : Sh h₁ os ((ad.gf k, nsP m) :: (gC ad σ rv W k ++ (ad.ga k, genP (ad.gi k)) :: rest)) G₁ s)
    (hv : m (Str.ofString "values") = some (valV ad d)) (hw : m (Str.ofString "errmsg") = some (.str d.words t))
    (okb : GOk w cd ad σ W k G₁) (run : G₁[ad.gi k]? = some .running) (inj : ∀ i, i < k → ad.gi i ≠ ad.gi k) (oth : ∀ g, (∀ i, i ≤ k → g ≠ ad.gi i) → G₁[g]? = G[g]?) :
    Sg (model PP w) A (PhiOf h₁ Q E (ad.ga k) (ad.gi k)) (fCode (.ref ad.S) (fEnv (ad.gf k) 35 cd)) ((model PP w).den (fCode (.ref ad.S) (fEnv (ad.gf k) 35 cd))) (fFrames (fEnv (ad.gf k) 35 cd) p) s := by
  have hsw : ∀ p' b', W.setWell k d p' b' = { W with sp := p', sa := b' } := fun p' b' => by unfold W2.setWell; rw [hkd]
  have mR : (ad.R, lstP rv) ∈ gC ad σ rv W k ++ (ad.ga k, genP (ad.gi k)) :: rest := List.mem_append_left _ (.head _)
  have mS : (ad.S, srcP ad W) ∈ gC ad σ rv W k ++ (ad.ga k, genP (ad.gi k)) :: rest := List.mem_append_left _ (.tail _ (.head _))
  have hFX : ∀ W1 : W2, FramesIn outer (gC ad σ rv W1 k ++ (ad.ga k, genP (ad.gi k)) :: rest) := fun W1 => hF.sub fun q i => List.mem_append_right _ (.tail _ i)
  have hmid : ∀ p' b', _ := fun p' b' => mid_plain (rv := rv) (rest := rest) (G := G) (W1 := { W with sp := p', sa := b' }) (ad' := ad) (σ' := σ) (it' := ad.it) (σ := σ) (by rw [hkd]; simp) hgo rfl (fun _ _ => rfl) (fun _ _ => rfl) hd (gOk_congr (W' := { W with sp := p', sa := b' }) okb (fun _ _ => rfl) (fun _ _ => rfl) fun _ _ => rfl) run inj oth
  have hask : ∀ o, (if W.sa then W.items[W.sp]? else none) = o → ask W k = (match o with
      | none => (.fin, ({ W with sp := W.sp, sa := false } : W2).stop k)
      | some x => (readIt x d.words, ({ W with sp := W.sp + 1, sa := true } : W2).endIf k (readIt x d.words))) := by
    intro o ho
    rw [ask]
    simp only [hd, hgo, if_true, hkd, W2.well, hsw, ho]
    all_goals (cases o <;> rfl)
  refine guard_head (os := os) T hE (by decide +kernel) hh hfr ?_
  have hU : ∀ W1 : W2, W1.gs = W.gs → Upd ad.S (srcP ad W) (srcP ad W1) ((ad.gf k, nsP m) :: (gC ad σ rv W k ++ (ad.ga k, genP (ad.gi k)) :: rest)) ((ad.gf k, nsP m) :: (gC ad σ rv W1 k ++ (ad.ga k, genP (ad.gi k)) :: rest)) := fun W1 h => .there (upd_src h)
  cases hsa : W.sa with
  | false =>
    have hs1 : srcP ad W = lendP := by unfold srcP; rw [hsa]; rfl
    have hWW : ({ W with sp := W.sp, sa := false } : W2) = W := by cases W; simp only at hsa; subst hsa; rfl
    refine x_lit_done hh B (.tail _ (hs1 ▸ mS)) fun s' B' => ?_
    have ha := hask none (by rw [hsa]; rfl)
    have Z := (hmid W.sp false).1
    rw [hWW] at Z ha
    exact turn_none K Z ha B' hv hw
  | true =>
    have hs1 : srcP ad W = litP ad.R W.sp := by unfold srcP; rw [hsa]; rfl
    cases hx : W.items[W.sp]? with
    | none =>
      have hu := hU { W with sp := W.sp, sa := false } rfl
      rw [hs1] at hu
      refine x_lit_end hh B hu (B.get (.tail _ mR)).lst ?_ fun s' B' => ?_
      · rw [List.getElem?_eq_none_iff] at hx ⊢
        rw [hits.length]; exact hx
      · exact turn_none K (hmid W.sp false).1 (hask none (by rw [hsa]; exact hx)) B' hv hw
    | some x =>
      obtain ⟨v, hvx, hxv⟩ := hits.get _ _ hx
      have hu := hU { W with sp := W.sp + 1, sa := true } rfl
      rw [hs1] at hu
      refine x_lit_item B hu (B.get (.tail _ mR)).lst hvx fun s' B' => ?_
      have := turn_some (p := p) hE K (hmid (W.sp + 1) true).1 (fun q => by rw [hkd] at q; cases q) (hmid (W.sp + 1) true).2 (hask (some x) (by rw [hsa]; exact hx)) hxv B' hv hw (hFX _)
      have e : itV ad k d = .ref ad.S := by unfold itV; rw [hkd]
      rw [e] at this
      exact this
end
end
section
section
variable {w : World} {cd : Value} {h₁ : Heap} {os : OsState} {mg mb : Str → Option Value} {ad : Ad} {σ : Nat → Bool} {rv : List Value} {W : W2} {k : Nat} {d : GD} {rest X : Cels} {G G₁ : Array GenState} {A : Around}
variable {Q : Option Value → Shared → Prop} {E : Value → Shared → Prop} {s : Shared} {m : Str → Option Value} {t : Tok} {outer : List Env} {p : Pos} {Φ : End → Shared → Prop}

theorem readIt_item {x : It} {y : Str} {n : Int} (h : readIt x y = .item n) : 0 ≤ n := by
  cases x with
  | t _ => cases h
  | i m =>
    unfold readIt at h
    dsimp only at h
    by_cases hm : m < 0
    · rw [if_pos hm] at h; cases h
    · rw [if_neg hm] at h; cases h; omega
theorem ask_item (W : W2) (k : Nat) (n : Int) (h : (ask W k).1 = .item n) : 0 ≤ n := by
  induction k using Nat.strongRecOn with
  | ind k ih =>
  rw [ask] at h
  split at h
  · cases h
  · split at h
    · split at h
      · split at h
        · rename_i j _ hj
          exact ih _ hj h
        · cases h
      · split at h
        · cases h
        · exact readIt_item h
    · cases h

/-- the contract of an asking -/
def NextOk (w : World) (cd : Value) (h₁ : Heap) (os : OsState) (j : Nat) : Prop := ∀ (A : Around) (E : Value → Shared → Prop) (Q : Option Value → Shared → Prop) (s : Shared) (W : W2) (σ : Nat → Bool) (ad : Ad) (G : Array GenState) (rest : Cels) (outer : List Env) (rv : List Value) (d : GD),
  W.Ok → W.gs[j]? = some d → ItsAre W.items rv → A.handled = none → A.frames = some outer → FramesIn outer rest → A.depth + j < recursionLimit → Sh h₁ os (gC ad σ rv W (j + 1) ++ rest) G s → GOk w cd ad σ W (j + 1) G →
  Cont w cd h₁ os ad σ rv W j rest G Q E → wpAny (model PP w) A (callSpecial? (.ref (ad.ga j)) (Str.ofString "__next__")) Q E s

/-- a guard on an earlier one, at its loop's head -/
theorem head_on {j : Nat} (T : Tp2 h₁ mg mb) (hE : Er h₁ 24 23) (ih : NextOk w cd h₁ os j) (K : Cont w cd h₁ os ad σ rv W k rest G Q E) (hh : A.handled = none) (hfr : A.frames = some outer) (hF : FramesIn outer rest)
    (ok : W.Ok) (hd : W.gs[k]? = some d) (hkd : d.kd = .on j) (hgo : d.going = true) (hits : ItsAre W.items rv) (hdep : A.depth + k < recursionLimit)
    (B : Sh h₁ os ((ad.gf k, nsP m) :: (gC ad σ rv W k ++ (ad.ga k, genP (ad.gi k)) :: rest)) G₁ s)
    (hv : m (Str.ofString "values") = some (valV ad d)) (hw : m (Str.ofString "errmsg") = some (.str d.words t))
    (okb : GOk w cd ad σ W k G₁) (run : G₁[ad.gi k]? = some .running) (inj : ∀ i, i < k → ad.gi i ≠ ad.gi k) (oth : ∀ g, (∀ i, i ≤ k → g ≠ ad.gi i) → G₁[g]? = G[g]?) :
    Sg (model PP w) A (PhiOf h₁ Q E (ad.ga k) (ad.gi k)) (fCode (.ref (ad.ga j)) (fEnv (ad.gf k) 35 cd)) ((model PP w).den (fCode (.ref (ad.ga j)) (fEnv (ad.gf k) 35 cd))) (fFrames (fEnv (ad.gf k) 35 cd) p) s := by
  have hj : j < k := (ok.on k d j hd hkd).1
  have hlt := (List.getElem?_eq_some_iff.mp hd).1
  obtain ⟨dj, hdj⟩ : ∃ dj, W.gs[j]? = some dj := ⟨_, List.getElem?_eq_getElem (by omega)⟩
  have ha : ask W k = ((ask W j).1, (ask W j).2.endIf k (ask W j).1) := by rw [ask]; simp [hd, hgo, hkd, hj]
  -- the cells, as the earlier guard wants them, and back
  have hperm : ∀ (ad' : Ad) (σ' : Nat → Bool) (W' : W2) (M : Cels) (c : Addr × Cel), (gC ad' σ' rv W' (j + 1) ++ (M ++ c :: (ad.ga k, genP (ad.gi k)) :: rest)).Perm (c :: ((gC ad' σ' rv W' (j + 1) ++ M) ++ (ad.ga k, genP (ad.gi k)) :: rest)) := by
    intro ad' σ' W' M c
    rw [← List.append_assoc]
    exact List.perm_middle
  have B1 : Sh h₁ os (gC ad σ rv W (j + 1) ++ (mids ad σ W j k ++ (ad.gf k, nsP m) :: (ad.ga k, genP (ad.gi k)) :: rest)) G₁ s := by
    rw [gC_split ad σ rv W hj] at B
    exact B.perm (hperm ..).symm
  have ok1 : GOk w cd ad σ W (j + 1) G₁ := ⟨fun i di hi => okb.st i di (by omega), fun i i' hi hi' => okb.inj i i' (by omega) (by omega), fun i di hi => okb.live i di (by omega)⟩
  -- what is so behind the earlier guard's asking
  have hmid : ∀ ad' σ' G', Res w cd ad σ W j G₁ ad' σ' G' → gC ad' σ' rv (ask W j).2 k = gC ad' σ' rv (ask W j).2 (j + 1) ++ mids ad σ W j k ∧
      Mid w cd ad σ rv k d rest G (gC ad' σ' rv (ask W j).2 k ++ (ad.ga k, genP (ad.gi k)) :: rest) (ask W j).2 d ad' (fun i => if i = k then true else σ' i) G' ∧
      Sb (gC ad' (fun i => if i = k then true else σ' i) rv (ask W j).2 (k + 1) ++ rest) ((ad.gf k, gfP (valV ad d) d.words) :: (gC ad' σ' rv (ask W j).2 k ++ (ad.ga k, genP (ad.gi k)) :: rest)) := by
    intro ad' σ' G' R
    obtain ⟨it', rfl, hit⟩ := R.ad_
    have hG : ∀ i, j < i → i ≤ k → G'[ad.gi i]? = G₁[ad.gi i]? := fun i hi hik => R.oth _ fun i' hi' e => by
      rcases Nat.lt_or_eq_of_le hik with hik | rfl
      · exact absurd (okb.inj i i' hik (by omega) e) (by omega)
      · exact inj i' (by omega) e.symm
    refine ⟨?_, mid_plain (by rw [hkd]; simp) hgo rfl (fun i hi => hit i (by omega)) (fun i hi => R.sg i (by omega)) (by rw [ask_other W j k hj]; exact hd) ?_ ((hG k hj (Nat.le_refl _)).trans run) inj fun g hg => (R.oth g fun i hi => hg i (by omega)).trans (oth g hg)⟩
    · rw [gC_split _ _ _ _ hj]
      congr 1
      unfold mids
      refine flat_congr fun i hi => ?_
      obtain ⟨b, hb, rfl⟩ := List.mem_map.mp hi
      have hb := List.mem_range.mp hb
      unfold gOne
      rw [ask_other W j _ (by omega)]
      cases W.gs[j + 1 + b]? with
      | none => rfl
      | some di =>
        have : itc { ad with it := it' } σ' (j + 1 + b) di = itc ad σ (j + 1 + b) di := by
          unfold itc
          rw [R.sg _ (by omega)]
          split
          · have : ({ ad with it := it' } : Ad).it (j + 1 + b) = ad.it (j + 1 + b) := hit _ (by omega)
            rw [this]
          · rfl
        show _ :: _ :: itc { ad with it := it' } σ' (j + 1 + b) di = _
        rw [this]
        rfl
    · refine ⟨fun i di hi hdi => ?_, fun i i' hi hi' e => okb.inj i i' hi hi' e, fun i di hi hdi => ?_⟩
      · by_cases hij : i < j + 1
        · exact R.ok.st i di hij hdi
        · rw [ask_other W j i (by omega)] at hdi
          obtain ⟨gs, h1, h2⟩ := okb.st i di hi hdi
          refine ⟨gs, (hG i (by omega) (by omega)).trans h1, ?_⟩
          unfold GSt at h2 ⊢
          rw [R.sg i (by omega)]
          have : itV { ad with it := it' } i di = itV ad i di := by
            unfold itV
            cases di.kd with
            | row => show Value.ref (it' i) = _; rw [hit i (by omega)]
            | src => rfl
            | on j => rfl
          rw [this]
          exact h2
      · by_cases hij : i < j + 1
        · exact R.ok.live i di hij hdi
        · rw [ask_other W j i (by omega)] at hdi
          rw [R.sg i (by omega)]
          exact okb.live i di hi hdi
  have hFX : ∀ Y : Cels, FramesIn outer (Y ++ (ad.ga k, genP (ad.gi k)) :: rest) := fun Y => hF.sub fun q i => List.mem_append_right _ (.tail _ i)
  have hkind : (fEnv (ad.gf k) 35 cd).scope.kind ≠ .module := by show scFail.kind ≠ _; decide +kernel
  have nv : Str.ofString "values" ≠ Str.ofString "x" := by decide +kernel
  refine guard_head (os := os) T hE (by decide +kernel) hh hfr ?_
  unfold pyNext
  refine wpAny_bind (wpAny_attempt ?_)
  refine ih _ _ _ s W σ ad G₁ _ (fEnv (ad.gf k) 35 cd :: outer) rv dj ok hdj hits hh (fOver_frames hfr) (FramesIn.cons (hF.sub fun q i => List.mem_append_right _ (.tail _ (.tail _ i))) hkind rfl (List.mem_append_right _ (.head _))) (by rw [fOver_depth]; omega) B1 ok1 ⟨?_, ?_, ?_, ?_⟩
  · intro n tn ad' σ' G' s' hr R B'
    obtain ⟨h1, Z, hsb⟩ := hmid ad' σ' G' R
    have B2 := B'.perm (hperm ..)
    rw [← h1] at B2
    have hn := ask_item W j n hr
    refine wpAny_pure ?_
    have := turn_some (p := p) (x := .i n) (v := .int n tn) hE K Z (fun q => by rw [hkd] at q; cases q) hsb ?_ ⟨tn, rfl⟩ B2 hv hw (hFX _)
    · have e : itV ad' k d = .ref (ad.ga j) := by obtain ⟨it', rfl, _⟩ := R.ad_; unfold itV; rw [hkd]
      rw [e] at this
      exact this
    · rw [ha, hr]
      have : readIt (.i n) d.words = .item n := if_neg (by omega)
      rw [this]
  · intro x v0 ad' σ' G' s' hr R F
    obtain ⟨h1, Z, hsb⟩ := hmid ad' σ' G' R
    refine caught_stop F ?_
    have B2 := F.sh.perm (hperm ..)
    rw [← h1] at B2
    refine turn_none K Z ?_ B2 hv hw
    rw [ha, hr]; rfl
  · intro x e te tw ad' σ' G' s' hr R F
    obtain ⟨h1, Z, hsb⟩ := hmid ad' σ' G' R
    have ha' : ask W k = (.below x, (ask W j).2.stop k) := by rw [ha, hr]; rfl
    have hper2 := hperm ad' σ' (ask W j).2 (mids ad σ W j k) (ad.gf k, nsP m)
    rw [← h1] at hper2
    have F2 := F.sb ((Sb.ofPerm hper2.symm).cons (te, tupP [.str x tw]))
    refine wpAny_bind (isInst_noStop F hE.noStop ?_)
    refine wpAny_throw ⟨_, G', e, .ref 24, .ref te, rfl, F2, ?_, fun s'' F'' => ?_⟩
    · exact FramesIn.cons ((hFX _).tail.tail) hkind rfl (.tail _ (.head _))
    · have F3 := (F''.close (.there .here) hv hw).sb (Z.sbS.cons (te, tupP [.str x tw]))
      refine ⟨rfl, os, _, _, e, .ref 24, .ref te, some .none, rfl, F3.setGen (ad.gi k) .finished, hE.noStop, (F''.sh.get (.tail _ (.tail _ Z.gen))).gen, ?_⟩
      refine K.below x e te tw ad' _ _ _ (by rw [ha']) (Z.stop (by rw [ha'])) ?_
      rw [ha']
      exact F3.setGen (ad.gi k) .finished
  · intro e v0 ad' σ' G' s' hr R F
    obtain ⟨h1, Z, hsb⟩ := hmid ad' σ' G' R
    have ha' : ask W k = (.nonum, (ask W j).2.stop k) := by rw [ha, hr]; rfl
    have hper2 := hperm ad' σ' (ask W j).2 (mids ad σ W j k) (ad.gf k, nsP m)
    rw [← h1] at hper2
    have F2 := F.sb (Sb.ofPerm hper2.symm)
    refine wpAny_bind (isInst_noStop F noStop_te ?_)
    refine wpAny_throw ⟨_, G', e, .type "TypeError", v0, rfl, F2, ?_, fun s'' F'' => ?_⟩
    · exact FramesIn.cons ((hFX _).tail) hkind rfl (.head _)
    · have F3 := (F''.close .here hv hw).sb Z.sbS
      refine ⟨rfl, os, _, _, e, .type "TypeError", v0, some .none, rfl, F3.setGen (ad.gi k) .finished, noStop_te, (F''.sh.get (.tail _ Z.gen)).gen, ?_⟩
      refine K.nonum e v0 ad' _ _ _ (by rw [ha']) (Z.stop (by rw [ha'])) ?_
      rw [ha']
      exact F3.setGen (ad.gi k) .finished
end
end
section
theorem Res.same {w : World} {cd : Value} {ad : Ad} {σ : Nat → Bool} {W : W2} {k : Nat} {G : Array GenState} (g : GOk w cd ad σ W (k + 1) G) (h : (ask W k).2 = W) : Res w cd ad σ W k G ad σ G :=
  ⟨⟨ad.it, rfl, fun _ _ => rfl⟩, fun _ _ => rfl, by rw [h]; exact g, fun _ _ => rfl⟩
theorem guard_next {w : World} {cd : Value} {h₁ : Heap} {os : OsState} {mg mb : Str → Option Value} (T : Tp2 h₁ mg mb) (hE : Er h₁ 24 23) (k : Nat) : NextOk w cd h₁ os k := by
  induction k using Nat.strongRecOn with
  | ind k ih =>
  intro A E Q s W σ ad G rest outer rv d ok hd hits hh hfr hF hdep B g K
  obtain ⟨gs, hgs, hst⟩ := g.st k d (Nat.lt_succ_self _) hd
  have hone : gOne ad σ W k = (ad.ga k, genP (ad.gi k)) :: (ad.gf k, gfP (valV ad d) d.words) :: itc ad σ k d := by unfold gOne; rw [hd]
  have mG : (ad.ga k, genP (ad.gi k)) ∈ gC ad σ rv W (k + 1) ++ rest := by
    rw [gC_succ, hone]
    exact List.mem_append_left _ (List.mem_append_right _ (.head _))
  have hgen := (B.get mG).gen
  have hgs' : s.gens[ad.gi k]? = some gs := by rw [B.gens]; exact hgs
  cases hgo : d.going with
  | false =>
    unfold GSt at hst
    rw [if_neg (by rw [hgo]; decide)] at hst
    subst hst
    have ha : ask W k = (.fin, W) := by rw [ask]; simp [hd, hgo]
    refine gen_next_done hh B hgen hgs' fun x v0 s' F => ?_
    refine K.fin x v0 ad σ G s' (by rw [ha]) (.same g (by rw [ha])) ?_
    rw [ha]
    exact F
  | true =>
    have hsz : ad.gi k < G.size := (Array.getElem?_eq_some_iff.mp hgs).1
    have inj : ∀ i, i < k → ad.gi i ≠ ad.gi k := fun i hi e => absurd (g.inj i k (by omega) (by omega) e) (by omega)
    have run : (G.setIfInBounds (ad.gi k) .running)[ad.gi k]? = some .running := by simp [hsz]
    have oth : ∀ x, (∀ i, i ≤ k → x ≠ ad.gi i) → (G.setIfInBounds (ad.gi k) .running)[x]? = G[x]? := fun x hx => Array.getElem?_setIfInBounds_ne (Ne.symm (hx k (Nat.le_refl _)))
    have okb : GOk w cd ad σ W k (G.setIfInBounds (ad.gi k) .running) := by
      refine ⟨fun i di hi hdi => ?_, fun i j hi hj => g.inj i j (by omega) (by omega), fun i di hi => g.live i di (by omega)⟩
      obtain ⟨gs', h1, h2⟩ := g.st i di (by omega) hdi
      exact ⟨gs', by rw [Array.getElem?_setIfInBounds_ne (Ne.symm (inj i hi))]; exact h1, h2⟩
    have B0 : Sh h₁ os ((ad.gf k, gfP (valV ad d) d.words) :: (itc ad σ k d ++ (gC ad σ rv W k ++ (ad.ga k, genP (ad.gi k)) :: rest))) (G.setIfInBounds (ad.gi k) .running) (s.setGen (ad.gi k) .running) := by
      refine (B.setGen (ad.gi k) .running).perm ?_
      rw [gC_succ, hone, List.append_assoc]
      show (gC ad σ rv W k ++ (ad.ga k, genP (ad.gi k)) :: (ad.gf k, gfP (valV ad d) d.words) :: (itc ad σ k d ++ rest)).Perm _
      refine ((List.Perm.swap ..).append_left _).trans (List.perm_middle.trans (List.Perm.cons _ ?_))
      show (gC ad σ rv W k ++ ([(ad.ga k, genP (ad.gi k))] ++ (itc ad σ k d ++ rest))).Perm _
      rw [← List.append_assoc, ← List.append_assoc]
      refine (List.Perm.append_right rest (List.perm_append_comm)).trans ?_
      rw [List.append_assoc, List.append_assoc]
      rfl
    obtain ⟨m, t, B1, hv, hw⟩ := B0.openF
    refine gen_next hh hgen hgs' (T.lim.keeps B.hp.old) (by omega) ?_ (fun e s₁ h => h) (Φ := PhiOf h₁ Q E (ad.ga k) (ad.gi k))
    unfold GSt at hst
    rw [if_pos hgo] at hst
    cases hkd : d.kd with
    | row =>
      obtain ⟨hlv, hp0⟩ := g.live k d (Nat.lt_succ_self _) hd hkd hgo
      cases hσ : σ k with
      | true =>
        rw [if_pos hσ] at hst
        obtain ⟨p, R⟩ := hst
        have e : itc ad σ k d = [(ad.it k, litP ad.R d.pos)] := by unfold itc; rw [if_pos ⟨hkd, hgo, hσ⟩]
        have e2 : itV ad k d = .ref (ad.it k) := by unfold itV; rw [hkd]
        rw [e] at B1
        rw [e2] at R
        exact R.wk (head_row T hE K hh hfr hF hd hkd hgo hlv hits B1 hv hw okb run inj oth)
      | false =>
        rw [if_neg (by rw [hσ]; decide)] at hst
        subst hst
        have e : itc ad σ k d = [] := by unfold itc; rw [if_neg (by rw [hσ]; simp)]
        rw [e] at B1
        have mR : (ad.R, lstP rv) ∈ gC ad σ rv W k ++ (ad.ga k, genP (ad.gi k)) :: rest := List.mem_append_left _ (.head _)
        have e2 : valV ad d = .ref ad.R := by unfold valV; rw [hkd]
        refine fresh_go B1 (by rw [hv, e2]) ?_
        refine i_list B1 (B1.get (.tail _ mR)).lst fun a s' B2 p => ?_
        have B3 := B2.perm (List.Perm.swap ..)
        rw [← hp0 hσ] at B3
        exact head_row T hE K hh hfr hF hd hkd hgo hlv hits B3 hv hw okb run inj oth
    | src =>
      have e : itc ad σ k d = [] := by unfold itc; rw [if_neg (by rw [hkd]; simp)]
      rw [e] at B1
      have e2 : itV ad k d = .ref ad.S := by unfold itV; rw [hkd]
      cases hσ : σ k with
      | true =>
        rw [if_pos hσ] at hst
        obtain ⟨p, R⟩ := hst
        rw [e2] at R
        exact R.wk (head_src T hE K hh hfr hF hd hkd hgo hits B1 hv hw okb run inj oth)
      | false =>
        rw [if_neg (by rw [hσ]; decide)] at hst
        subst hst
        have e3 : valV ad d = .ref ad.S := by unfold valV; rw [hkd]
        have mS : (ad.S, srcP ad W) ∈ gC ad σ rv W k ++ (ad.ga k, genP (ad.gi k)) :: rest := List.mem_append_left _ (.tail _ (.head _))
        have pS := B1.get (.tail _ mS)
        refine fresh_go B1 (by rw [hv, e3]) ?_
        unfold srcP at pS
        cases hsa : W.sa with
        | true =>
          rw [hsa, if_pos rfl] at pS
          exact i_lit pS.lit fun p => head_src T hE K hh hfr hF hd hkd hgo hits B1 hv hw okb run inj oth
        | false =>
          rw [hsa, if_neg (by decide)] at pS
          exact i_lend pS fun p => head_src T hE K hh hfr hF hd hkd hgo hits B1 hv hw okb run inj oth
    | on j =>
      have hj : j < k := (ok.on k d j hd hkd).1
      have e : itc ad σ k d = [] := by unfold itc; rw [if_neg (by rw [hkd]; simp)]
      rw [e] at B1
      have e2 : itV ad k d = .ref (ad.ga j) := by unfold itV; rw [hkd]
      cases hσ : σ k with
      | true =>
        rw [if_pos hσ] at hst
        obtain ⟨p, R⟩ := hst
        rw [e2] at R
        exact R.wk (head_on T hE (ih j hj) K hh hfr hF ok hd hkd hgo hits hdep B1 hv hw okb run inj oth)
      | false =>
        rw [if_neg (by rw [hσ]; decide)] at hst
        subst hst
        have e3 : valV ad d = .ref (ad.ga j) := by unfold valV; rw [hkd]
        have hlt := (List.getElem?_eq_some_iff.mp hd).1
        obtain ⟨dj, hdj⟩ : ∃ dj, W.gs[j]? = some dj := ⟨_, List.getElem?_eq_getElem (by omega)⟩
        have mJ : (ad.ga j, genP (ad.gi j)) ∈ gC ad σ rv W k ++ (ad.ga k, genP (ad.gi k)) :: rest :=
          List.mem_append_left _ (List.mem_append_right _ (List.mem_flatMap.mpr ⟨j, List.mem_range.mpr hj, by unfold gOne; rw [hdj]; exact .head _⟩))
        refine fresh_go B1 (by rw [hv, e3]) ?_
        exact i_gen (B1.get (.tail _ mJ)).gen fun p => head_on T hE (ih j hj) K hh hfr hF ok hd hkd hgo hits hdep B1 hv hw okb run inj oth
end
section
def dTold : { b : Arguments × List Stmt × Scope // b = ((PP.theDef "_law_told").getD default) } := by
  refine ⟨?b, Eq.symm ?h⟩
  case h => conv => lhs; whnf
abbrev prTold : Arguments := dTold.1.1
abbrev bdTold : List Stmt := dTold.1.2.1
abbrev scTold : Scope := dTold.1.2.2
theorem sub_te_ref {C : Addr} : isSubtype (.type "TypeError") (.ref C) = pure false := by
  unfold isSubtype
  rw [show mroOf (.type "TypeError") = pure [.type "TypeError", .type "Exception", .type "BaseException", .type "object"] by first | rfl | kernel_rfl | decide +kernel]
  rfl
theorem told_call {w : World} {h₁ : Heap} {os : OsState} {cd cdg : Value} {mg mb : Str → Option Value} (T : Tp2 h₁ mg mb) (hE : Er h₁ 24 23) (F : Fn h₁ 56 "_law_told" prTold bdTold scTold cd)
    (k : Nat) (A : Around) (R : Result → Shared → Prop) (s : Shared) (W : W2) (σ : Nat → Bool) (ad : Ad) (G : Array GenState) (rest : Cels) (outer : List Env) (rv : List Value) (d : GD)
    (ok : W.Ok) (hd : W.gs[k]? = some d) (hits : ItsAre W.items rv) (hh : A.handled = none) (hfr : A.frames = some outer) (hF : FramesIn outer rest) (hdep : A.depth + k + 1 < recursionLimit) (hu : A.units + 64 < cLine)
    (B : Sh h₁ os (gC ad σ rv W (k + 1) ++ rest) G s) (g : GOk w cdg ad σ W (k + 1) G)
    (h : ∀ ad' σ' G' s' tp vs, ResIs (ask W k).1 vs → Res w cdg ad σ W k G ad' σ' G' → Sh h₁ os ((tp, tupP vs) :: (gC ad' σ' rv (ask W k).2 (k + 1) ++ rest)) G' s' → R (.ok (.ret (.ref tp))) s') :
    codeAny (model PP w) A (.call (.ref 56) ⟨[.ref (ad.ga k)], []⟩) R s := by
  refine call_fn (binds := [("guard", .ref (ad.ga k))]) (m := frm [("guard", .ref (ad.ga k))]) F B (by omega) (fun _ _ => rfl) (locs rfl) rfl ?_ (by decide +kernel) (by decide +kernel) (by decide +kernel) (by decide +kernel)
  intro L s B
  have hone : gOne ad σ W k = (ad.ga k, genP (ad.gi k)) :: (ad.gf k, gfP (valV ad d) d.words) :: itc ad σ k d := by unfold gOne; rw [hd]
  have mG : (ad.ga k, genP (ad.gi k)) ∈ gC ad σ rv W (k + 1) ++ rest := by
    rw [gC_succ, hone]
    exact List.mem_append_left _ (List.mem_append_right _ (.head _))
  have hfr' : (A.deeper (envOf "_law_told" scTold L 56 cd)).frames = some (envOf "_law_told" scTold L 56 cd :: outer) := by show A.frames.map _ = _; rw [hfr]; rfl
  have hFF : ∀ Y m, FramesIn (envOf "_law_told" scTold L 56 cd :: outer) ((L, nsP m) :: (Y ++ rest)) := fun Y m => FramesIn.cons (hF.sub fun q i => .tail _ (List.mem_append_right _ i)) (by show scTold.kind ≠ _; decide +kernel) rfl (.head _)
  refine wpAny_execs_cons ?_
  refine wpAny_Try_except ?_
  refine wpAny_execs_cons ?_
  repeat walk_at "v"
  refine r_next (Sh.get (by assumption) (.tail _ mG)).gen ?_
  refine guard_next T hE k _ _ _ _ W σ ad G ((L, nsP _) :: rest) (envOf "_law_told" scTold L 56 cd :: outer) rv d ok hd hits hh hfr' (FramesIn.cons hF.tail (by show scTold.kind ≠ _; decide +kernel) rfl (.head _)) (by show A.depth + 1 + k < _; omega) (Sh.perm (by assumption) List.perm_middle.symm) g ⟨?_, ?_, ?_, ?_⟩
  · intro n t ad' σ' G' s' ha R' B'
    refine ⟨_, rfl, ?_⟩
    have B2 := B'.perm List.perm_middle
    repeat walk_at "v"
    refine h ad' σ' G' _ _ _ ?_ R' (Sh.drop (by assumption))
    rw [ha]
    exact ⟨_, _, rfl⟩
  · intro x v0 ad' σ' G' s' ha R' Fl
    have F2 := Fl.sb (Sb.ofPerm List.perm_middle.symm)
    refine n_first F2 hfr' (hFF _ _) rfl fun s' F3 => ?_
    refine f_set F3 fun s' F4 => ?_
    obtain ⟨tb, B4⟩ := id F4
    refine h_yes ?_
    have B5 := F4.sh
    repeat walk_at "v"
    refine m_type B4 (.head _) (T := "StopIteration") (by rw [isSubtype_type]; kernel_rfl) (by rw [isSubtype_type]; kernel_rfl) (b := true) (by rw [isSubtype_type]; kernel_rfl) ⟨rfl, ?_⟩
    refine f_set F4 fun s' F6 => ?_
    have B6 := F6.sh
    refine wpAny_execs_cons ?_
    repeat walk_at "v"
    refine h ad' σ' G' _ _ _ ?_ R' (Sh.drop (by assumption))
    rw [ha]
    exact ⟨_, rfl⟩
  · intro x e te tw ad' σ' G' s' ha R' Fl
    have F2 := Fl.sb ((Sb.ofPerm List.perm_middle.symm).cons (te, tupP [.str x tw]))
    refine n_next F2 hfr' (hFF _ _).tail rfl fun s' F3 => ?_
    refine f_set F3 fun s' F4 => ?_
    obtain ⟨tb, B4⟩ := id F4
    refine h_no ?_
    have B5 := F4.sh.perm (List.Perm.swap ..)
    repeat walk_at "v"
    refine m_own hE B4 (.head _) (T := "StopIteration") (by rw [isSubtype_type]; kernel_rfl) (by rw [isSubtype_type]; kernel_rfl) ⟨by decide +kernel, ?_⟩
    refine h_yesAs ?_
    repeat walk_at "v"
    refine m_self hE B4 (.head _) ⟨rfl, ?_⟩
    refine f_set F4 fun s' F6 => ?_
    obtain ⟨tb, B6⟩ := F6
    have B7 := B6.perm (List.perm_middle (l₁ := [_, _, _]))
    repeat walk_at "v"
    refine wpAny_execs_cons ?_
    repeat walk_at "v"
    refine r_typeExc (by assumption) (.tail _ (.head _)) ?_
    repeat walk_at "v"
    refine wpAny_is_ref_self ?_
    repeat walk_at "v"
    rw [if_pos rfl]
    repeat walk_at "v"
    refine r_strExc hE (by show A.units + 3 + 2 < cLine; omega) (by assumption) (te := te) (.tail _ (.head _)) (.tail _ (.tail _ (.tail _ (.head _)))) ?_
    repeat walk_at "v"
    refine n_goes (by assumption) (by decide +kernel) (by decide +kernel) fun m' s' B8 => ?_
    refine h ad' σ' G' _ _ _ ?_ R' ((B8.drop).sub (.cons_cons _ (.cons _ (.cons _ (.cons _ (.refl _))))))
    rw [ha]
    exact ⟨_, _, rfl⟩
  · intro e v0 ad' σ' G' s' ha R' Fl
    have F2 := Fl.sb (Sb.ofPerm List.perm_middle.symm)
    refine n_next F2 hfr' (hFF _ _) rfl fun s' F3 => ?_
    refine f_set F3 fun s' F4 => ?_
    obtain ⟨tb, B4⟩ := id F4
    have B5 := F4.sh
    refine h_no ?_
    repeat walk_at "v"
    refine m_type B4 (.head _) (T := "StopIteration") (by rw [isSubtype_type]; kernel_rfl) (by rw [isSubtype_type]; kernel_rfl) (b := false) (by rw [isSubtype_type]; kernel_rfl) ⟨rfl, ?_⟩
    refine h_no ?_
    repeat walk_at "v"
    refine m_not_own hE B4 (.head _) sub_te_ref ⟨rfl, ?_⟩
    refine h_yes ?_
    repeat walk_at "v"
    refine m_type B4 (.head _) (T := "TypeError") (by rw [isSubtype_type]; kernel_rfl) (by rw [isSubtype_type]; kernel_rfl) (b := true) (by rw [isSubtype_type]; kernel_rfl) ⟨rfl, ?_⟩
    refine f_set F4 fun s' F6 => ?_
    have B6 := F6.sh
    refine wpAny_execs_cons ?_
    repeat walk_at "v"
    refine h ad' σ' G' _ _ _ ?_ R' (Sh.drop (by assumption))
    rw [ha]
    exact ⟨_, rfl⟩
end
section
def GD.key (d : GD) : Kd × Int × Str := (d.kd, d.u, d.words)
theorem modify_key {gs : List GD} {k : Nat} {f : GD → GD} (hf : ∀ d, (f d).key = d.key) : (gs.modify k f).map GD.key = gs.map GD.key := by
  apply List.ext_getElem?
  intro i
  simp only [List.getElem?_map, List.getElem?_modify]
  cases gs[i]? with
  | none => rfl
  | some d =>
    show (Option.some (if k = i then f d else d)).map GD.key = some d.key
    by_cases h : k = i
    · rw [if_pos h]; exact congrArg some (hf d)
    · rw [if_neg h]; rfl
theorem stop_key (W : W2) (k : Nat) : (W.stop k).gs.map GD.key = W.gs.map GD.key := modify_key fun _ => rfl
theorem setWell_key (W : W2) (k : Nat) (d : GD) (p : Nat) (b : Bool) : (W.setWell k d p b).gs.map GD.key = W.gs.map GD.key := by
  unfold W2.setWell; split
  · rfl
  · exact modify_key fun _ => rfl
theorem endIf_key (W : W2) (k : Nat) (r : Rs) : (W.endIf k r).gs.map GD.key = W.gs.map GD.key := by
  unfold W2.endIf; split
  · rfl
  · exact stop_key W k
theorem ask_key (W : W2) (k : Nat) : (ask W k).2.gs.map GD.key = W.gs.map GD.key := by
  induction k using Nat.strongRecOn with
  | ind k ih =>
  rw [ask]
  split
  · rfl
  · split
    · split
      · split
        · rename_i j _ hj
          rw [endIf_key]; exact ih _ hj
        · rfl
      · split
        · rw [stop_key, setWell_key]
        · rw [endIf_key, setWell_key]
    · rfl
theorem ask_get {W : W2} {k i : Nat} {d : GD} (h : (ask W k).2.gs[i]? = some d) : ∃ d', W.gs[i]? = some d' ∧ d'.key = d.key := by
  have e := congrArg (·[i]?) (ask_key W k)
  simp only [List.getElem?_map, h] at e
  cases hw : W.gs[i]? with
  | none => rw [hw] at e; cases e
  | some d' => rw [hw] at e; exact ⟨d', rfl, (Option.some.inj e).symm⟩
theorem W2.Ok.asked {W : W2} (ok : W.Ok) (k : Nat) : (ask W k).2.Ok := by
  refine ⟨fun i d j hd hk => ?_, by rw [ask_items]; exact ok.big, by rw [ask_len]; exact ok.few⟩
  obtain ⟨d', hd', e⟩ := ask_get hd
  have e1 : d'.kd = d.kd := congrArg (·.1) e
  have e2 : d'.u = d.u := congrArg (·.2.1) e
  rw [← e2]
  exact ok.on i d' j hd' (e1.trans hk)
/-- every text is one -/
structure Tx (W : W2) : Prop where
  words : ∀ (i : Nat) (d : GD), W.gs[i]? = some d → PyData.strOk d.words = true
  its : ∀ x, It.t x ∈ W.items → PyData.strOk x = true
theorem Tx.asked {W : W2} (t : Tx W) (k : Nat) : Tx (ask W k).2 := by
  refine ⟨fun i d hd => ?_, by rw [ask_items]; exact t.its⟩
  obtain ⟨d', hd', e⟩ := ask_get hd
  have e3 : d'.words = d.words := congrArg (·.2.2) e
  rw [← e3]
  exact t.words i d' hd'
theorem ask_below {W : W2} {k : Nat} {x : Str} (h : (ask W k).1 = .below x) : ∃ (i : Nat) (d : GD), W.gs[i]? = some d ∧ x = d.words := by
  induction k using Nat.strongRecOn with
  | ind k ih =>
  rw [Mine.ask] at h
  split at h
  · cases h
  · rename_i d hd
    split at h
    · split at h
      · split at h
        · rename_i j _ hj
          exact ih _ hj h
        · cases h
      · split at h
        · cases h
        · rename_i y hy
          refine ⟨k, d, hd, ?_⟩
          cases y with
          | t _ => cases h
          | i m =>
            unfold readIt at h
            dsimp only at h
            by_cases hm : m < 0
            · rw [if_pos hm] at h; cases h; rfl
            · rw [if_neg hm] at h; cases h
    · cases h

def rsD : Rs → List PyData
  | .fin => [.str "end", .none]
  | .item n => [.str "item", .int n]
  | .below x => [.str "below", .str x]
  | .nonum => [.str "no number", .none]
theorem ResIs.reads {h : Heap} {r : Rs} {vs : List Value} (H : ResIs r vs) : ReadsAll h vs (rsD r) [] := by
  cases r with
  | fin => obtain ⟨t, rfl⟩ := H; exact .cons (.str _ _) (.cons .none .nil)
  | item n => obtain ⟨t, u, rfl⟩ := H; exact .cons (.str _ _) (.cons (.int _ _) .nil)
  | below x => obtain ⟨t, u, rfl⟩ := H; exact .cons (.str _ _) (.cons (.str _ _) .nil)
  | nonum => obtain ⟨t, rfl⟩ := H; exact .cons (.str _ _) (.cons .none .nil)
theorem Pt.readsT {h : Heap} {a : Addr} {vs : List Value} {ds : List PyData} {as : List Addr} (p : Pt h a (tupP vs)) (r : ReadsAll h vs ds as) : Reads h (.ref a) (.tuple ds) as := by
  obtain ⟨o, ho, n, rfl⟩ := p
  exact .tuple ho rfl rfl (by simpa using r)
theorem Pt.readsL {h : Heap} {a : Addr} {vs : List Value} {ds : List PyData} {as : List Addr} (p : Pt h a (lstP vs)) (r : ReadsAll h vs ds as) : Reads h (.ref a) (.list ds) (a :: as) := by
  obtain ⟨o, ho, n, rfl⟩ := p
  exact .list ho rfl rfl (by simpa using r)
theorem rsD_ok {r : Rs} (h : ∀ x, r = .below x → PyData.strOk x = true) : SeqAt.shaped (.tuple (rsD r)) = true := by
  have h1 : PyData.strOk (Str.ofString "below") = true := by decide +kernel
  have h2 : PyData.strOk (Str.ofString "item") = true := by decide +kernel
  cases r with
  | fin => decide +kernel
  | item n =>
    simp only [SeqAt.shaped, rsD, PyData.canLay0, PyData.canLayAll0, h2, PyData.depth, PyData.depthAll]
    decide
  | below x =>
    have := h x rfl
    simp only [SeqAt.shaped, rsD, PyData.canLay0, PyData.canLayAll0, this, h1, PyData.depth, PyData.depthAll]
    decide
  | nonum => decide +kernel

theorem res_all {w : World} {cd : Value} {ad ad' : Ad} {σ σ' : Nat → Bool} {rv : List Value} {W : W2} {k n : Nat} {G G' : Array GenState} (hkn : k < n) (g : GOk w cd ad σ W n G) (R : Res w cd ad σ W k G ad' σ' G') :
    gC ad' σ' rv (ask W k).2 n = gC ad' σ' rv (ask W k).2 (k + 1) ++ mids ad σ W k n ∧ GOk w cd ad' σ' (ask W k).2 n G' := by
  obtain ⟨it', rfl, hit⟩ := R.ad_
  have hG : ∀ i, k < i → i < n → G'[ad.gi i]? = G[ad.gi i]? := fun i hi hik => R.oth _ fun i' hi' e =>
    absurd (g.inj i i' hik (by omega) e) (by omega)
  refine ⟨?_, ?_⟩
  · rw [gC_split _ _ _ _ hkn]
    congr 1
    unfold mids
    refine flat_congr fun i hi => ?_
    obtain ⟨b, hb, rfl⟩ := List.mem_map.mp hi
    have hb := List.mem_range.mp hb
    unfold gOne
    rw [ask_other W k _ (by omega)]
    cases W.gs[k + 1 + b]? with
    | none => rfl
    | some di =>
      have : itc { ad with it := it' } σ' (k + 1 + b) di = itc ad σ (k + 1 + b) di := by
        unfold itc
        rw [R.sg _ (by omega)]
        split
        · have : ({ ad with it := it' } : Ad).it (k + 1 + b) = ad.it (k + 1 + b) := hit _ (by omega)
          rw [this]
        · rfl
      show _ :: _ :: itc { ad with it := it' } σ' (k + 1 + b) di = _
      rw [this]
      rfl
  · refine ⟨fun i di hi hdi => ?_, fun i i' hi hi' e => g.inj i i' hi hi' e, fun i di hi hdi => ?_⟩
    · by_cases hij : i < k + 1
      · exact R.ok.st i di hij hdi
      · rw [ask_other W k i (by omega)] at hdi
        obtain ⟨gs, h1, h2⟩ := g.st i di hi hdi
        refine ⟨gs, (hG i (by omega) (by omega)).trans h1, ?_⟩
        unfold GSt at h2 ⊢
        rw [R.sg i (by omega)]
        have : itV { ad with it := it' } i di = itV ad i di := by
          unfold itV
          cases di.kd with
          | row => show Value.ref (it' i) = _; rw [hit i (by omega)]
          | src => rfl
          | on j => rfl
        rw [this]
        exact h2
    · by_cases hij : i < k + 1
      · exact R.ok.live i di hij hdi
      · rw [ask_other W k i (by omega)] at hdi
        rw [R.sg i (by omega)]
        exact g.live i di hi hdi

def dRight : { b : Arguments × List Stmt × Scope // b = ((PP.theDef "_law_right").getD default) } := by
  refine ⟨?b, Eq.symm ?h⟩
  case h => conv => lhs; whnf
abbrev prRight : Arguments := dRight.1.1
abbrev bdRight : List Stmt := dRight.1.2.1
abbrev scRight : Scope := dRight.1.2.2
def gLst (ad : Ad) (n : Nat) : List Value := (List.range n).map fun k => .ref (ad.ga k)
/-- the whole of the law's things -/
def aC (ad : Ad) (τ : Tk) (σ : Nat → Bool) (rv : List Value) (W : W2) : Cels := pC ad τ W ++ ((ad.G, lstP (gLst ad W.gs.length)) :: gC ad σ rv W W.gs.length)

/-- the functions of the law -/
structure Fs (h₁ : Heap) (cI cD cT cR : Value) : Prop where
  due : Fn h₁ 49 "_law_due" prDue bdDue scDue cD
  told : Fn h₁ 56 "_law_told" prTold bdTold scTold cT
  right : Fn h₁ 63 "_law_right" prRight bdRight scRight cR

theorem right_call {w : World} {h₁ : Heap} {os : OsState} {cI cD cT cR cdg : Value} {mg mb : Str → Option Value} (T : Tp2 h₁ mg mb) (hE : Er h₁ 24 23) (F : Fs h₁ cI cD cT cR)
    (k : Nat) (tk : Tok) (A : Around) (R : Result → Shared → Prop) (s : Shared) (W : W2) (τ : Tk) (σ : Nat → Bool) (ad : Ad) (G : Array GenState) (rest : Cels) (outer : List Env) (rv : List Value)
    (ok : W.Ok) (tx : Tx W) (hk : k < W.gs.length) (hits : ItsAre W.items rv) (hmv : ItsAre W.items τ.mv) (hh : A.handled = none) (hfr : A.frames = some outer) (hF : FramesIn outer rest) (hdep : A.depth + 300 < recursionLimit) (hu : A.units + 128 < cLine)
    (B : Sh h₁ os (aC ad τ σ rv W ++ rest) G s) (g : GOk w cdg ad σ W W.gs.length G)
    (h : ∀ it' τ' σ' G' s', τ'.mv = τ.mv → (∀ g, (∀ i, i ≤ k → g ≠ ad.gi i) → G'[g]? = G[g]?) → GOk w cdg { ad with it := it' } σ' (ask W k).2 W.gs.length G' → Sh h₁ os (aC { ad with it := it' } τ' σ' rv (ask W k).2 ++ rest) G' s' → R (.ok (.ret (.bool true))) s') :
    codeAny (model PP w) A (.call (.ref 63) ⟨[.ref ad.G, .ref ad.P, .ref ad.M, .int k tk], []⟩) R s := by
  have hfew := ok.few
  obtain ⟨d, hd⟩ : ∃ d, W.gs[k]? = some d := ⟨_, List.getElem?_eq_getElem hk⟩
  refine call_fn (binds := [("guards", .ref ad.G), ("plan", .ref ad.P), ("row", .ref ad.M), ("k", .int k tk)]) (m := frm [("k", .int k tk), ("row", .ref ad.M), ("plan", .ref ad.P), ("guards", .ref ad.G)]) F.right B (by omega) (fun _ _ => rfl) (locs rfl) rfl ?_ (by decide +kernel) (by decide +kernel) (by decide +kernel) (by decide +kernel)
  intro L s B
  have hh' : (A.deeper (envOf "_law_right" scRight L 63 cR)).handled = none := hh
  have hfr' : (A.deeper (envOf "_law_right" scRight L 63 cR)).frames = some (envOf "_law_right" scRight L 63 cR :: outer) := by show A.frames.map _ = _; rw [hfr]; rfl
  refine wpAny_execs_cons ?_
  repeat walk_at "v"
  refine r_callFn F.due.fn ?_
  repeat walk_at "v"
  refine ⟨⟨_, _, _, by assumption⟩, wpAny_call ?_⟩
  have mGs : (ad.G, lstP (gLst ad W.gs.length)) ∈ aC ad τ σ rv W ++ rest := List.mem_append_left _ (List.mem_append_right _ (.head _))
  have B0 : Sh h₁ os (pC ad τ W ++ ((ad.G, lstP (gLst ad W.gs.length)) :: (L, nsP (frm [("k", .int k tk), ("row", .ref ad.M), ("plan", .ref ad.P), ("guards", .ref ad.G)])) :: (gC ad σ rv W W.gs.length ++ rest))) G s := B.perm (by unfold aC; walk_at "pm")
  refine due_call T F.due k _ _ _ W τ _ _ ok hk hmv hh' (by show A.depth + 1 + k < _; omega) B0 ?_
  intro τ' s tp vs hmv' hr B
  have B1 : Sh h₁ os ((L, nsP (frm [("k", .int k tk), ("row", .ref ad.M), ("plan", .ref ad.P), ("guards", .ref ad.G)])) :: (ad.G, lstP (gLst ad W.gs.length)) :: (tp, tupP vs) :: (pC ad τ' (ask W k).2 ++ (gC ad σ rv W W.gs.length ++ rest))) G s := B.perm (by walk_at "pm")
  dsimp only
  repeat walk_at "v"
  refine wpAny_execs_cons ?_
  repeat walk_at "v"
  refine r_callFn F.told.fn ?_
  repeat walk_at "v"
  refine r_item (by assumption) (.tail _ (.head _)) (by omega) (by omega) (x := .ref (ad.ga k)) (by simp [gLst, hk]) ?_
  repeat walk_at "v"
  refine ⟨⟨_, _, _, by assumption⟩, wpAny_call ?_⟩
  rename_i B2
  have B3 := B2.perm (cs' := gC ad σ rv W (k + 1) ++ ((L, nsP (frm [("due", .ref tp), ("k", .int k tk), ("row", .ref ad.M), ("plan", .ref ad.P), ("guards", .ref ad.G)])) :: (ad.G, lstP (gLst ad W.gs.length)) :: (tp, tupP vs) :: (mids ad σ W k W.gs.length ++ (pC ad τ' (ask W k).2 ++ rest)))) (by rw [gC_split ad σ rv W hk]; walk_at "pm")
  refine told_call T hE F.told k _ _ _ W σ ad G _ _ rv d ok hd hits hh' hfr' (FramesIn.cons (hF.sub fun q i => ?_) (by show scRight.kind ≠ _; decide +kernel) rfl (.head _)) (by show A.depth + 1 + k + 1 < _; omega) (by show A.units + 3 + 64 < _; omega) B3 ⟨fun i di hi => g.st i di (by omega), fun i j hi hj => g.inj i j (by omega) (by omega), fun i di hi => g.live i di (by omega)⟩ ?_
  · exact .tail _ (.tail _ (.tail _ (List.mem_append_right _ (List.mem_append_right _ i))))
  intro ad' σ' G' s' tq vs' hr' R' B4
  obtain ⟨h1, g'⟩ := res_all (rv := rv) hk g R'
  have B5 := B4.perm (cs' := (L, nsP (frm [("due", .ref tp), ("k", .int k tk), ("row", .ref ad.M), ("plan", .ref ad.P), ("guards", .ref ad.G)])) :: (tq, tupP vs') :: (ad.G, lstP (gLst ad W.gs.length)) :: (tp, tupP vs) :: (pC ad τ' (ask W k).2 ++ (gC ad' σ' rv (ask W k).2 W.gs.length ++ rest))) (by rw [h1]; walk_at "pm")
  dsimp only
  repeat walk_at "v"
  refine wpAny_execs_cons ?_
  repeat walk_at "v"
  have hbel : ∀ x, (ask W k).1 = .below x → PyData.strOk x = true := fun x e => by
    obtain ⟨i, di, hdi, rfl⟩ := ask_below e
    exact tx.words i di hdi
  have hsh := rsD_ok hbel
  rename_i B6
  refine eq_dataH ((B6.get (.tail _ (.head _))).readsT hr'.reads) ((B6.get (.tail _ (.tail _ (.tail _ (.head _))))).readsT hr.reads) hsh hsh (by show A.units + 3 + 64 < _; omega) ?_
  rw [SeqAt.eqv_refl _ (SeqAt.canLay_of_shaped hsh)]
  repeat walk_at "v"
  rw [if_pos rfl]
  have fin : ∀ s', Sh h₁ os ((L, nsP (frm [("told", .ref tq), ("due", .ref tp), ("k", .int k tk), ("row", .ref ad.M), ("plan", .ref ad.P), ("guards", .ref ad.G)])) :: (tq, tupP vs') :: (ad.G, lstP (gLst ad W.gs.length)) :: (tp, tupP vs) :: (pC ad τ' (ask W k).2 ++ (gC ad' σ' rv (ask W k).2 W.gs.length ++ rest))) G' s' → R (.ok (.ret (.bool true))) s' := fun s' B' => by
    obtain ⟨it', rfl, _⟩ := R'.ad_
    refine h it' τ' σ' G' s' hmv' R'.oth g' (B'.sb ⟨[(L, nsP (frm [("told", .ref tq), ("due", .ref tp), ("k", .int k tk), ("row", .ref ad.M), ("plan", .ref ad.P), ("guards", .ref ad.G)])), (tq, tupP vs'), (tp, tupP vs)], ?_⟩)
    unfold aC
    rw [ask_len]
    show ((pC ad τ' (ask W k).2 ++ (ad.G, lstP (gLst ad W.gs.length)) :: gC { ad with it := it' } σ' rv (ask W k).2 W.gs.length ++ rest) ++ _).Perm _
    walk_at "pm"
  repeat walk_at "v"
  cases hq : (ask W k).1 with
  | fin =>
    rw [hq] at hr hr'
    obtain ⟨t1, rfl⟩ := hr
    obtain ⟨t2, rfl⟩ := hr'
    refine r_itemT (by assumption) (.tail _ (.head _)) (by decide) (by decide) rfl ?_
    repeat walk_at "v"
    refine r_itemT (by assumption) (.tail _ (.tail _ (.tail _ (.head _)))) (by decide) (by decide) rfl ?_
    repeat walk_at "v"
    exact fin _ (by assumption)
  | nonum =>
    rw [hq] at hr hr'
    obtain ⟨t1, rfl⟩ := hr
    obtain ⟨t2, rfl⟩ := hr'
    refine r_itemT (by assumption) (.tail _ (.head _)) (by decide) (by decide) rfl ?_
    repeat walk_at "v"
    refine r_itemT (by assumption) (.tail _ (.tail _ (.tail _ (.head _)))) (by decide) (by decide) rfl ?_
    repeat walk_at "v"
    exact fin _ (by assumption)
  | item n =>
    rw [hq] at hr hr'
    obtain ⟨t1, u1, rfl⟩ := hr
    obtain ⟨t2, u2, rfl⟩ := hr'
    refine r_itemT (by assumption) (.tail _ (.head _)) (by decide) (by decide) rfl ?_
    repeat walk_at "v"
    refine r_itemT (by assumption) (.tail _ (.tail _ (.tail _ (.head _)))) (by decide) (by decide) rfl ?_
    repeat walk_at "v"
    exact fin _ (by assumption)
  | below x =>
    rw [hq] at hr hr'
    obtain ⟨t1, u1, rfl⟩ := hr
    obtain ⟨t2, u2, rfl⟩ := hr'
    refine r_itemT (by assumption) (.tail _ (.head _)) (by decide) (by decide) rfl ?_
    repeat walk_at "v"
    refine r_itemT (by assumption) (.tail _ (.tail _ (.tail _ (.head _)))) (by decide) (by decide) rfl ?_
    repeat walk_at "v"
    exact fin _ (by assumption)
end
section
def dItem : { b : Arguments × List Stmt × Scope // b = ((PP.theDef "_law_item").getD default) } := by
  refine ⟨?b, Eq.symm ?h⟩
  case h => conv => lhs; whnf
abbrev prItem : Arguments := dItem.1.1
abbrev bdItem : List Stmt := dItem.1.2.1
abbrev scItem : Scope := dItem.1.2.2
def absI (a : Int) : Int := if a < 0 then -a else a
def itemIt (q : Int) : It := if q.fmod 8 = 7 then .t (toString (q.fmod 100) : String) else if q.fmod 8 = 3 then .i (-1 - absI (q.fdiv 8)) else .i (absI q)
theorem log_small {q : Int} : (q.fmod 100).natAbs.log2 < 1920 := by
  have h1 : 0 ≤ q.fmod 100 := Int.fmod_nonneg_of_pos _ (by decide)
  have h2 : q.fmod 100 < 100 := Int.fmod_lt_of_pos _ (by decide)
  have : (q.fmod 100).natAbs.log2 ≤ (q.fmod 100).natAbs := Nat.log2_le_self _
  omega
theorem item_call {w : World} {h₁ : Heap} {os : OsState} {cI : Value} {mg mb : Str → Option Value} {G : Array GenState} {A : Around} {R : Result → Shared → Prop} {s : Shared} {cs : Cels} {q : Int} {t : Tok} (T : Tp2 h₁ mg mb) (F : Fn h₁ 42 "_law_item" prItem bdItem scItem cI)
    (hdep : A.depth < recursionLimit) (B : Sh h₁ os cs G s) (h : ∀ v s', It.Is (itemIt q) v → Sh h₁ os cs G s' → R (.ok (.ret v)) s') :
    codeAny (model PP w) A (.call (.ref 42) ⟨[.int q t], []⟩) R s := by
  refine call_fn (binds := [("q", .int q t)]) (m := frm [("q", .int q t)]) F B hdep (fun _ _ => rfl) (locs rfl) rfl ?_ (by decide +kernel) (by decide +kernel) (by decide +kernel) (by decide +kernel)
  intro L s B
  refine wpAny_execs_cons ?_
  repeat walk_at "v"
  by_cases h7 : q.fmod 8 = 7
  · rw [if_pos (by simpa using h7)]
    have hi : itemIt q = .t (toString (q.fmod 100) : String) := if_pos h7
    refine wpAny_execs_cons ?_
    repeat walk_at "v"
    case k2 => exact log_small
    exact h _ _ (by rw [hi]; exact ⟨_, rfl⟩) (Sh.drop (by assumption))
  · rw [if_neg (by simpa using h7)]
    refine wpAny_execs_nil ?_
    refine wpAny_execs_cons ?_
    repeat walk_at "v"
    by_cases h3 : q.fmod 8 = 3
    · rw [if_pos (by simpa using h3)]
      have hi : itemIt q = .i (-1 - absI (q.fdiv 8)) := by unfold itemIt; rw [if_neg h7, if_pos h3]
      repeat walk_at "v"
      refine r_fdiv (by assumption) (by decide) (PyProof.noPylong_small (by decide)) ?_
      intro _ _ _
      repeat walk_at "v"
      exact h _ _ (by rw [hi]; exact ⟨_, rfl⟩) (Sh.drop (by assumption))
    · rw [if_neg (by simpa using h3)]
      have hi : itemIt q = .i (absI q) := by unfold itemIt; rw [if_neg h7, if_neg h3]
      repeat walk_at "v"
      exact h _ _ (by rw [hi]; exact ⟨_, rfl⟩) (Sh.drop (by assumption))
end
section
def dLaw : { b : Arguments × List Stmt × Scope // b = ((PP.theDef "law").getD default) } := by
  refine ⟨?b, Eq.symm ?h⟩
  case h => conv => lhs; whnf
abbrev prLaw : Arguments := dLaw.1.1
abbrev bdLaw : List Stmt := dLaw.1.2.1
abbrev scLaw : Scope := dLaw.1.2.2
theorem ItsAre.append : ∀ {xs vs ys ws}, ItsAre xs vs → ItsAre ys ws → ItsAre (xs ++ ys) (vs ++ ws)
  | _, _, _, _, .nil, h => h
  | _, _, _, _, .cons a r, h => .cons a (r.append h)
theorem ItsAre.set : ∀ {xs vs}, ItsAre xs vs → ∀ (k : Nat) {y v}, It.Is y v → ItsAre (xs.set k y) (vs.set k v)
  | _, _, .nil, _, _, _, _ => .nil
  | _, _, .cons _ r, 0, _, _, h => .cons h r
  | _, _, .cons a r, k + 1, _, _, h => .cons a (r.set k h)
theorem ItsAre.erase : ∀ {xs vs}, ItsAre xs vs → ∀ (k : Nat), ItsAre (xs.eraseIdx k) (vs.eraseIdx k)
  | _, _, .nil, _ => .nil
  | _, _, .cons _ r, 0 => r
  | _, _, .cons a r, k + 1 => .cons a (r.erase k)
theorem ItsAre.drop : ∀ {xs vs}, ItsAre xs vs → ∀ (k : Nat), ItsAre (xs.drop k) (vs.drop k)
  | _, _, h, 0 => h
  | _, _, .nil, k + 1 => .nil
  | _, _, .cons _ r, k + 1 => r.drop k
def itD : It → PyData
  | .i n => .int n
  | .t x => .str x
theorem It.Is.reads {h : Heap} {x : It} {v : Value} (H : It.Is x v) : Reads h v (itD x) [] := by
  cases x with
  | i n => obtain ⟨t, rfl⟩ := H; exact .int _ _
  | t x => obtain ⟨t, rfl⟩ := H; exact .str _ _
theorem ItsAre.reads {h : Heap} : ∀ {xs vs}, ItsAre xs vs → ReadsAll h vs (xs.map itD) []
  | _, _, .nil => .nil
  | _, _, .cons a r => .cons a.reads r.reads
theorem its_lay : ∀ {xs : List It}, (∀ x, It.t x ∈ xs → PyData.strOk x = true) → PyData.canLayAll0 (xs.map itD) = true ∧ PyData.depthAll (xs.map itD) ≤ 1
  | [], _ => ⟨rfl, by decide⟩
  | x :: xs, h => by
    obtain ⟨h1, h2⟩ := its_lay (xs := xs) fun y m => h y (.tail _ m)
    cases x with
    | i n => exact ⟨by simp only [List.map_cons, itD, PyData.canLayAll0, PyData.canLay0, h1]; rfl, by simp only [List.map_cons, itD, PyData.depthAll, PyData.depth]; omega⟩
    | t y =>
      have hy := h y (.head _)
      exact ⟨by simp only [List.map_cons, itD, PyData.canLayAll0, PyData.canLay0, h1, hy]; rfl, by simp only [List.map_cons, itD, PyData.depthAll, PyData.depth]; omega⟩
theorem its_shaped {xs : List It} (h : ∀ x, It.t x ∈ xs → PyData.strOk x = true) : SeqAt.shaped (.list (xs.map itD)) = true := by
  obtain ⟨h1, h2⟩ := its_lay h
  have h3 : PyData.depth (.list (xs.map itD)) = PyData.depthAll (xs.map itD) + 1 := by rw [PyData.depth]
  simp only [SeqAt.shaped, PyData.canLay0, h1, Bool.true_and, decide_eq_true_eq]
  rw [h3]
  omega

/-- the names that last -/
structure Fm (ad : Ad) (l : List (Str × Value)) : Prop where
  row : frm l (Str.ofString "row") = some (.ref ad.R)
  mirror : frm l (Str.ofString "mirror") = some (.ref ad.M)
  source : frm l (Str.ofString "source") = some (.ref ad.S)
  shared : frm l (Str.ofString "shared") = some (.ref ad.Sh)
  guards : frm l (Str.ofString "guards") = some (.ref ad.G)
  plan : frm l (Str.ofString "plan") = some (.ref ad.P)
def lasting : List Str := [Str.ofString "row", Str.ofString "mirror", Str.ofString "source", Str.ofString "shared", Str.ofString "guards", Str.ofString "plan"]
theorem frm_other {l : List (Str × Value)} {x y : Str} {v : Value} (h : y ≠ x) : frm ((x, v) :: l) y = frm l y := by
  unfold frm
  rw [List.lookup_cons]
  have : (y == x) = false := by simpa using h
  rw [this]
theorem Fm.put {ad : Ad} {l : List (Str × Value)} (F : Fm ad l) (x : Str) (v : Value) (hx : x ∉ lasting) : Fm ad ((x, v) :: l) := by
  have h : ∀ y ∈ lasting, frm ((x, v) :: l) y = frm l y := fun y m => frm_other fun e => hx (e ▸ m)
  exact ⟨(h _ (.head _)).trans F.row, (h _ (.tail _ (.head _))).trans F.mirror, (h _ (.tail _ (.tail _ (.head _)))).trans F.source, (h _ (.tail _ (.tail _ (.tail _ (.head _))))).trans F.shared,
    (h _ (.tail _ (.tail _ (.tail _ (.tail _ (.head _)))))).trans F.guards, (h _ (.tail _ (.tail _ (.tail _ (.tail _ (.tail _ (.head _))))))).trans F.plan⟩
theorem Fm.it {ad : Ad} {l : List (Str × Value)} {it' : Nat → Addr} (F : Fm ad l) : Fm { ad with it := it' } l := ⟨F.row, F.mirror, F.source, F.shared, F.guards, F.plan⟩

/-- what is so of the law's things between two turns -/
structure Good (w : World) (cdg : Value) (ad : Ad) (τ : Tk) (σ : Nat → Bool) (rv : List Value) (W : W2) (G : Array GenState) : Prop where
  ok : W.Ok
  tx : Tx W
  its : ItsAre W.items rv
  mv : ItsAre W.items τ.mv
  g : GOk w cdg ad σ W W.gs.length G
  gi : ∀ i, i < W.gs.length → ad.gi i = i
  sz : G.size = W.gs.length

theorem Good.bare {w : World} {cdg : Value} {ad : Ad} {τ : Tk} {σ : Nat → Bool} {rv : List Value} {W : W2} {G : Array GenState} (H : Good w cdg ad τ σ rv W G) : AllBare G := by
  intro y hy
  obtain ⟨i, hi, rfl⟩ := Array.mem_iff_getElem.mp hy
  have hi' : i < W.gs.length := by rw [← H.sz]; exact hi
  obtain ⟨gs, h1, h2⟩ := H.g.st i _ hi' (List.getElem?_eq_getElem hi')
  rw [H.gi i hi', Array.getElem?_eq_getElem hi] at h1
  cases h1
  unfold GSt at h2
  split at h2
  · split at h2
    · obtain ⟨p, k, l, q, e, _⟩ := h2
      rw [e]; rfl
    · rw [h2]; rfl
  · rw [h2]; rfl
theorem updR {ad : Ad} {τ : Tk} {σ : Nat → Bool} {rv rv' : List Value} {W : W2} {rest : Cels} : Upd ad.R (lstP rv) (lstP rv') (aC ad τ σ rv W ++ rest) (aC ad τ σ rv' W ++ rest) :=
  (Upd.pre _ (.there .here)).app _
theorem updM {ad : Ad} {τ : Tk} {σ : Nat → Bool} {rv mv : List Value} {W : W2} {rest : Cels} : Upd ad.M (lstP τ.mv) (lstP mv) (aC ad τ σ rv W ++ rest) (aC ad { τ with mv := mv } σ rv W ++ rest) :=
  ((Upd.there (.there .here)).app _).app _
theorem aC_R {ad : Ad} {τ : Tk} {σ : Nat → Bool} {rv : List Value} {W : W2} {rest : Cels} : (ad.R, lstP rv) ∈ aC ad τ σ rv W ++ rest := (updR (rv' := [])).mem
theorem aC_M {ad : Ad} {τ : Tk} {σ : Nat → Bool} {rv : List Value} {W : W2} {rest : Cels} : (ad.M, lstP τ.mv) ∈ aC ad τ σ rv W ++ rest := (updM (mv := [])).mem
theorem aC_G {ad : Ad} {τ : Tk} {σ : Nat → Bool} {rv : List Value} {W : W2} {rest : Cels} : (ad.G, lstP (gLst ad W.gs.length)) ∈ aC ad τ σ rv W ++ rest := List.mem_append_left _ (List.mem_append_right _ (.head _))
theorem aC_P {ad : Ad} {τ : Tk} {σ : Nat → Bool} {rv : List Value} {W : W2} {rest : Cels} : (ad.P, lstP (pLst ad W.gs.length)) ∈ aC ad τ σ rv W ++ rest := List.mem_append_left _ (List.mem_append_left _ pC_P)
theorem aC_Sh {ad : Ad} {τ : Tk} {σ : Nat → Bool} {rv : List Value} {W : W2} {rest : Cels} : (ad.Sh, lstP (pShd τ W)) ∈ aC ad τ σ rv W ++ rest := List.mem_append_left _ (List.mem_append_left _ pC_Sh)
theorem aC_S {ad : Ad} {τ : Tk} {σ : Nat → Bool} {rv : List Value} {W : W2} {rest : Cels} : (ad.S, srcP ad W) ∈ aC ad τ σ rv W ++ rest := List.mem_append_left _ (List.mem_append_right _ (.tail _ (.tail _ (.head _))))
theorem aC_items {ad : Ad} {τ : Tk} {σ : Nat → Bool} {rv : List Value} {W : W2} {xs : List It} : aC ad τ σ rv { W with items := xs } = aC ad τ σ rv W := rfl
theorem Good.items {w : World} {cdg : Value} {ad : Ad} {τ : Tk} {σ : Nat → Bool} {rv rv' mv' : List Value} {W : W2} {G : Array GenState} {xs : List It} (H : Good w cdg ad τ σ rv W G) (hx : xs.length ≤ 1000) (ht : ∀ x, It.t x ∈ xs → PyData.strOk x = true)
    (h1 : ItsAre xs rv') (h2 : ItsAre xs mv') : Good w cdg ad { τ with mv := mv' } σ rv' { W with items := xs } G :=
  ⟨⟨H.ok.on, hx, H.ok.few⟩, ⟨H.tx.words, ht⟩, h1, h2, ⟨H.g.st, H.g.inj, H.g.live⟩, H.gi, H.sz⟩

theorem str_small {n : Nat} (h : n < 200) : PyData.strOk (toString (n : Int) : String) = true := by
  have : ∀ n : Fin 200, PyData.strOk (toString ((n.1 : Nat) : Int) : String) = true := by decide +kernel
  exact this ⟨n, h⟩
theorem itemIt_ok {q : Int} {x : Str} (h : itemIt q = .t x) : PyData.strOk x = true := by
  unfold itemIt at h
  by_cases h7 : q.fmod 8 = 7
  · rw [if_pos h7] at h
    cases h
    have h1 : 0 ≤ q.fmod 100 := Int.fmod_nonneg_of_pos _ (by decide)
    have h2 : q.fmod 100 < 100 := Int.fmod_lt_of_pos _ (by decide)
    obtain ⟨n, hn⟩ := Int.eq_ofNat_of_zero_le h1
    rw [hn]
    exact str_small (by omega)
  · rw [if_neg h7] at h
    by_cases h3 : q.fmod 8 = 3
    · rw [if_pos h3] at h; cases h
    · rw [if_neg h3] at h; cases h
end
section
section
variable {w : World} {h₁ : Heap} {os : OsState} {cdg cI cd : Value} {mg mb : Str → Option Value} {ad : Ad} {τ : Tk} {σ : Nat → Bool} {rv : List Value} {W : W2} {rest : Cels} {G : Array GenState} {A : Around} {l : List (Str × Value)} {s : Shared} {L : Addr} {q : Int} {tq : Tok}
abbrev lEnv (L : Addr) (cd : Value) : Env := envOf "law" scLaw L 70 cd
/-- what a loop over the two boxes wants of its body -/
def BoxOk (w : World) (h₁ : Heap) (os : OsState) (A : Around) (L : Addr) (cd : Value) (G : Array GenState) (q : Int) (tq : Tok) (body : List Stmt) (xs xs' : List It) : Prop := ∀ (a : Addr) (vs : List Value) (l : List (Str × Value)) (cs : Cels) (cf : List Value → Cels) (s : Shared) (E : Value → Shared → Prop),
  (∀ vs', Upd a (lstP vs) (lstP vs') cs (cf vs')) → frm l (Str.ofString "box") = some (.ref a) → frm l (Str.ofString "q") = some (.int q tq) → ItsAre xs vs → Sh h₁ os ((L, nsP (frm l)) :: cs) G s →
  wpAny (model PP w) A (execs body (lEnv L cd)) (fun fl s' => fl = .next ∧ ∃ vs', ItsAre xs' vs' ∧ Sh h₁ os ((L, nsP (frm l)) :: cf vs') G s') E s
theorem boxes {body : List Stmt} {px : Pos} {xs' : List It} {R : Result → Shared → Prop} {it tup : Addr} (hh : A.handled = none) (F : Fm ad l) (hq : frm l (Str.ofString "q") = some (.int q tq)) (H1 : ItsAre W.items rv) (H2 : ItsAre W.items τ.mv)
    (hb : BoxOk w h₁ os A L cd G q tq body W.items xs')
    (B : Sh h₁ os ((L, nsP (frm l)) :: ([(it, titP tup 0), (tup, tupP [.ref ad.R, .ref ad.M])] ++ (aC ad τ σ rv W ++ rest))) G s)
    (h : ∀ l' rv' mv' s', Fm ad l' → ItsAre xs' rv' → ItsAre xs' mv' → Sh h₁ os ((L, nsP (frm l')) :: (aC ad { τ with mv := mv' } σ rv' W ++ rest)) G s' → R (.ok .next) s') :
    codeAny (model PP w) A (.forLoop (.Name (Str.ofString "box") px) (.ref it) body [] (lEnv L cd)) R s := by
  refine for_gen (n := 2) (V := fun i v => [Value.ref ad.R, .ref ad.M][i]? = some v) (iC := fun i => [(it, titP tup i), (tup, tupP [.ref ad.R, .ref ad.M])]) (by decide +kernel) (by decide +kernel)
    (fun i E Q s l cs G hi B h => nx_tupI (vs := [Value.ref ad.R, .ref ad.M]) hi B fun v s' hv B' => h v s' hv B') (fun E Q s l cs G B h => nx_tupE (vs := [Value.ref ad.R, .ref ad.M]) hh B h)
    (Inv := fun j l' cs' G' => Fm ad l' ∧ frm l' (Str.ofString "q") = some (.int q tq) ∧ G' = G ∧ ∃ rv' mv', cs' = aC ad { τ with mv := mv' } σ rv' W ++ rest ∧ ItsAre (if 1 ≤ j then xs' else W.items) rv' ∧ ItsAre (if 2 ≤ j then xs' else W.items) mv') ?_ ⟨F, hq, rfl, rv, τ.mv, rfl, H1, H2⟩ B ?_
  · rintro i v l' cs' G' s' E hi hv ⟨F', hq', rfl, rv', mv', rfl, h1, h2⟩ B'
    have Fp := F'.put (Str.ofString "box") v (by decide +kernel)
    have hqp : frm ((Str.ofString "box", v) :: l') (Str.ofString "q") = some (.int q tq) := (frm_other (by decide +kernel)).trans hq'
    have hbx : frm ((Str.ofString "box", v) :: l') (Str.ofString "box") = some v := by unfold frm; rw [List.lookup_cons, beq_self_eq_true]
    match i, hi, hv with
    | 0, _, hv =>
      cases hv
      rw [if_neg (by decide)] at h1 h2
      refine wpAny_mono (hb ad.R rv' _ _ (fun vs' => [(it, titP tup 1), (tup, tupP [.ref ad.R, .ref ad.M])] ++ (aC ad { τ with mv := mv' } σ vs' W ++ rest)) s' E (fun vs' => .there (.there updR)) hbx hqp h1 B') (fun fl s'' h'' => ?_) fun _ _ e => e
      obtain ⟨rfl, vs', hvs, B''⟩ := h''
      exact ⟨rfl, _, _, _, ⟨Fp, hqp, rfl, vs', mv', rfl, by rw [if_pos (by decide)]; exact hvs, by rw [if_neg (by decide)]; exact h2⟩, B''⟩
    | 1, _, hv =>
      cases hv
      rw [if_neg (by decide)] at h2
      rw [if_pos (by decide)] at h1
      refine wpAny_mono (hb ad.M mv' _ _ (fun vs' => [(it, titP tup 2), (tup, tupP [.ref ad.R, .ref ad.M])] ++ (aC ad { τ with mv := vs' } σ rv' W ++ rest)) s' E (fun vs' => .there (.there (updM (τ := { τ with mv := mv' })))) hbx hqp h2 B') (fun fl s'' h'' => ?_) fun _ _ e => e
      obtain ⟨rfl, vs', hvs, B''⟩ := h''
      exact ⟨rfl, _, _, _, ⟨Fp, hqp, rfl, rv', vs', rfl, by rw [if_pos (by decide)]; exact h1, by rw [if_pos (by decide)]; exact hvs⟩, B''⟩
  · rintro l' cs' G' s' ⟨F', hq', rfl, rv', mv', rfl, h1, h2⟩ B'
    exact h l' rv' mv' s' F' h1 h2 B'

/-- the main loop's body, and its arms -/
def lMain : Stmt → List Stmt
  | .For _ _ b _ _ => b
  | _ => []
def ifThen : Stmt → List Stmt
  | .If _ b _ _ => b
  | _ => []
def ifElse : Stmt → List Stmt
  | .If _ _ b _ => b
  | _ => []
def nth (b : List Stmt) (k : Nat) : Stmt := b.getD k (.Pass ⟨0, 0, 0, 0⟩)
def dMain : { b : List Stmt // b = lMain (nth bdLaw 6) } := by
  refine ⟨?b, Eq.symm ?h⟩
  case h => conv => lhs; whnf
def dBox0 : { b : List Stmt // b = lMain (nth (ifThen (nth dMain.1 1)) 0) } := by
  refine ⟨?b, Eq.symm ?h⟩
  case h => conv => lhs; whnf
def dBox1 : { b : List Stmt // b = lMain (nth (ifThen (nth (ifElse (nth dMain.1 1)) 0)) 0) } := by
  refine ⟨?b, Eq.symm ?h⟩
  case h => conv => lhs; whnf
def dBox2 : { b : List Stmt // b = lMain (nth (ifThen (nth (ifElse (nth (ifElse (nth dMain.1 1)) 0)) 0)) 0) } := by
  refine ⟨?b, Eq.symm ?h⟩
  case h => conv => lhs; whnf
theorem box0 {xs : List It} (T : Tp2 h₁ mg mb) (FI : Fn h₁ 42 "_law_item" prItem bdItem scItem cI) (hdep : A.depth < recursionLimit) (hx : xs.length ≤ 1000) : BoxOk w h₁ os A L cd G q tq dBox0.1 xs (xs ++ [itemIt q]) := by
  intro a vs l cs cf s E hU hbx hq hits B
  have hlen := hits.length
  refine wpAny_execs_cons ?_
  repeat walk_at "v"
  have mA : (a, lstP vs) ∈ cs := (hU []).mem
  refine r_meth (by assumption) (.tail _ mA) PySem.F.slot_list_append PySem.F.type_list_append ?_
  repeat walk_at "v"
  refine r_callFn FI.fn ?_
  repeat walk_at "v"
  refine ⟨⟨_, _, _, by assumption⟩, wpAny_call ?_⟩
  refine item_call T FI hdep (by assumption) ?_
  intro v s' hv B'
  dsimp only
  repeat walk_at "v"
  refine r_append (by assumption) (.there (hU _)) (by rw [sizeLine_eq]; omega) ?_
  intro s'' B''
  repeat walk_at "v"
  exact ⟨rfl, _, hits.append (.cons hv .nil), B''⟩
theorem fmod_len {n : Nat} (h : 0 < n) (q : Int) : 0 ≤ q.fmod n ∧ q.fmod n < n := ⟨Int.fmod_nonneg_of_pos _ (by omega), Int.fmod_lt_of_pos _ (by omega)⟩
theorem box1 {xs : List It} (T : Tp2 h₁ mg mb) (FI : Fn h₁ 42 "_law_item" prItem bdItem scItem cI) (hdep : A.depth < recursionLimit) (hx : xs.length ≤ 1000) (h0 : 0 < xs.length) :
    BoxOk w h₁ os A L cd G q tq dBox1.1 xs (xs.set (q.fmod xs.length).toNat (itemIt (q.fdiv 8))) := by
  intro a vs l cs cf s E hU hbx hq hits B
  have hlen := hits.length
  have mA : (a, lstP vs) ∈ cs := (hU []).mem
  obtain ⟨hm0, hm1⟩ := fmod_len h0 q
  refine wpAny_execs_cons ?_
  repeat walk_at "v"
  refine r_callFn FI.fn ?_
  repeat walk_at "v"
  refine r_fdiv (by assumption) (by decide) (PyProof.noPylong_small (by decide)) ?_
  intro _ _ _
  repeat walk_at "v"
  refine ⟨⟨_, _, _, by assumption⟩, wpAny_call ?_⟩
  refine item_call T FI hdep (by assumption) ?_
  intro v s' hv B'
  dsimp only
  repeat walk_at "v"
  refine r_len (by assumption) (.tail _ mA) (by omega) ?_
  intro _ _ _
  rw [hlen]
  repeat walk_at "v"
  refine r_setItem (by assumption) (.there (hU _)) (by omega) (by omega) (by omega) ?_
  intro s'' B''
  repeat walk_at "v"
  exact ⟨rfl, _, hits.set _ hv, B''⟩
theorem box2 {xs : List It} (T : Tp2 h₁ mg mb) (hx : xs.length ≤ 1000) (h0 : 0 < xs.length) :
    BoxOk w h₁ os A L cd G q tq dBox2.1 xs (xs.eraseIdx (q.fmod xs.length).toNat) := by
  intro a vs l cs cf s E hU hbx hq hits B
  have hlen := hits.length
  have mA : (a, lstP vs) ∈ cs := (hU []).mem
  obtain ⟨hm0, hm1⟩ := fmod_len h0 q
  refine wpAny_execs_cons ?_
  repeat walk_at "v"
  refine r_meth (by assumption) (.tail _ mA) PySem.F.slot_list_pop PySem.F.type_list_pop ?_
  repeat walk_at "v"
  refine r_len (by assumption) (.tail _ mA) (by omega) ?_
  intro _ _ _
  rw [hlen]
  repeat walk_at "v"
  refine r_pop (by assumption) (.there (hU _)) (by omega) (by omega) (x := vs[(q.fmod xs.length).toNat]'(by omega)) (by simp) (by rw [sizeLine_eq]; omega) ?_
  intro s'' B''
  repeat walk_at "v"
  exact ⟨rfl, _, hits.erase _, B''⟩
end
end
section
section
variable {w : World} {h₁ : Heap} {os : OsState} {cdg cI cD cT cR cd : Value} {mg mb : Str → Option Value} {ad : Ad} {τ : Tk} {σ : Nat → Bool} {rv : List Value} {W : W2} {rest : Cels} {G : Array GenState} {A : Around} {l : List (Str × Value)} {s : Shared} {L : Addr} {q : Int} {tq : Tok}
/-- what is so behind a turn -/
def Aft (w : World) (cdg : Value) (h₁ : Heap) (os : OsState) (L : Addr) (W : W2) (rest : Cels) (s' : Shared) : Prop :=
  ∃ l' ad' τ' σ' rv' W' G', Fm ad' l' ∧ Good w cdg ad' τ' σ' rv' W' G' ∧ W'.items.length ≤ W.items.length + 1 ∧ W'.gs.length ≤ W.gs.length + 1 ∧ W.gs.length ≤ W'.gs.length ∧ 0 < W'.gs.length ∧ Sh h₁ os ((L, nsP (frm l')) :: (aC ad' τ' σ' rv' W' ++ rest)) G' s'
/-- what the turn stands under -/
structure Und (h₁ : Heap) (A : Around) (L : Addr) (cd : Value) : Prop where
  hh : A.handled = none
  hfr : A.frames = some [lEnv L cd]
  dep : A.depth + 400 < recursionLimit
  un : A.units + 200 < cLine
theorem i_tup {E : Value → Shared → Prop} {t : Addr} {vs : List Value} {m : Str → Option Value} {r : Cels} {Q : Value → Shared → Prop} (B : Sh h₁ os ((L, nsP m) :: (t, tupP vs) :: r) G s) (h : ∀ it s', Sh h₁ os ((L, nsP m) :: ([(it, titP t 0), (t, tupP vs)] ++ r)) G s' → Q (.ref it) s') :
    wpAny (model PP w) A (pyIter (.ref t)) Q E s :=
  wpAny_pyIter_tuple (B.get (.tail _ (.head _))).tup (h _ _ ((B.heap' (B.hp.push rfl ⟨rfl, rfl⟩)).perm (.swap ..)))
theorem Good.aft {l' : List (Str × Value)} {rv' mv' : List Value} {xs : List It} {s' : Shared} (H : Good w cdg ad τ σ rv W G) (F : Fm ad l') (hx : xs.length ≤ W.items.length + 1) (hb : W.items.length ≤ 500) (hg : 0 < W.gs.length) (ht : ∀ x, It.t x ∈ xs → PyData.strOk x = true)
    (h1 : ItsAre xs rv') (h2 : ItsAre xs mv') (B : Sh h₁ os ((L, nsP (frm l')) :: (aC ad { τ with mv := mv' } σ rv' W ++ rest)) G s') : Aft w cdg h₁ os L W rest s' :=
  ⟨l', ad, { τ with mv := mv' }, σ, rv', { W with items := xs }, G, F, H.items (by omega) ht h1 h2, hx, by show W.gs.length ≤ _; omega, Nat.le_refl _, hg, B⟩
theorem main_box {a : Int} {ta : Tok} {E : Value → Shared → Prop} (T : Tp2 h₁ mg mb) (FI : Fn h₁ 42 "_law_item" prItem bdItem scItem cI) (U : Und h₁ A L cd)
    (F : Fm ad l) (hal : frm l (Str.ofString "act") = some (.int a ta)) (hql : frm l (Str.ofString "q") = some (.int q tq)) (H : Good w cdg ad τ σ rv W G) (hb : W.items.length ≤ 500) (hg : 0 < W.gs.length) (ha : a = 0 ∨ a = 1 ∨ a = 2)
    (B : Sh h₁ os ((L, nsP (frm l)) :: (aC ad τ σ rv W ++ rest)) G s) :
    wpAny (model PP w) A (execs (dMain.1.drop 1) (lEnv L cd)) (fun fl s' => fl = .next ∧ Aft w cdg h₁ os L W rest s') E s := by
  have hh := U.hh
  have hun := U.un
  have hdep := U.dep
  have k1 := F.row
  have k2 := F.mirror
  have nil_ok : SeqAt.shaped (.list []) = true := by decide +kernel
  have its_ok := its_shaped H.tx.its
  have hne : (!PyData.eqv (.list (W.items.map itD)) (.list [])) = decide (0 < W.items.length) := by
    cases W.items with
    | nil => simp [PyData.eqv, PyData.eqvAll]
    | cons y ys => simp [PyData.eqv, PyData.eqvAll]
  have noop : ∀ s' (J : Cels), Sh h₁ os ((L, nsP (frm l)) :: (J ++ (aC ad τ σ rv W ++ rest))) G s' → Aft w cdg h₁ os L W rest s' := fun s' J B' =>
    H.aft F (xs := W.items) (by omega) hb hg H.tx.its H.its H.mv (B'.sub (.cons_cons _ (List.sublist_append_right ..)))
  refine wpAny_execs_cons ?_
  repeat walk_at "v"
  rcases ha with rfl | rfl | rfl
  · rw [if_pos (by decide)]
    refine wpAny_execs_cons ?_
    refine wpAny_For ?_
    repeat walk_at "v"
    refine i_tup (by assumption) ?_
    intro it s' B'
    refine boxes hh F hql H.its H.mv (box0 T FI (by omega) (by omega)) B' ?_
    intro l' rv' mv' s'' F' h1 h2 B''
    repeat walk_at "v"
    refine ⟨rfl, H.aft F' (xs := W.items ++ [itemIt q]) (by simp) hb hg (fun x m => ?_) h1 h2 B''⟩
    rcases List.mem_append.mp m with m | m
    · exact H.tx.its x m
    · exact itemIt_ok (List.mem_singleton.mp m).symm
  · rw [if_neg (by decide)]
    refine wpAny_execs_cons ?_
    repeat walk_at "v"
    rw [if_pos (by decide)]
    repeat walk_at "v"
    refine ne_dataH ((Sh.get (by assumption) (.tail _ (.tail _ aC_M))).readsL H.mv.reads) ((Sh.get (by assumption) (.tail _ (.head _))).readsL .nil) its_ok nil_ok (by omega) ?_
    rw [hne]
    repeat walk_at "v"
    by_cases h0 : 0 < W.items.length
    · rw [if_pos (by simpa using h0)]
      repeat walk_at "v"
      rw [if_pos rfl]
      refine wpAny_execs_cons ?_
      refine wpAny_For ?_
      repeat walk_at "v"
      refine i_tup (by assumption) ?_
      intro it s' B'
      refine boxes hh F hql H.its H.mv (box1 T FI (by omega) (by omega) h0) (B'.perm (((List.perm_middle.symm).append_left _).cons _)) ?_
      intro l' rv' mv' s'' F' h1 h2 B''
      repeat walk_at "v"
      refine ⟨rfl, H.aft F' (xs := W.items.set (q.fmod W.items.length).toNat (itemIt (q.fdiv 8))) (by simp) hb hg (fun x m => ?_) h1 h2 (B''.sub (.cons_cons _ ((List.Sublist.refl _).append (List.sublist_cons_self ..))))⟩
      rcases List.mem_or_eq_of_mem_set m with m | m
      · exact H.tx.its x m
      · exact itemIt_ok m.symm
    · rw [if_neg (by simpa using h0)]
      repeat walk_at "v"
      rw [if_neg (by decide)]
      refine wpAny_execs_cons ?_
      repeat walk_at "v"
      rw [if_neg (by decide)]
      repeat walk_at "v"
      rw [if_neg (by decide)]
      refine wpAny_execs_cons ?_
      repeat walk_at "v"
      rw [if_neg (by decide)]
      refine wpAny_execs_cons ?_
      repeat walk_at "v"
      rw [if_neg (by decide)]
      repeat walk_at "v"
      exact ⟨rfl, noop _ [_] (by assumption)⟩
  · rw [if_neg (by decide)]
    refine wpAny_execs_cons ?_
    repeat walk_at "v"
    rw [if_neg (by decide)]
    repeat walk_at "v"
    rw [if_neg (by decide)]
    refine wpAny_execs_cons ?_
    repeat walk_at "v"
    rw [if_pos (by decide)]
    repeat walk_at "v"
    refine ne_dataH ((Sh.get (by assumption) (.tail _ (.tail _ aC_M))).readsL H.mv.reads) ((Sh.get (by assumption) (.tail _ (.head _))).readsL .nil) its_ok nil_ok (by omega) ?_
    rw [hne]
    repeat walk_at "v"
    by_cases h0 : 0 < W.items.length
    · rw [if_pos (by simpa using h0)]
      repeat walk_at "v"
      rw [if_pos rfl]
      refine wpAny_execs_cons ?_
      refine wpAny_For ?_
      repeat walk_at "v"
      refine i_tup (by assumption) ?_
      intro it s' B'
      refine boxes hh F hql H.its H.mv (box2 T (by omega) h0) (B'.perm (((List.perm_middle.symm).append_left _).cons _)) ?_
      intro l' rv' mv' s'' F' h1 h2 B''
      repeat walk_at "v"
      refine ⟨rfl, H.aft F' (xs := W.items.eraseIdx (q.fmod W.items.length).toNat) (Nat.le_trans (List.length_eraseIdx_le ..) (by omega)) hb hg (fun x m => H.tx.its x (List.mem_of_mem_eraseIdx m)) h1 h2 (B''.sub (.cons_cons _ ((List.Sublist.refl _).append (List.sublist_cons_self ..))))⟩
    · rw [if_neg (by simpa using h0)]
      repeat walk_at "v"
      rw [if_neg (by decide)]
      refine wpAny_execs_cons ?_
      repeat walk_at "v"
      rw [if_neg (by decide)]
      refine wpAny_execs_cons ?_
      repeat walk_at "v"
      rw [if_neg (by decide)]
      repeat walk_at "v"
      exact ⟨rfl, noop _ [_] (by assumption)⟩
end
end
section
section
variable {w : World} {h₁ : Heap} {os : OsState} {cdg cI cD cT cR cd : Value} {mg mb : Str → Option Value} {ad : Ad} {τ : Tk} {σ : Nat → Bool} {rv : List Value} {W : W2} {rest : Cels} {G : Array GenState} {A : Around} {l : List (Str × Value)} {s : Shared} {L : Addr} {q : Int} {tq : Tok}
/-- a guard is asked, from the law -/
theorem ask_step {k : Nat} {tk : Tok} {E : Value → Shared → Prop} {Q : Value → Shared → Prop} (T : Tp2 h₁ mg mb) (hE : Er h₁ 24 23) (FS : Fs h₁ cI cD cT cR) (U : Und h₁ A L cd)
    (H : Good w cdg ad τ σ rv W G) (hk : k < W.gs.length) (B : Sh h₁ os ((L, nsP (frm l)) :: (aC ad τ σ rv W ++ rest)) G s)
    (h : ∀ it' τ' σ' G' s', Good w cdg { ad with it := it' } τ' σ' rv (ask W k).2 G' → Sh h₁ os ((L, nsP (frm l)) :: (aC { ad with it := it' } τ' σ' rv (ask W k).2 ++ rest)) G' s' → Q (.bool true) s') :
    wpAny (model PP w) A (call (.ref 63) [.ref ad.G, .ref ad.P, .ref ad.M, .int k tk]) Q E s := by
  have hdep := U.dep
  have hun := U.un
  refine wpAny_call ?_
  refine right_call T hE FS k tk A _ s W τ σ ad G ((L, nsP (frm l)) :: rest) _ rv H.ok H.tx hk H.its H.mv U.hh U.hfr (FramesIn.cons .nil (by show scLaw.kind ≠ _; decide +kernel) rfl (.head _)) (by omega) (by omega) (B.perm List.perm_middle.symm) H.g ?_
  intro it' τ' σ' G' s' hmv oth g' B'
  have hsz : G'.size = W.gs.length := by
    have h1 : G'[W.gs.length]? = none := by
      rw [oth _ fun i hi e => by rw [H.gi i (by omega)] at e; omega, Array.getElem?_eq_none_iff, H.sz]
      exact Nat.le_refl _
    have h2 : W.gs.length - 1 < G'.size := by
      have hlt : W.gs.length - 1 < (ask W k).2.gs.length := by rw [ask_len]; omega
      obtain ⟨gs, e, _⟩ := g'.st (W.gs.length - 1) _ (by omega) (List.getElem?_eq_getElem hlt)
      have := (Array.getElem?_eq_some_iff.mp e).1
      have e2 : ad.gi (W.gs.length - 1) = W.gs.length - 1 := H.gi _ (by omega)
      rw [show ({ ad with it := it' } : Ad).gi (W.gs.length - 1) = ad.gi (W.gs.length - 1) from rfl, e2] at this
      exact this
    have h3 := Array.getElem?_eq_none_iff.mp h1
    omega
  refine h it' τ' σ' G' s' ⟨H.ok.asked k, H.tx.asked k, by rw [ask_items]; exact H.its, by rw [ask_items, hmv]; exact H.mv, by rw [ask_len]; exact g', by rw [ask_len]; exact H.gi, by rw [ask_len]; exact hsz⟩ (B'.perm List.perm_middle)
theorem main_ask {a : Int} {ta : Tok} {E : Value → Shared → Prop} (T : Tp2 h₁ mg mb) (hE : Er h₁ 24 23) (FS : Fs h₁ cI cD cT cR) (U : Und h₁ A L cd)
    (F : Fm ad l) (hal : frm l (Str.ofString "act") = some (.int a ta)) (hql : frm l (Str.ofString "q") = some (.int q tq)) (H : Good w cdg ad τ σ rv W G) (hb : W.items.length ≤ 500) (hg : 0 < W.gs.length) (ha : 6 ≤ a)
    (B : Sh h₁ os ((L, nsP (frm l)) :: (aC ad τ σ rv W ++ rest)) G s) :
    wpAny (model PP w) A (execs (dMain.1.drop 1) (lEnv L cd)) (fun fl s' => fl = .next ∧ Aft w cdg h₁ os L W rest s') E s := by
  have hh := U.hh
  have hun := U.un
  have hdep := U.dep
  have k1 := F.guards
  have k2 := F.mirror
  have k3 := F.plan
  have hfew := H.ok.few
  obtain ⟨hm0, hm1⟩ := fmod_len hg q
  refine wpAny_execs_cons ?_
  repeat walk_at "v"
  rw [if_neg (by simp; omega)]
  refine wpAny_execs_cons ?_
  repeat walk_at "v"
  rw [if_neg (by simp; omega)]
  repeat walk_at "v"
  rw [if_neg (by decide)]
  refine wpAny_execs_cons ?_
  repeat walk_at "v"
  rw [if_neg (by simp; omega)]
  repeat walk_at "v"
  rw [if_neg (by decide)]
  refine wpAny_execs_cons ?_
  repeat walk_at "v"
  rw [if_pos (by simpa using ha)]
  refine wpAny_execs_cons ?_
  repeat walk_at "v"
  refine r_callFn FS.right.fn ?_
  repeat walk_at "v"
  refine r_len (by assumption) (.tail _ aC_G) (by simp [gLst]; omega) ?_
  intro _ _ _
  have hgl : (gLst ad W.gs.length).length = W.gs.length := by simp [gLst]
  rw [hgl]
  repeat walk_at "v"
  refine ⟨⟨_, _, _, by assumption⟩, ?_⟩
  obtain ⟨k, hk⟩ := Int.eq_ofNat_of_zero_le hm0
  rw [hk]
  refine ask_step T hE FS U H (by omega) (by assumption) ?_
  intro it' τ' σ' G' s' H' B'
  repeat walk_at "v"
  rw [if_neg (by decide)]
  repeat walk_at "v"
  exact ⟨rfl, l, _, τ', σ', rv, _, G', F.it, H', by rw [ask_items]; omega, by rw [ask_len]; omega, by rw [ask_len]; exact Nat.le_refl _, by rw [ask_len]; exact hg, B'⟩
end
end
section
section
variable {w : World} {h₁ : Heap} {os : OsState} {cdg cI cD cT cR cd : Value} {mg mb : Str → Option Value} {ad : Ad} {τ : Tk} {σ : Nat → Bool} {rv : List Value} {W : W2} {rest : Cels} {G : Array GenState} {A : Around} {l : List (Str × Value)} {s : Shared} {L : Addr} {q : Int} {tq : Tok}
/-- the maker of guards -/
structure Gn (h₁ : Heap) (D : Addr) (cdg : Value) : Prop where
  ex : ∃ o pm doc, h₁.get? 35 = some o ∧ o.data = .func { Calls.docDef "_fail_neg" prFail bdFail scFail pm cdg doc with defaults := .ref D }
  dflt : ∃ o t n, h₁.get? D = some o ∧ o.data = .seq #[.str "negative value" t] n
  code : h₁.CodeRec cdg "_fail_neg"
theorem Gn.fn {D : Addr} (F : Gn h₁ D cdg) : ∃ o fd, h₁.get? 35 = some o ∧ o.data = .func fd := let ⟨o, _, _, a, b⟩ := F.ex; ⟨o, _, a, b⟩
theorem gen_make {D : Addr} {R : Result → Shared → Prop} {args : List Value} {v : Value} {x : Str} {m : Str → Option Value} {cs : Cels} (T : Tp2 h₁ mg mb) (FG : Gn h₁ D cdg) (hdep : A.depth < recursionLimit) (B : Sh h₁ os ((L, nsP m) :: cs) G s)
    (ha : (∃ t, args = [v, .str x t]) ∨ (args = [v] ∧ x = Str.ofString "negative value"))
    (h : ∀ a gf s', Sh h₁ os ((L, nsP m) :: (a, genP G.size) :: (gf, gfP v x) :: cs) (G.push (.fresh (.func bdFail (fEnv gf 35 cdg)))) s' → R (.ok (.ret (.ref a))) s') :
    codeAny (model PP w) A (.call (.ref 35) ⟨args, []⟩) R s := by
  obtain ⟨o, pm, doc, ho, hd⟩ := FG.ex
  obtain ⟨od, td, nd, hod, hdd⟩ := FG.dflt
  obtain ⟨t, hb⟩ : ∃ t, BindsTo s { Calls.docDef "_fail_neg" prFail bdFail scFail pm cdg doc with defaults := .ref D } ⟨args, []⟩ [("values", v), ("errmsg", .str x t)] := by
    rcases ha with ⟨t, rfl⟩ | ⟨rfl, rfl⟩
    · exact ⟨t, BindsTo.of_defaults rfl (B.hp.old _ _ hod) hdd rfl rfl⟩
    · exact ⟨td, BindsTo.of_defaults rfl (B.hp.old _ _ hod) hdd rfl rfl⟩
  refine call_gen B T.lim hdep ho hd (by show scFail.isCoroutine = false; decide +kernel) (by show scFail.isGenerator = true; decide +kernel) rfl FG.code hb (by show ∀ x ∈ scFail.names, _; decide +kernel) (locs rfl) (by show scFail.kind = .function; decide +kernel) ?_
  rintro a g gf s' rfl B'
  refine h a gf s' ?_
  refine B'.close (.there (.there .here)) ?_ (t := t) ?_
  · rfl
  · rfl
end
end
section
section
variable {w : World} {h₁ : Heap} {os : OsState} {cdg cI cD cT cR cd : Value} {mg mb : Str → Option Value} {ad : Ad} {τ : Tk} {σ : Nat → Bool} {rv : List Value} {W : W2} {rest : Cels} {G : Array GenState} {A : Around} {l : List (Str × Value)} {s : Shared} {L : Addr} {q : Int} {tq : Tok} {d : GD} {pe pw ga gf : Addr} {g n : Nat} {tu tw tp : Tok}
def adN (ad : Ad) (n : Nat) (pe pw ga gf : Addr) (g : Nat) : Ad := { ad with pe := fun i => if i = n then pe else ad.pe i, pw := fun i => if i = n then pw else ad.pw i, ga := fun i => if i = n then ga else ad.ga i, gf := fun i => if i = n then gf else ad.gf i, gi := fun i => if i = n then g else ad.gi i }
def tkN (τ : Tk) (n : Nat) (tu tw tp : Tok) : Tk := { τ with u := fun i => if i = n then tu else τ.u i, wd := fun i => if i = n then tw else τ.wd i, p := fun i => if i = n then tp else τ.p i }
def sgN (σ : Nat → Bool) (n : Nat) : Nat → Bool := fun i => if i = n then false else σ i
def W2.more (W : W2) (d : GD) : W2 := { W with gs := W.gs ++ [d] }
def aX (ad : Ad) (τ : Tk) (σ : Nat → Bool) (rv : List Value) (W : W2) (lp lg : List Value) : Cels :=
  ((ad.P, lstP lp) :: (ad.Sh, lstP (pShd τ W)) :: (ad.M, lstP τ.mv) :: (List.range W.gs.length).flatMap (pOne ad τ W)) ++ ((ad.G, lstP lg) :: gC ad σ rv W W.gs.length)
theorem aX_eq : aX ad τ σ rv W (pLst ad W.gs.length) (gLst ad W.gs.length) = aC ad τ σ rv W := rfl
def wV (ad : Ad) (pw : Addr) (d : GD) : Value := match d.kd with
  | .row => .ref pw
  | .src => .ref ad.Sh
  | .on _ => .none
def wCel (pw : Addr) (tp : Tok) (d : GD) : Cels := if d.kd = .row then [(pw, lstP [.int 0 tp, .bool true])] else []
theorem more_old {i : Nat} (h : i < W.gs.length) : (W.more d).gs[i]? = W.gs[i]? := by
  show (W.gs ++ [d])[i]? = _
  rw [List.getElem?_append_left h]
theorem more_new : (W.more d).gs[W.gs.length]? = some d := by
  show (W.gs ++ [d])[W.gs.length]? = _
  simp
theorem new_cells (ok : W.Ok) (hgo : d.going = true) (hp : d.pos = 0) (hl : d.live = true) (hon : ∀ j, d.kd = .on j → j < W.gs.length) :
    aC (adN ad W.gs.length pe pw ga gf g) (tkN τ W.gs.length tu tw tp) (sgN σ W.gs.length) rv (W.more d) =
      ((ad.P, lstP (pLst ad W.gs.length ++ [.ref pe])) :: (ad.Sh, lstP (pShd τ W)) :: (ad.M, lstP τ.mv) :: ((List.range W.gs.length).flatMap (pOne ad τ W) ++ ((pe, lstP [.int d.u tu, wV ad pw d, .str d.words tw, .bool true]) :: wCel pw tp d)))
      ++ ((ad.G, lstP (gLst ad W.gs.length ++ [.ref ga])) :: (gC ad σ rv W W.gs.length ++ [(ga, genP g), (gf, gfP (valV ad d) d.words)])) := by
  have hlen : (W.more d).gs.length = W.gs.length + 1 := by simp [W2.more]
  have e1 : pLst (adN ad W.gs.length pe pw ga gf g) (W.gs.length + 1) = pLst ad W.gs.length ++ [.ref pe] := by
    unfold pLst
    rw [List.range_succ, List.map_append]
    congr 1
    · refine List.map_congr_left fun i hi => ?_
      have hi := List.mem_range.mp hi
      show Value.ref (if i = W.gs.length then pe else ad.pe i) = _
      rw [if_neg (by omega)]
    · show [Value.ref (if W.gs.length = W.gs.length then pe else _)] = _
      rw [if_pos rfl]
  have e2 : gLst (adN ad W.gs.length pe pw ga gf g) (W.gs.length + 1) = gLst ad W.gs.length ++ [.ref ga] := by
    unfold gLst
    rw [List.range_succ, List.map_append]
    congr 1
    · refine List.map_congr_left fun i hi => ?_
      have hi := List.mem_range.mp hi
      show Value.ref (if i = W.gs.length then ga else ad.ga i) = _
      rw [if_neg (by omega)]
    · show [Value.ref (if W.gs.length = W.gs.length then ga else _)] = _
      rw [if_pos rfl]
  have e3 : (List.range (W.gs.length + 1)).flatMap (pOne (adN ad W.gs.length pe pw ga gf g) (tkN τ W.gs.length tu tw tp) (W.more d)) = (List.range W.gs.length).flatMap (pOne ad τ W) ++ ((pe, lstP [.int d.u tu, wV ad pw d, .str d.words tw, .bool true]) :: wCel pw tp d) := by
    rw [List.range_succ, List.flatMap_append]
    congr 1
    · refine flat_congr fun i hi => ?_
      have hi := List.mem_range.mp hi
      have hne : i ≠ W.gs.length := by omega
      unfold pOne
      rw [more_old hi]
      cases W.gs[i]? with
      | none => rfl
      | some di => simp only [pEnt, pWel, wellV, adN, tkN, hne, if_false]
    · rw [List.flatMap_singleton]
      unfold pOne
      rw [more_new]
      cases hk : d.kd <;> simp [pEnt, pWel, wellV, wV, wCel, adN, tkN, hk, hgo, hp, hl]
  have e4 : gC (adN ad W.gs.length pe pw ga gf g) (sgN σ W.gs.length) rv (W.more d) (W.gs.length + 1) = gC ad σ rv W W.gs.length ++ [(ga, genP g), (gf, gfP (valV ad d) d.words)] := by
    rw [gC_succ]
    congr 1
    · unfold gC
      congr 1
      refine flat_congr fun i hi => ?_
      have hi := List.mem_range.mp hi
      have hne : i ≠ W.gs.length := by omega
      unfold gOne
      rw [more_old hi]
      cases hdi : W.gs[i]? with
      | none => rfl
      | some di =>
        cases hk : di.kd with
        | on j =>
          have hj := (ok.on i di j hdi hk).1
          have hjn : j ≠ W.gs.length := by omega
          simp [valV, itc, adN, sgN, hk, hne, hjn]
        | row => simp [valV, itc, adN, sgN, hk, hne]
        | src => simp [valV, itc, adN, sgN, hk, hne]
    · unfold gOne
      rw [more_new]
      cases hk : d.kd with
      | on j =>
        have hj := hon j hk
        have hjn : j ≠ W.gs.length := by omega
        simp [valV, itc, adN, sgN, hk, hjn]
      | row => simp [valV, itc, adN, sgN, hk]
      | src => simp [valV, itc, adN, sgN, hk]
  unfold aC pC
  rw [hlen, e1, e2, e3, e4]
  rfl
theorem new_good (H : Good w cdg ad τ σ rv W G) (hfew : W.gs.length ≤ 100) (hgo : d.going = true) (hp : d.pos = 0) (hl : d.live = true) (hon : ∀ j, d.kd = .on j → j < W.gs.length ∧ d.u = j) (hw : PyData.strOk d.words = true) :
    Good w cdg (adN ad W.gs.length pe pw ga gf G.size) (tkN τ W.gs.length tu tw tp) (sgN σ W.gs.length) rv (W.more d) (G.push (.fresh (.func bdFail (fEnv gf 35 cdg)))) := by
  have hlen : (W.more d).gs.length = W.gs.length + 1 := by simp [W2.more]
  have split : ∀ i di, (W.more d).gs[i]? = some di → (i < W.gs.length ∧ W.gs[i]? = some di) ∨ (i = W.gs.length ∧ di = d) := by
    intro i di h
    have hlt := (List.getElem?_eq_some_iff.mp h).1
    rw [hlen] at hlt
    rcases Nat.lt_succ_iff_lt_or_eq.mp hlt with hi | rfl
    · rw [more_old hi] at h; exact .inl ⟨hi, h⟩
    · rw [more_new] at h; cases h; exact .inr ⟨rfl, rfl⟩
  have hgi : ∀ i, i < W.gs.length → ad.gi i < G.size := fun i hi => by
    obtain ⟨gs, h1, _⟩ := H.g.st i _ hi (List.getElem?_eq_getElem hi)
    exact (Array.getElem?_eq_some_iff.mp h1).1
  refine ⟨⟨fun i di j hdi hk => ?_, H.ok.big, by rw [hlen]; omega⟩, ⟨fun i di hdi => ?_, H.tx.its⟩, H.its, H.mv, ⟨fun i di hi hdi => ?_, fun i j hi hj e => ?_, fun i di hi hdi => ?_⟩, fun i hi => ?_, by rw [hlen, Array.size_push, H.sz]⟩
  rotate_right
  · rw [hlen] at hi
    show (if i = W.gs.length then G.size else ad.gi i) = i
    by_cases hin : i = W.gs.length
    · rw [if_pos hin, H.sz, hin]
    · rw [if_neg hin]; exact H.gi i (by omega)
  · rcases split i di hdi with ⟨hi, h⟩ | ⟨rfl, rfl⟩
    · exact H.ok.on i di j h hk
    · exact hon j hk
  · rcases split i di hdi with ⟨hi, h⟩ | ⟨rfl, rfl⟩
    · exact H.tx.words i di h
    · exact hw
  · rcases split i di hdi with ⟨hi', h⟩ | ⟨rfl, rfl⟩
    · obtain ⟨gs, h1, h2⟩ := H.g.st i di hi' h
      have hne : i ≠ W.gs.length := by omega
      refine ⟨gs, ?_, ?_⟩
      · show (G.push _)[if i = W.gs.length then G.size else ad.gi i]? = _
        rw [if_neg hne, Array.getElem?_push, if_neg (Nat.ne_of_lt (hgi i hi'))]
        exact h1
      · unfold GSt at h2 ⊢
        have e1 : sgN σ W.gs.length i = σ i := if_neg hne
        have e2 : (adN ad W.gs.length pe pw ga gf G.size).gf i = ad.gf i := if_neg hne
        have e3 : itV (adN ad W.gs.length pe pw ga gf G.size) i di = itV ad i di := by
          unfold itV
          cases hk : di.kd with
          | on j =>
            have hj := (H.ok.on i di j h hk).1
            show Value.ref (if j = W.gs.length then ga else ad.ga j) = _
            rw [if_neg (by omega)]
          | row => rfl
          | src => rfl
        rw [e1, e2, e3]
        exact h2
    · refine ⟨.fresh (.func bdFail (fEnv gf 35 cdg)), ?_, ?_⟩
      · show (G.push _)[if W.gs.length = W.gs.length then G.size else _]? = _
        rw [if_pos rfl]; simp
      · unfold GSt
        have e1 : sgN σ W.gs.length W.gs.length = false := if_pos rfl
        have e2 : (adN ad W.gs.length pe pw ga gf G.size).gf W.gs.length = gf := if_pos rfl
        rw [if_pos hgo, e1, e2]
        rfl
  · rw [hlen] at hi hj
    have e' : (if i = W.gs.length then G.size else ad.gi i) = (if j = W.gs.length then G.size else ad.gi j) := e
    by_cases hin : i = W.gs.length
    · by_cases hjn : j = W.gs.length
      · omega
      · rw [if_pos hin, if_neg hjn] at e'
        have := hgi j (by omega)
        omega
    · by_cases hjn : j = W.gs.length
      · rw [if_neg hin, if_pos hjn] at e'
        have := hgi i (by omega)
        omega
      · rw [if_neg hin, if_neg hjn] at e'
        exact H.g.inj i j (by omega) (by omega) e'
  · rcases split i di hdi with ⟨hi', h⟩ | ⟨rfl, rfl⟩
    · have hne : i ≠ W.gs.length := by omega
      have e1 : sgN σ W.gs.length i = σ i := if_neg hne
      rw [e1]
      exact H.g.live i di hi' h
    · exact fun _ _ => ⟨hl, fun _ => hp⟩
end
end
section
section
variable {w : World} {h₁ : Heap} {os : OsState} {cdg cI cD cT cR cd : Value} {mg mb : Str → Option Value} {ad : Ad} {τ : Tk} {σ : Nat → Bool} {rv : List Value} {W : W2} {rest : Cels} {G : Array GenState} {A : Around} {l : List (Str × Value)} {s : Shared} {L : Addr} {q : Int} {tq : Tok}
def nWords (q : Int) (n : Nat) : Str := if q.fmod 4 = 1 then Str.ofString (toString (n : Int)) else if q.fmod 4 = 3 then Str.ofString "" else Str.ofString "negative value"
def nKd (a u : Int) : Kd := if a = 3 then .row else if a = 4 then .src else .on u.toNat
def nGD (a u q : Int) (n : Nat) : GD := ⟨nKd a u, u, nWords q n, true, 0, true⟩
theorem nWords_ok {n : Nat} (h : n < 200) : PyData.strOk (nWords q n) = true := by
  unfold nWords
  split
  · exact str_small h
  · split <;> decide +kernel
def dTail : { b : List Stmt // b = (ifThen (nth (ifElse (nth (ifElse (nth (ifElse (nth (ifElse (nth dMain.1 1)) 0)) 0)) 0)) 0)).drop 4 } := by
  refine ⟨?b, Eq.symm ?h⟩
  case h => conv => lhs; whnf
theorem Aft.drop {J : Cels} {s' : Shared} (h : Aft w cdg h₁ os L W (J ++ rest) s') : Aft w cdg h₁ os L W rest s' := by
  obtain ⟨l', ad', τ', σ', rv', W', G', h1, h2, h3, h4, h5, h6, B⟩ := h
  exact ⟨l', ad', τ', σ', rv', W', G', h1, h2, h3, h4, h5, h6, B.sub (.cons_cons _ ((List.Sublist.refl _).append (List.sublist_append_right ..)))⟩
theorem Fm.same {pe pw ga gf : Addr} {g n : Nat} (F : Fm ad l) : Fm (adN ad n pe pw ga gf g) l := ⟨F.row, F.mirror, F.source, F.shared, F.guards, F.plan⟩
theorem updP {lp lp' lg : List Value} : Upd ad.P (lstP lp) (lstP lp') (aX ad τ σ rv W lp lg) (aX ad τ σ rv W lp' lg) := Upd.here.app _
theorem updG {lp lg lg' : List Value} : Upd ad.G (lstP lg) (lstP lg') (aX ad τ σ rv W lp lg) (aX ad τ σ rv W lp lg') := Upd.pre _ .here
theorem new_tail {d : GD} {D pw : Addr} {tp tu tw : Tok} {E : Value → Shared → Prop} (T : Tp2 h₁ mg mb) (FG : Gn h₁ D cdg) (U : Und h₁ A L cd)
    (F : Fm ad l) (hql : frm l (Str.ofString "q") = some (.int q tq)) (hul : frm l (Str.ofString "under") = some (.int d.u tu)) (hwl : frm l (Str.ofString "well") = some (wV ad pw d)) (hxl : frm l (Str.ofString "words") = some (.str d.words tw)) (hvl : frm l (Str.ofString "values") = some (valV ad d))
    (H : Good w cdg ad τ σ rv W G) (hf : W.gs.length ≤ 100) (hgo : d.going = true) (hp : d.pos = 0) (hl : d.live = true) (hon : ∀ j, d.kd = .on j → j < W.gs.length ∧ d.u = j) (hw : d.words = nWords q W.gs.length)
    (B : Sh h₁ os ((L, nsP (frm l)) :: (wCel pw tp d ++ (aC ad τ σ rv W ++ rest))) G s) :
    wpAny (model PP w) A (execs dTail.1 (lEnv L cd)) (fun fl s' => fl = .next ∧ Aft w cdg h₁ os L W rest s') E s := by
  have hh := U.hh
  have hun := U.un
  have hdep := U.dep
  have k1 := F.guards
  have k3 := F.plan
  rw [← aX_eq] at B
  have B1 := B.perm (cs' := (L, nsP (frm l)) :: (aX ad τ σ rv W (pLst ad W.gs.length) (gLst ad W.gs.length) ++ (wCel pw tp d ++ rest))) (by walk_at "pm")
  have mP : ∀ lp lg X, (ad.P, lstP lp) ∈ aX ad τ σ rv W lp lg ++ X := fun lp lg X => (updP.app X).mem (c' := lstP [])
  have mG : ∀ lp lg X, (ad.G, lstP lg) ∈ aX ad τ σ rv W lp lg ++ X := fun lp lg X => (updG.app X).mem (c' := lstP [])
  clear B
  refine wpAny_execs_cons ?_
  repeat walk_at "v"
  refine r_meth (by assumption) (.tail _ (mP _ _ _)) PySem.F.slot_list_append PySem.F.type_list_append ?_
  repeat walk_at "v"
  refine r_append (by assumption) (.there (.there (updP.app _))) (by rw [sizeLine_eq]; simp [pLst]; omega) ?_
  intro s B
  refine wpAny_execs_cons ?_
  repeat walk_at "v"
  refine r_meth (by assumption) (.tail _ (.tail _ (mG _ _ _))) PySem.F.slot_list_append PySem.F.type_list_append ?_
  repeat walk_at "v"
  have e2 : q.fmod 2 = q % 2 := Int.fmod_eq_emod_of_nonneg _ (by decide)
  have e4 : q.fmod 4 = q % 4 := Int.fmod_eq_emod_of_nonneg _ (by decide)
  have fin : ∀ ga gf pe s', Sh h₁ os ((L, nsP (frm l)) :: (ga, genP G.size) :: (gf, gfP (valV ad d) d.words) :: (pe, lstP [.int d.u tu, wV ad pw d, .str d.words tw, .bool true]) :: (aX ad τ σ rv W (pLst ad W.gs.length ++ [.ref pe]) (gLst ad W.gs.length ++ [.ref ga]) ++ (wCel pw tp d ++ rest))) (G.push (.fresh (.func bdFail (fEnv gf 35 cdg)))) s' → Aft w cdg h₁ os L W rest s' := by
    intro ga gf pe s' B'
    refine ⟨l, adN ad W.gs.length pe pw ga gf G.size, tkN τ W.gs.length tu tw tp, sgN σ W.gs.length, rv, W.more d, _, F.same, new_good H hf hgo hp hl hon (by rw [hw]; exact nWords_ok (by omega)), by show W.items.length ≤ _; omega, by simp [W2.more], by simp [W2.more], by simp [W2.more], B'.perm ?_⟩
    rw [new_cells H.ok hgo hp hl fun j e => (hon j e).1]
    unfold aX
    walk_at "pm"
  by_cases h2 : q % 2 = 1
  · rw [if_pos (by rw [e2, h2]; rfl)]
    repeat walk_at "v"
    refine r_callFn FG.fn ?_
    repeat walk_at "v"
    refine ⟨⟨_, _, _, by assumption⟩, wpAny_call ?_⟩
    refine gen_make T FG (by omega) (by assumption) (.inl ⟨_, rfl⟩) ?_
    intro ga gf s' B'
    dsimp only
    repeat walk_at "v"
    refine r_append (by assumption) (.there (.there (.there (.there (updG.app _))))) (by rw [sizeLine_eq]; simp [gLst]; omega) ?_
    intro s'' B''
    repeat walk_at "v"
    exact ⟨rfl, fin _ _ _ _ B''⟩
  · rw [if_neg (by rw [e2]; simpa using h2)]
    repeat walk_at "v"
    refine r_callFn FG.fn ?_
    repeat walk_at "v"
    refine ⟨⟨_, _, _, by assumption⟩, wpAny_call ?_⟩
    refine gen_make T FG (by omega) (by assumption) (x := d.words) (.inr ⟨rfl, ?_⟩) ?_
    · rw [hw]
      unfold nWords
      rw [if_neg (by rw [e4]; omega), if_neg (by rw [e4]; omega)]
    intro ga gf s' B'
    dsimp only
    repeat walk_at "v"
    refine r_append (by assumption) (.there (.there (.there (.there (updG.app _))))) (by rw [sizeLine_eq]; simp [gLst]; omega) ?_
    intro s'' B''
    repeat walk_at "v"
    exact ⟨rfl, fin _ _ _ _ B''⟩
theorem main_new {a : Int} {ta : Tok} {D : Addr} {E : Value → Shared → Prop} (T : Tp2 h₁ mg mb) (FG : Gn h₁ D cdg) (U : Und h₁ A L cd)
    (F : Fm ad l) (hal : frm l (Str.ofString "act") = some (.int a ta)) (hql : frm l (Str.ofString "q") = some (.int q tq)) (H : Good w cdg ad τ σ rv W G) (hb : W.items.length ≤ 500) (hf : W.gs.length ≤ 100) (hg : 0 < W.gs.length ∨ a = 3) (ha : 3 ≤ a) (ha' : a < 6)
    (B : Sh h₁ os ((L, nsP (frm l)) :: (aC ad τ σ rv W ++ rest)) G s) :
    wpAny (model PP w) A (execs (dMain.1.drop 1) (lEnv L cd)) (fun fl s' => fl = .next ∧ Aft w cdg h₁ os L W rest s') E s := by
  have hh := U.hh
  have hun := U.un
  have hdep := U.dep
  have hgl : (gLst ad W.gs.length).length = W.gs.length := by simp [gLst]
  have k1 := F.guards
  have k2 := F.row
  have k3 := F.plan
  have k4 := F.source
  have k5 := F.shared
  refine wpAny_execs_cons ?_
  repeat walk_at "v"
  rw [if_neg (by simp; omega)]
  refine wpAny_execs_cons ?_
  repeat walk_at "v"
  rw [if_neg (by simp; omega)]
  repeat walk_at "v"
  rw [if_neg (by decide)]
  refine wpAny_execs_cons ?_
  repeat walk_at "v"
  rw [if_neg (by simp; omega)]
  repeat walk_at "v"
  rw [if_neg (by decide)]
  refine wpAny_execs_cons ?_
  repeat walk_at "v"
  rw [if_neg (by simp; omega)]
  refine wpAny_execs_cons ?_
  repeat walk_at "v"
  rw [if_pos (by simpa using ha)]
  refine wpAny_execs_cons ?_
  repeat walk_at "v"
  refine r_len (by assumption) (.tail _ aC_G) (by omega) ?_
  intro _ _ _
  rw [hgl]
  repeat walk_at "v"
  refine r_max2 hh (by assumption) ?_
  intro _ _ _
  have hpos : (0 : Int) < (if (W.gs.length : Int) > 1 then (W.gs.length : Int) else 1) := by split <;> omega
  have hmax : (if (W.gs.length : Int) > 1 then (W.gs.length : Int) else 1) ≤ W.gs.length ∨ W.gs.length = 0 := by split <;> omega
  generalize (if (W.gs.length : Int) > 1 then (W.gs.length : Int) else 1) = mx at hpos hmax
  refine r_mod (by assumption) (by omega) ?_
  intro _ _ _
  have hu0 : 0 ≤ q.fmod mx := Int.fmod_nonneg_of_pos _ hpos
  have hu1 : q.fmod mx < mx := Int.fmod_lt_of_pos _ hpos
  generalize q.fmod mx = u at hu0 hu1
  repeat walk_at "v"
  refine wpAny_execs_cons ?_
  repeat walk_at "v"
  refine r_len (by assumption) (.tail _ aC_G) (by omega) ?_
  intro _ _ _
  rw [hgl]
  repeat walk_at "v"
  case k2 => exact Nat.lt_of_le_of_lt (Nat.log2_le_self _) (by show (W.gs.length : Int).natAbs < _; omega)
  have hq0 : 0 ≤ q.fmod 4 := Int.fmod_nonneg_of_pos _ (by decide)
  have hq1 : q.fmod 4 < 4 := Int.fmod_lt_of_pos _ (by decide)
  have wx : ∀ t1 t2 t3 t4 : Tok, ∃ t, [Value.str (Str.ofString "negative value") t1, .str (Str.ofString (toString (W.gs.length : Int))) t2, .str (Str.ofString "negative value") t3, .str (Str.ofString "") t4][(q.fmod 4).toNat]? = some (.str (nWords q W.gs.length) t) := by
    intro t1 t2 t3 t4
    unfold nWords
    rcases (show q.fmod 4 = 0 ∨ q.fmod 4 = 1 ∨ q.fmod 4 = 2 ∨ q.fmod 4 = 3 by omega) with h | h | h | h <;> rw [h]
    · exact ⟨t1, rfl⟩
    · exact ⟨t2, rfl⟩
    · exact ⟨t3, rfl⟩
    · exact ⟨t4, rfl⟩
  obtain ⟨tw, hwx⟩ := wx _ _ _ _
  refine r_item (by assumption) (.tail _ (.head _)) hq0 (by omega) hwx ?_
  repeat walk_at "v"
  have nl1 : Str.ofString "under" ∉ lasting := by decide +kernel
  have nl2 : Str.ofString "words" ∉ lasting := by decide +kernel
  have nl3 : Str.ofString "values" ∉ lasting := by decide +kernel
  have nl4 : Str.ofString "well" ∉ lasting := by decide +kernel
  have hlenu : 0 < W.gs.length → u < W.gs.length := fun h => by omega
  have kd3 : a = 3 → nKd a u = .row := fun h => by unfold nKd; rw [if_pos h]
  have kd4 : a = 4 → nKd a u = .src := fun h => by unfold nKd; rw [if_neg (by omega), if_pos h]
  have kd5 : a = 5 → nKd a u = .on u.toNat := fun h => by unfold nKd; rw [if_neg (by omega), if_neg (by omega)]
  rcases (show a = 3 ∨ a = 4 ∨ a = 5 by omega) with rfl | rfl | rfl
  · refine wpAny_execs_cons ?_
    repeat walk_at "v"
    rw [if_pos (by decide)]
    repeat walk_at "v"
    refine wpAny_execs_cons ?_
    repeat walk_at "v"
    rw [if_pos (by decide)]
    repeat walk_at "v"
    have hkd := kd3 rfl
    have hK : (nGD 3 u q W.gs.length).kd = .row := hkd
    have key : ∀ (s9 : Shared) (pw : Addr) (tp : Tok) (j : Addr) (J : Cel) (tu : Tok), Sh h₁ os ((L, nsP (frm ((Str.ofString "well", .ref pw) :: (Str.ofString "values", .ref ad.R) :: (Str.ofString "words", .str (nWords q W.gs.length) tw) :: (Str.ofString "under", .int u tu) :: l))) :: (pw, lstP [.int 0 tp, .bool true]) :: (j, J) :: (aC ad τ σ rv W ++ rest)) G s9 →
        wpAny (model PP w) A (execs dTail.1 (lEnv L cd)) (fun fl s' => fl = .next ∧ Aft w cdg h₁ os L W rest s') E s9 := by
      intro s9 pw tp j J tu B9
      have hwc : wCel pw tp (nGD 3 u q W.gs.length) = [(pw, lstP [.int 0 tp, .bool true])] := if_pos hkd
      have hwv : wV ad pw (nGD 3 u q W.gs.length) = .ref pw := by unfold wV; rw [hK]
      have hvv : valV ad (nGD 3 u q W.gs.length) = .ref ad.R := by unfold valV; rw [hK]
      have := new_tail (d := nGD 3 u q W.gs.length) (pw := pw) (tp := tp) (tu := tu) (tw := tw) (rest := [(j, J)] ++ rest) (E := E) T FG U ((((F.put _ _ nl1).put _ _ nl2).put _ _ nl3).put _ _ nl4) hql rfl (by rw [hwv]; rfl) rfl (by rw [hvv]; rfl) H hf rfl rfl rfl (fun i e => by rw [hK] at e; cases e) rfl (B9.perm (by rw [hwc]; walk_at "pm"))
      exact wpAny_mono this (fun fl s' h => ⟨h.1, h.2.drop⟩) fun _ _ e => e
    refine wpAny_mono (key _ _ _ _ _ _ (by assumption)) (fun fl s' h => ?_) fun _ _ e => e
    obtain ⟨rfl, h⟩ := h
    repeat walk_at "v"
    exact ⟨rfl, h⟩
  · refine wpAny_execs_cons ?_
    repeat walk_at "v"
    rw [if_neg (by decide)]
    repeat walk_at "v"
    rw [if_pos (by decide)]
    repeat walk_at "v"
    refine wpAny_execs_cons ?_
    repeat walk_at "v"
    rw [if_neg (by decide)]
    repeat walk_at "v"
    rw [if_pos (by decide)]
    repeat walk_at "v"
    have hkd := kd4 rfl
    have hK : (nGD 4 u q W.gs.length).kd = .src := hkd
    have key : ∀ (s9 : Shared) (pw : Addr) (tp : Tok) (j : Addr) (J : Cel) (tu : Tok), Sh h₁ os ((L, nsP (frm ((Str.ofString "well", .ref ad.Sh) :: (Str.ofString "values", .ref ad.S) :: (Str.ofString "words", .str (nWords q W.gs.length) tw) :: (Str.ofString "under", .int u tu) :: l))) :: (j, J) :: (aC ad τ σ rv W ++ rest)) G s9 →
        wpAny (model PP w) A (execs dTail.1 (lEnv L cd)) (fun fl s' => fl = .next ∧ Aft w cdg h₁ os L W rest s') E s9 := by
      intro s9 pw tp j J tu B9
      have hwc : wCel pw tp (nGD 4 u q W.gs.length) = [] := if_neg (by rw [hK]; simp)
      have hwv : wV ad pw (nGD 4 u q W.gs.length) = .ref ad.Sh := by unfold wV; rw [hK]
      have hvv : valV ad (nGD 4 u q W.gs.length) = .ref ad.S := by unfold valV; rw [hK]
      have := new_tail (d := nGD 4 u q W.gs.length) (pw := pw) (tp := tp) (tu := tu) (tw := tw) (rest := [(j, J)] ++ rest) (E := E) T FG U ((((F.put _ _ nl1).put _ _ nl2).put _ _ nl3).put _ _ nl4) hql rfl (by rw [hwv]; rfl) rfl (by rw [hvv]; rfl) H hf rfl rfl rfl (fun i e => by rw [hK] at e; cases e) rfl (B9.perm (by rw [hwc]; walk_at "pm"))
      exact wpAny_mono this (fun fl s' h => ⟨h.1, h.2.drop⟩) fun _ _ e => e
    refine wpAny_mono (key _ 0 0 _ _ _ (by assumption)) (fun fl s' h => ?_) fun _ _ e => e
    obtain ⟨rfl, h⟩ := h
    repeat walk_at "v"
    exact ⟨rfl, h⟩
  · have hn := hg.resolve_right (by decide)
    have hul := hlenu hn
    refine wpAny_execs_cons ?_
    repeat walk_at "v"
    rw [if_neg (by decide)]
    repeat walk_at "v"
    rw [if_neg (by decide)]
    repeat walk_at "v"
    refine r_item (by assumption) (.tail _ (.tail _ aC_G)) hu0 (by omega) (x := .ref (ad.ga u.toNat)) (by unfold gLst; rw [List.getElem?_map, List.getElem?_range (by omega)]; rfl) ?_
    repeat walk_at "v"
    refine wpAny_execs_cons ?_
    repeat walk_at "v"
    rw [if_neg (by decide)]
    repeat walk_at "v"
    rw [if_neg (by decide)]
    repeat walk_at "v"
    have hkd := kd5 rfl
    have hK : (nGD 5 u q W.gs.length).kd = .on u.toNat := hkd
    have key : ∀ (s9 : Shared) (pw : Addr) (tp : Tok) (j : Addr) (J : Cel) (tu : Tok), Sh h₁ os ((L, nsP (frm ((Str.ofString "well", .none) :: (Str.ofString "values", .ref (ad.ga u.toNat)) :: (Str.ofString "words", .str (nWords q W.gs.length) tw) :: (Str.ofString "under", .int u tu) :: l))) :: (j, J) :: (aC ad τ σ rv W ++ rest)) G s9 →
        wpAny (model PP w) A (execs dTail.1 (lEnv L cd)) (fun fl s' => fl = .next ∧ Aft w cdg h₁ os L W rest s') E s9 := by
      intro s9 pw tp j J tu B9
      have hwc : wCel pw tp (nGD 5 u q W.gs.length) = [] := if_neg (by rw [hK]; simp)
      have hwv : wV ad pw (nGD 5 u q W.gs.length) = .none := by unfold wV; rw [hK]
      have hvv : valV ad (nGD 5 u q W.gs.length) = .ref (ad.ga u.toNat) := by unfold valV; rw [hK]
      have := new_tail (d := nGD 5 u q W.gs.length) (pw := pw) (tp := tp) (tu := tu) (tw := tw) (rest := [(j, J)] ++ rest) (E := E) T FG U ((((F.put _ _ nl1).put _ _ nl2).put _ _ nl3).put _ _ nl4) hql rfl (by rw [hwv]; rfl) rfl (by rw [hvv]; rfl) H hf rfl rfl rfl (fun i e => by rw [hK] at e; cases e; exact ⟨by omega, by show u = _; omega⟩) rfl (B9.perm (by rw [hwc]; walk_at "pm"))
      exact wpAny_mono this (fun fl s' h => ⟨h.1, h.2.drop⟩) fun _ _ e => e
    refine wpAny_mono (key _ 0 0 _ _ _ (by assumption)) (fun fl s' h => ?_) fun _ _ e => e
    obtain ⟨rfl, h⟩ := h
    repeat walk_at "v"
    exact ⟨rfl, h⟩
end
end
section
section
variable {w : World} {h₁ : Heap} {os : OsState} {cdg cI cD cT cR cd : Value} {mg mb : Str → Option Value} {ad : Ad} {τ : Tk} {σ : Nat → Bool} {rv : List Value} {W : W2} {rest : Cels} {G : Array GenState} {A : Around} {l : List (Str × Value)} {s : Shared} {L : Addr} {q : Int} {tq : Tok} {D : Addr}
theorem main_step {x : Int} {tx : Tok} {E : Value → Shared → Prop} (T : Tp2 h₁ mg mb) (hE : Er h₁ 24 23) (FS : Fs h₁ cI cD cT cR) (FI : Fn h₁ 42 "_law_item" prItem bdItem scItem cI) (FG : Gn h₁ D cdg) (U : Und h₁ A L cd)
    (F : Fm ad l) (hxl : frm l (Str.ofString "x") = some (.int x tx)) (H : Good w cdg ad τ σ rv W G) (hb : W.items.length ≤ 500) (hf : W.gs.length ≤ 100) (h3 : 0 < W.gs.length ∨ x = 3)
    (B : Sh h₁ os ((L, nsP (frm l)) :: (aC ad τ σ rv W ++ rest)) G s) :
    wpAny (model PP w) A (execs dMain.1 (lEnv L cd)) (fun fl s' => fl = .next ∧ Aft w cdg h₁ os L W rest s') E s := by
  have hh := U.hh
  have hun := U.un
  have hdep := U.dep
  refine wpAny_execs_cons ?_
  refine Assign_Tuple_swapped (names := [Str.ofString "act", Str.ofString "q"]) ?_ (by with_unfolding_all rfl) (by with_unfolding_all rfl)
  repeat walk_at "v"
  refine r_fdiv (by assumption) (by decide) (PyProof.noPylong_small (by decide)) ?_
  intro _ _ _
  repeat walk_at "v"
  refine unpackT hh (by assumption) (.tail _ (.head _)) rfl ?_
  intro s B
  refine wpAny_assignInOrder_more ?_
  refine bindName_ ?_
  repeat walk_at "v"
  refine wpAny_assignInOrder_more ?_
  refine bindName_ ?_
  repeat walk_at "v"
  have ha0 : 0 ≤ x.fmod 8 := Int.fmod_nonneg_of_pos _ (by decide)
  have ha1 : x.fmod 8 < 8 := Int.fmod_lt_of_pos _ (by decide)
  have hx3 : 0 < W.gs.length ∨ x.fmod 8 = 3 := h3.imp id fun h => by rw [h]; decide
  have nl1 : Str.ofString "act" ∉ lasting := by decide +kernel
  have nl2 : Str.ofString "q" ∉ lasting := by decide +kernel
  have key : ∀ (s9 : Shared) (ta tq : Tok) (j : Addr) (J : Cel), Sh h₁ os ((L, nsP (frm ((Str.ofString "act", .int (x.fmod 8) ta) :: (Str.ofString "q", .int (x.fdiv 8) tq) :: l))) :: (j, J) :: (aC ad τ σ rv W ++ rest)) G s9 →
      wpAny (model PP w) A (execs (dMain.1.drop 1) (lEnv L cd)) (fun fl s' => fl = .next ∧ Aft w cdg h₁ os L W rest s') E s9 := by
    intro s9 ta tq j J B9
    have B8 := B9.perm (cs' := (L, nsP (frm ((Str.ofString "act", .int (x.fmod 8) ta) :: (Str.ofString "q", .int (x.fdiv 8) tq) :: l))) :: (aC ad τ σ rv W ++ ([(j, J)] ++ rest))) (by walk_at "pm")
    have F8 := (F.put (Str.ofString "q") (.int (x.fdiv 8) tq) nl2).put (Str.ofString "act") (.int (x.fmod 8) ta) nl1
    have hal : frm ((Str.ofString "act", .int (x.fmod 8) ta) :: (Str.ofString "q", .int (x.fdiv 8) tq) :: l) (Str.ofString "act") = some (.int (x.fmod 8) ta) := rfl
    have hql : frm ((Str.ofString "act", .int (x.fmod 8) ta) :: (Str.ofString "q", .int (x.fdiv 8) tq) :: l) (Str.ofString "q") = some (.int (x.fdiv 8) tq) := rfl
    have fin : ∀ fl s', (fl = Flow.next ∧ Aft w cdg h₁ os L W ([(j, J)] ++ rest) s') → (fl = .next ∧ Aft w cdg h₁ os L W rest s') := fun fl s' h => ⟨h.1, h.2.drop⟩
    by_cases c1 : x.fmod 8 < 3
    · exact wpAny_mono (main_box T FI U F8 hal hql H hb (hx3.resolve_right (by omega)) (by omega) B8) fin fun _ _ e => e
    · by_cases c2 : x.fmod 8 < 6
      · exact wpAny_mono (main_new T FG U F8 hal hql H hb hf hx3 (by omega) c2 B8) fin fun _ _ e => e
      · exact wpAny_mono (main_ask T hE FS U F8 hal hql H hb (hx3.resolve_right (by omega)) (by omega) B8) fin fun _ _ e => e
  exact key _ _ _ _ _ (by assumption)

/-- the numbers of the loop -/
def IntsR (xs : List Int) (vs : List Value) : Prop := ∀ (i : Nat) (v : Value), vs[i]? = some v → ∃ t, xs[i]? = some (xs.getD i 0) ∧ v = .int (xs.getD i 0) t
def dFin : { b : List Stmt // b = bdLaw.drop 7 } := by
  refine ⟨?b, Eq.symm ?h⟩
  case h => conv => lhs; whnf
def dTurn : { b : List Stmt // b = lMain (nth dFin.1 0) } := by
  refine ⟨?b, Eq.symm ?h⟩
  case h => conv => lhs; whnf
def dRound : { b : List Stmt // b = lMain (nth dTurn.1 0) } := by
  refine ⟨?b, Eq.symm ?h⟩
  case h => conv => lhs; whnf
/-- the state between the rounds -/
def Rnd (w : World) (cdg : Value) (n : Nat) (rest : Cels) (l : List (Str × Value)) (cs : Cels) (G : Array GenState) : Prop :=
  ∃ ad τ σ rv W, Fm ad l ∧ Good w cdg ad τ σ rv W G ∧ W.items.length ≤ 500 ∧ W.gs.length = n ∧ cs = aC ad τ σ rv W ++ rest
theorem Rnd.put {n : Nat} {cs : Cels} {x : Str} {v : Value} (h : Rnd w cdg n rest l cs G) (hx : x ∉ lasting) : Rnd w cdg n rest ((x, v) :: l) cs G := by
  obtain ⟨ad, τ, σ, rv, W, F, r⟩ := h
  exact ⟨ad, τ, σ, rv, W, F.put x v hx, r⟩
theorem round_step {k n : Nat} {tk : Tok} {cs : Cels} {E : Value → Shared → Prop} (T : Tp2 h₁ mg mb) (hE : Er h₁ 24 23) (FS : Fs h₁ cI cD cT cR) (U : Und h₁ A L cd) (hk : k < n)
    (R : Rnd w cdg n rest l cs G) (hkl : frm l (Str.ofString "k") = some (.int k tk)) (B : Sh h₁ os ((L, nsP (frm l)) :: cs) G s) :
    wpAny (model PP w) A (execs dRound.1 (lEnv L cd)) (fun fl s' => fl = .next ∧ ∃ cs' G', Rnd w cdg n rest l cs' G' ∧ Sh h₁ os ((L, nsP (frm l)) :: cs') G' s') E s := by
  obtain ⟨ad, τ, σ, rv, W, F, H, hb, rfl, rfl⟩ := R
  have k1 := F.guards
  have k2 := F.mirror
  have k3 := F.plan
  refine wpAny_execs_cons ?_
  repeat walk_at "v"
  refine r_callFn FS.right.fn ?_
  repeat walk_at "v"
  refine ⟨⟨_, _, _, by assumption⟩, ?_⟩
  refine ask_step T hE FS U H hk (by assumption) ?_
  intro it' τ' σ' G' s' H' B'
  repeat walk_at "v"
  rw [if_neg (by decide)]
  repeat walk_at "v"
  exact ⟨rfl, _, G', ⟨_, τ', σ', rv, _, F.it, H', by rw [ask_items]; exact hb, ask_len .., rfl⟩, B'⟩
end
end
section
section
variable {w : World} {h₁ : Heap} {os : OsState} {cdg cI cD cT cR cd : Value} {mg mb : Str → Option Value} {ad : Ad} {τ : Tk} {σ : Nat → Bool} {rv : List Value} {W : W2} {rest : Cels} {G : Array GenState} {A : Around} {l : List (Str × Value)} {s : Shared} {L : Addr} {n : Nat} {cs : Cels}
theorem Rnd.split (h : Rnd w cdg n rest l cs G) : ∃ X, cs = X ++ rest ∧ ∀ rest', Rnd w cdg n rest' l (X ++ rest') G := by
  obtain ⟨ad, τ, σ, rv, W, F, H, hb, hn, rfl⟩ := h
  exact ⟨_, rfl, fun rest' => ⟨ad, τ, σ, rv, W, F, H, hb, hn, rfl⟩⟩
theorem Rnd.len (h : Rnd w cdg n rest l cs G) : ∃ a, frm l (Str.ofString "guards") = some (.ref a) ∧ ∃ vs : List Value, vs.length = n ∧ (a, lstP vs) ∈ cs := by
  obtain ⟨ad, τ, σ, rv, W, F, H, hb, hn, rfl⟩ := h
  exact ⟨ad.G, F.guards, gLst ad W.gs.length, by simp [gLst, hn], aC_G⟩
/-- one round -/
theorem turn_step {E : Value → Shared → Prop} (T : Tp2 h₁ mg mb) (hE : Er h₁ 24 23) (FS : Fs h₁ cI cD cT cR) (U : Und h₁ A L cd) (hn : n < 1000)
    (R : Rnd w cdg n rest l cs G) (B : Sh h₁ os ((L, nsP (frm l)) :: cs) G s) :
    wpAny (model PP w) A (execs dTurn.1 (lEnv L cd)) (fun fl s' => fl = .next ∧ ∃ l' cs' G', Rnd w cdg n rest l' cs' G' ∧ Sh h₁ os ((L, nsP (frm l')) :: cs') G' s') E s := by
  have hh := U.hh
  obtain ⟨ga, k1, gvs, hgl, hgm⟩ := R.len
  refine wpAny_execs_cons ?_
  refine wpAny_For ?_
  repeat walk_at "v"
  refine r_len (by assumption) (.tail _ hgm) (by omega) ?_
  intro _ s B
  rw [hgl]
  repeat walk_at "v"
  refine r_range (by omega) B ?_
  intro it s B
  refine for_gen (n := n) (V := fun i v => ∃ t, v = .int i t) (iC := fun i => [(it, ritP (i : Int) ((n : Int) - (i : Int)))]) (by decide +kernel) (by decide +kernel)
    (fun i E Q s l cs G hi B h => nx_rngI hi B fun v s' hv B' => h v s' hv B') (fun E Q s l cs G B h => nx_rngE hh B h)
    (Inv := fun j l' cs' G' => Rnd w cdg n rest l' cs' G') ?_ R B ?_
  · rintro i v l' cs' G' s' E hi ⟨t, rfl⟩ R' B'
    obtain ⟨X, rfl, hX⟩ := (R'.put (x := Str.ofString "k") (v := .int i t) (by decide +kernel)).split
    refine wpAny_mono (round_step (n := n) (k := i) (tk := t) (rest := [(it, ritP ((i + 1 : Nat) : Int) ((n : Int) - ((i + 1 : Nat) : Int)))] ++ rest) T hE FS U hi (hX _) rfl (B'.perm (by walk_at "pm"))) (fun fl s'' h'' => ?_) fun _ _ e => e
    obtain ⟨rfl, cs₂, G₂, R₂, B₂⟩ := h''
    obtain ⟨Y, rfl, hY⟩ := R₂.split
    exact ⟨rfl, _, Y ++ rest, G₂, hY _, B₂.perm (by walk_at "pm")⟩
  · intro l' cs' G' s' R' B'
    repeat walk_at "v"
    exact ⟨rfl, l', cs', G', R', B'⟩
theorem list_src {E : Value → Shared → Prop} {Q : Value → Shared → Prop} {m : Str → Option Value} (hh : A.handled = none) (hz : rv.length ≤ 1000) (B : Sh h₁ os ((L, nsP m) :: (aC ad τ σ rv W ++ rest)) G s)
    (h : ∀ S s', Sh h₁ os ((L, nsP m) :: (S, lstP (if W.sa = true then rv.drop W.sp else [])) :: (pC ad τ W ++ rest)) G s' → Q (.ref S) s') :
    wpAny (model PP w) A (call (.type "list") [.ref ad.S]) Q E s := by
  have hlt := (B.get (.tail _ aC_S)).lt
  cases hsa : W.sa with
  | true =>
    have hs : srcP ad W = litP ad.R W.sp := by unfold srcP; rw [hsa]; rfl
    have gt : ∀ s', Sh h₁ os ((L, nsP m) :: (aC ad τ σ rv W ++ rest)) G s' → Pt s'.heap ad.S (litP ad.R W.sp) := fun s' B' => hs ▸ B'.get (.tail _ aC_S)
    refine listIt (gt s B).litT B (fun s' A' E' Q' B' hq => i_lit (gt s' B').lit hq) hlt (fun s' B' => (gt s' B').lit.typeIs) fun S s' B' => ?_
    have B2 := B'.perm (cs' := (S, lstP []) :: (ad.S, litP ad.R W.sp) :: (ad.R, lstP rv) :: ((L, nsP m) :: (pC ad τ W ++ (ad.G, lstP (gLst ad W.gs.length)) :: ((List.range W.gs.length).flatMap (gOne ad σ W) ++ rest)))) (by unfold aC gC gH; rw [hs]; walk_at "pm")
    refine extend_lit (A := A.in1) hh (by rw [sizeLine_eq]; omega) _ W.sp s' [] rfl (Nat.zero_le _) B2 fun s'' B'' => ⟨rfl, h S s'' ?_⟩
    rw [hsa, if_pos rfl]
    exact B''.sb ⟨[(ad.S, lendP), (ad.R, lstP rv), (ad.G, lstP (gLst ad W.gs.length))] ++ (List.range W.gs.length).flatMap (gOne ad σ W), by walk_at "pm"⟩
  | false =>
    have hs : srcP ad W = lendP := by unfold srcP; rw [hsa]; rfl
    have gt : ∀ s', Sh h₁ os ((L, nsP m) :: (aC ad τ σ rv W ++ rest)) G s' → Pt s'.heap ad.S lendP := fun s' B' => hs ▸ B'.get (.tail _ aC_S)
    refine listIt (gt s B).lendT B (fun s' A' E' Q' B' hq => i_lend (gt s' B') hq) hlt (fun s' B' => (gt s' B').lendT) fun S s' B' => ?_
    refine extend_lend (A := A.in1) hh B' (.tail _ (.tail _ (hs ▸ aC_S))) fun s'' B'' => ⟨rfl, h S s'' ?_⟩
    rw [hsa, if_neg (by decide)]
    exact B''.sb ⟨(ad.G, lstP (gLst ad W.gs.length)) :: gC ad σ rv W W.gs.length, by unfold aC; walk_at "pm"⟩
theorem r_slice {E : Value → Shared → Prop} {value : PySem.Expr} {lower : PySem.Expr} {p pos : Pos} {m : Str → Option Value} {Q : Value → Shared → Prop} {env : Env}
    (h : wpAny (model PP w) A (eval value env) (fun o s₁ => wpAny (model PP w) A (eval lower env) (fun v s₂ => ∃ a vs k t cs, o = .ref a ∧ v = .int (k : Nat) t ∧ Sh h₁ os ((L, nsP m) :: cs) G s₂ ∧ (a, lstP vs) ∈ cs ∧ vs.length ≤ sizeLine ∧
      ∀ b s', Sh h₁ os ((L, nsP m) :: (b, lstP (vs.drop k)) :: cs) G s' → Q (.ref b) s') E s₁) E s) (ht : ∀ o r, letTemporaryGo value o r = pure () := by intro _ _; rfl) :
    wpAny (model PP w) A (eval (.Subscript value (.Slice (some lower) none none p) pos) env) Q E s := by
  refine wpAny_Subscript_list_slice (wpAny_mono h (fun o s₁ h₁' => wpAny_evalPart_some (wpAny_mono h₁' (fun v s₂ h₂ => ?_) fun _ _ e => e)) fun _ _ e => e) ht
  obtain ⟨a, vs, k, t, cs, rfl, rfl, B, hm, hz, hQ⟩ := h₂
  refine wpAny_evalPart_none ⟨a, vs.toArray, some (k : Int), none, rfl, (B.get (.tail _ hm)).lst, by simpa using hz, ?_, ?_, ?_⟩
  · constructor
  · constructor
  · rw [slicePick_from' vs.toArray k]
    have B2 := B.heap' (B.hp.grow fun b o e => Heap.get?_push_of_some (h := s₂.heap) { cls := .type "slice", data := .fields #[.int k t, .none, .none] } e)
    have B3 := (B2.heap' (B2.hp.push (c := lstP (vs.drop k)) (o := { cls := .type "list", data := .seq (vs.drop k).toArray }) rfl ⟨0, rfl⟩)).perm (List.Perm.swap ..)
    rw [Heap.size_push] at B3
    exact hQ _ _ B3
/-- the end of the law -/
theorem fin_walk {E : Value → Shared → Prop} (T : Tp2 h₁ mg mb) (hE : Er h₁ 24 23) (FS : Fs h₁ cI cD cT cR) (U : Und h₁ A L cd) (hn : n < 1000)
    (R : Rnd w cdg n rest l cs G) (B : Sh h₁ os ((L, nsP (frm l)) :: cs) G s) :
    wpAny (model PP w) A (execs dFin.1 (lEnv L cd)) (fun fl s' => fl = .ret (.bool true) ∧ ∃ cs' G', AllBare G' ∧ Sh h₁ os cs' G' s') E s := by
  have hh := U.hh
  have hun := U.un
  refine wpAny_execs_cons ?_
  refine wpAny_For ?_
  repeat walk_at "v"
  refine r_range (n := 5) (by decide) (by assumption) ?_
  intro it s B
  refine for_gen (n := 5) (V := fun i v => ∃ t, v = .int i t) (iC := fun i => [(it, ritP (i : Int) (((5 : Nat) : Int) - (i : Int)))]) (by decide +kernel) (by decide +kernel)
    (fun i E Q s l cs G hi B h => nx_rngI hi B fun v s' hv B' => h v s' hv B') (fun E Q s l cs G B h => nx_rngE hh B h)
    (Inv := fun j l' cs' G' => Rnd w cdg n rest l' cs' G') ?_ R B ?_
  · rintro i v l' cs' G' s' E hi ⟨t, rfl⟩ R' B'
    obtain ⟨X, rfl, hX⟩ := (R'.put (x := Str.ofString "turn") (v := .int i t) (by decide +kernel)).split
    refine wpAny_mono (turn_step (n := n) (rest := [(it, ritP ((i + 1 : Nat) : Int) (((5 : Nat) : Int) - ((i + 1 : Nat) : Int)))] ++ rest) T hE FS U hn (hX _) (B'.perm (by walk_at "pm"))) (fun fl s'' h'' => ?_) fun _ _ e => e
    obtain ⟨rfl, l₂, cs₂, G₂, R₂, B₂⟩ := h''
    obtain ⟨Y, rfl, hY⟩ := R₂.split
    exact ⟨rfl, _, Y ++ rest, G₂, hY _, B₂.perm (by walk_at "pm")⟩
  · intro l' cs' G' s' R' B'
    obtain ⟨ad, τ, σ, rv, W, F, H, hb, hn', rfl⟩ := R'
    have k1 := F.row
    have k2 := F.mirror
    have k3 := F.source
    have k4 := F.shared
    have its_ok := its_shaped H.tx.its
    have refl_ok := SeqAt.eqv_refl _ (SeqAt.canLay_of_shaped its_ok)
    have hlr := H.its.length
    have hlm := H.mv.length
    refine wpAny_execs_cons ?_
    repeat walk_at "v"
    refine eq_dataH ((Sh.get (by assumption) (.tail _ aC_R)).readsL H.its.reads) ((Sh.get (by assumption) (.tail _ aC_M)).readsL H.mv.reads) its_ok its_ok (by omega) ?_
    rw [refl_ok]
    repeat walk_at "v"
    rw [if_pos rfl]
    repeat walk_at "v"
    refine list_src (rv := rv) (W := W) (τ := τ) (σ := σ) (rest := rest) hh (by omega) (by assumption) ?_
    intro S s' B'
    repeat walk_at "v"
    refine r_item (by assumption) (.tail _ (.tail _ (List.mem_append_left _ pC_Sh))) (by decide) (by decide) (x := .bool W.sa) rfl ?_
    repeat walk_at "v"
    have dr_ok : SeqAt.shaped (.list ((W.items.drop W.sp).map itD)) = true := its_shaped fun x m => H.tx.its x (List.mem_of_mem_drop m)
    have nil_ok : SeqAt.shaped (.list []) = true := by decide +kernel
    cases hsa : W.sa with
    | true =>
      rw [hsa, if_pos rfl] at B'
      rw [if_pos rfl]
      refine r_slice (L := L) (m := frm l') (h₁ := h₁) (os := os) (G := G') ?_
      repeat walk_at "v"
      refine r_item (by assumption) (.tail _ (.tail _ (List.mem_append_left _ pC_Sh))) (by decide) (by decide) (x := .int W.sp τ.s) rfl ?_
      refine ⟨_, τ.mv, W.sp, _, _, rfl, rfl, by assumption, .tail _ (List.mem_append_left _ pC_M), by rw [sizeLine_eq]; omega, ?_⟩
      intro b s' B'
      rw [hsa, if_pos rfl] at B'
      repeat walk_at "v"
      refine eq_dataH ((B'.get (.tail _ (.tail _ (.head _)))).readsL (H.its.drop _).reads) ((B'.get (.tail _ (.head _))).readsL (H.mv.drop _).reads) dr_ok dr_ok (by omega) ?_
      rw [SeqAt.eqv_refl _ (SeqAt.canLay_of_shaped dr_ok)]
      exact ⟨rfl, _, _, H.bare, B'⟩
    | false =>
      rw [hsa, if_neg (by decide)] at B'
      rw [if_neg (by decide)]
      repeat walk_at "v"
      rename_i B9
      rw [hsa, if_neg (by decide)] at B9
      refine eq_dataH ((B9.get (.tail _ (.tail _ (.head _)))).readsL .nil) ((B9.get (.tail _ (.head _))).readsL .nil) nil_ok nil_ok (by omega) ?_
      rw [SeqAt.eqv_refl _ (SeqAt.canLay_of_shaped nil_ok)]
      exact ⟨rfl, _, _, H.bare, B9⟩
end
end
section
section
variable {w : World} {h₁ : Heap} {os : OsState} {cdg cI cD cT cR cd : Value} {mg mb : Str → Option Value} {ad : Ad} {τ : Tk} {σ : Nat → Bool} {rv : List Value} {W : W2} {rest : Cels} {G : Array GenState} {A : Around} {l : List (Str × Value)} {s : Shared} {L : Addr} {n : Nat} {cs : Cels} {D : Addr}
theorem ints_get : ∀ {vs : List Value} {ns : List Int}, IntsAre vs ns → ∀ v ∈ vs, ∃ x t, v = .int x t
  | _, _, .nil, _, m => nomatch m
  | _, _, .cons n t r, v, m => by
    rcases List.mem_cons.mp m with rfl | m
    · exact ⟨_, _, rfl⟩
    · exact ints_get r v m
def its0 : List It := [.i 4, .i 0, .i 5, .i 6, .i (-1), .t (Str.ofString "7"), .i 2]
def W0 : W2 := ⟨its0, 0, true, []⟩
theorem W0_ok : W0.Ok := ⟨fun k d j h => by simp [W0] at h, by decide, by decide⟩
theorem W0_tx : Tx W0 := ⟨fun i d h => by simp [W0] at h, fun x m => by
  simp [W0, its0] at m
  rw [m]
  decide +kernel⟩
/-- the state between two turns of the main loop -/
def Mn (w : World) (cdg : Value) (i : Nat) (l : List (Str × Value)) (cs : Cels) (G : Array GenState) : Prop :=
  ∃ ad τ σ rv W, Fm ad l ∧ Good w cdg ad τ σ rv W G ∧ W.items.length ≤ 7 + i ∧ W.gs.length ≤ i ∧ (0 < i → 0 < W.gs.length) ∧ cs = aC ad τ σ rv W
theorem main_loop {vs ws : List Value} {ns : List Int} {R : Result → Shared → Prop} {px : Pos} (T : Tp2 h₁ mg mb) (hE : Er h₁ 24 23) (FS : Fs h₁ cI cD cT cR) (FI : Fn h₁ 42 "_law_item" prItem bdItem scItem cI) (FG : Gn h₁ D cdg) (U : Und h₁ A L cd)
    (hi : IntsAre vs ns) (hz : vs.length ≤ 63) {Ra Sa Ma Ga Pa Sha it c : Addr} {t1 t2 t3 t4 t5 : Tok} (hw : ItsAre its0 ws) {l : List (Str × Value)} (F : ∀ ad : Ad, ad.R = Ra → ad.S = Sa → ad.M = Ma → ad.G = Ga → ad.P = Pa → ad.Sh = Sha → Fm ad l)
    (B : Sh h₁ os ((L, nsP (frm l)) :: ([(it, litP c 0), (c, lstP ([.int 3 t1, .int 12 t2, .int 13 t3, .int 4 t4] ++ vs))] ++ [(Pa, lstP []), (Ga, lstP []), (Sha, lstP [.int 0 t5, .bool true]), (Sa, litP Ra 0), (Ma, lstP ws), (Ra, lstP ws)])) #[] s)
    (h : ∀ n l' cs G s', n < 1000 → Rnd w cdg n [] l' cs G → Sh h₁ os ((L, nsP (frm l')) :: cs) G s' → R (.ok .next) s') :
    codeAny (model PP w) A (.forLoop (.Name (Str.ofString "x") px) (.ref it) dMain.1 [] (lEnv L cd)) R s := by
  have hh := U.hh
  have hlen : ([Value.int 3 t1, .int 12 t2, .int 13 t3, .int 4 t4] ++ vs).length = 4 + vs.length := by simp; omega
  have hint : ∀ i v, ([Value.int 3 t1, .int 12 t2, .int 13 t3, .int 4 t4] ++ vs)[i]? = some v → ∃ x t, v = .int x t ∧ (i = 0 → x = 3) := by
    intro i v hv
    match i, hv with
    | 0, hv => cases hv; exact ⟨3, t1, rfl, fun _ => rfl⟩
    | 1, hv => cases hv; exact ⟨12, t2, rfl, fun e => nomatch e⟩
    | 2, hv => cases hv; exact ⟨13, t3, rfl, fun e => nomatch e⟩
    | 3, hv => cases hv; exact ⟨4, t4, rfl, fun e => nomatch e⟩
    | i + 4, hv =>
      have hv' : vs[i]? = some v := by simpa using hv
      obtain ⟨x, t, rfl⟩ := ints_get hi v (List.mem_of_getElem? hv')
      exact ⟨x, t, rfl, fun e => by omega⟩
  refine for_gen (n := ([Value.int 3 t1, .int 12 t2, .int 13 t3, .int 4 t4] ++ vs).length) (V := fun i v => ([Value.int 3 t1, .int 12 t2, .int 13 t3, .int 4 t4] ++ vs)[i]? = some v) (iC := fun i => [(it, litP c i), (c, lstP ([.int 3 t1, .int 12 t2, .int 13 t3, .int 4 t4] ++ vs))]) (by decide +kernel) (by decide +kernel)
    (fun i E Q s l cs G hi B h => nx_listI hi B fun v s' hv B' => h v s' hv B') (fun E Q s l cs G B h => nx_listE hh B h)
    (Inv := fun i l' cs' G' => Mn w cdg i l' cs' G') ?_ (cs := [(Pa, lstP []), (Sha, lstP [.int 0 t5, .bool true]), (Ma, lstP ws), (Ga, lstP []), (Ra, lstP ws), (Sa, litP Ra 0)]) ?_ (B.perm (by walk_at "pm")) ?_
  · rintro i v l' cs' G' s' E hi hv ⟨ad, τ, σ, rv, W, F', H, h1, h2, h3, rfl⟩ B'
    obtain ⟨x, t, rfl, hx⟩ := hint i v hv
    refine wpAny_mono (main_step (x := x) (tx := t) (rest := [(it, litP c (i + 1)), (c, lstP ([.int 3 t1, .int 12 t2, .int 13 t3, .int 4 t4] ++ vs))]) T hE FS FI FG U (F'.put (Str.ofString "x") (.int x t) (by decide +kernel)) rfl H (by omega) (by omega) ?_ (B'.perm (by walk_at "pm"))) (fun fl s'' h'' => ?_) fun _ _ e => e
    · by_cases h0 : 0 < i
      · exact .inl (h3 h0)
      · exact .inr (hx (by omega))
    · obtain ⟨rfl, l₂, ad₂, τ₂, σ₂, rv₂, W₂, G₂, F₂, H₂, a1, a2, a3, a4, B₂⟩ := h''
      exact ⟨rfl, l₂, _, G₂, ⟨ad₂, τ₂, σ₂, rv₂, W₂, F₂, H₂, by omega, by omega, fun _ => a4, rfl⟩, B₂.perm (by walk_at "pm")⟩
  · refine ⟨⟨Pa, Sha, Ma, Ga, Ra, Sa, fun _ => 0, fun _ => 0, fun _ => 0, fun _ => 0, fun _ => 0, fun _ => 0⟩, ⟨fun _ => 0, fun _ => 0, fun _ => 0, t5, ws⟩, fun _ => false, ws, W0, F _ rfl rfl rfl rfl rfl rfl, ⟨W0_ok, W0_tx, hw, hw, ⟨fun k d hk => by simp [W0] at hk, fun i j hi => by simp [W0] at hi, fun k d hk => by simp [W0] at hk⟩, fun i hi => by simp [W0] at hi, rfl⟩, by decide, by decide, fun h => by omega, rfl⟩
  · rintro l' cs' G' s' ⟨ad, τ, σ, rv, W, F', H, h1, h2, h3, rfl⟩ B'
    exact h W.gs.length l' _ G' s' (by omega) ⟨ad, τ, σ, rv, W, F', H, by omega, rfl, (List.append_nil _).symm⟩ B'
theorem law_walk {a : Addr} {vs : List Value} {ns : List Int} {E : Value → Shared → Prop} (T : Tp2 h₁ mg mb) (hE : Er h₁ 24 23) (FS : Fs h₁ cI cD cT cR) (FI : Fn h₁ 42 "_law_item" prItem bdItem scItem cI) (FG : Gn h₁ D cdg) (U : Und h₁ A L cd)
    (hl : h₁.IsList a vs.toArray) (hi : IntsAre vs ns) (hz : vs.length ≤ 63) (B : Sh h₁ os [(L, nsP (frm [(Str.ofString "script", .ref a)]))] #[] s) :
    wpAny (model PP w) A (execs bdLaw (lEnv L cd)) (fun fl s' => fl = .ret (.bool true) ∧ ∃ cs' G', AllBare G' ∧ Sh h₁ os cs' G' s') E s := by
  have hh := U.hh
  have hun := U.un
  have hdep := U.dep
  refine wpAny_execs_cons ?_
  repeat walk_at "v"
  refine wpAny_execs_cons ?_
  repeat walk_at "v"
  refine' r_listOf ?k1 ?k2 ?k3 ?_
  case k1 => assumption
  case k2 => exact Sh.get (by assumption) (.tail _ (.head _))
  case k3 => rw [sizeLine_eq]; show (7 : Nat) ≤ 16777216; decide
  intro M s B
  repeat walk_at "v"
  refine wpAny_execs_cons ?_
  repeat walk_at "v"
  refine r_iter ?_
  refine i_list (by assumption) (Sh.get (by assumption) (.tail _ (.tail _ (.head _)))).lst ?_
  intro S s B
  have B := B.perm (.swap ..)
  repeat walk_at "v"
  refine wpAny_execs_cons ?_
  repeat walk_at "v"
  refine wpAny_execs_cons ?_
  repeat walk_at "v"
  refine wpAny_execs_cons ?_
  repeat walk_at "v"
  refine wpAny_execs_cons ?_
  refine wpAny_For ?_
  repeat walk_at "v"
  have hl' : ∀ {cs : Cels} {s : Shared}, Sh h₁ os cs #[] s → s.heap.IsList a vs.toArray := fun B' => let ⟨o, ho, r⟩ := hl; ⟨o, B'.hp.old _ _ ho, r⟩
  refine' r_addL ?k1 ?k2 ?k4 ?k3 ?_
  case k1 => assumption
  case k2 => exact (Sh.get (by assumption) (.tail _ (.head _))).lst
  case k4 => exact hl' (by assumption)
  case k3 => rw [sizeLine_eq]; show 4 + vs.length ≤ _; omega
  intro c s B
  refine i_list B (B.get (.tail _ (.head _))).lst ?_
  intro it s B
  have B1 := B.perm (.swap ..)
  have B2 := B1.perm (List.Perm.cons _ (List.Perm.cons _ (List.Perm.cons _ (List.perm_middle (l₁ := [_, _, _, _, _, _])).symm)))
  have hdel := B2.sub (cs' := _ :: _ :: _ :: _ :: _ :: _ :: _ :: _ :: _ :: []) (.cons_cons _ (.cons_cons _ (.cons_cons _ (.cons_cons _ (.cons_cons _ (.cons_cons _ (.cons_cons _ (.cons_cons _ (.cons_cons _ (.cons _ .slnil))))))))))
  refine main_loop T hE FS FI FG U hi hz ?hw ?F hdel ?_
  case hw => exact .cons ⟨_, rfl⟩ (.cons ⟨_, rfl⟩ (.cons ⟨_, rfl⟩ (.cons ⟨_, rfl⟩ (.cons ⟨_, rfl⟩ (.cons ⟨_, rfl⟩ (.cons ⟨_, rfl⟩ .nil))))))
  case F =>
    rintro ⟨P, Sh, M, G, R, S, _⟩ e1 e2 e3 e4 e5 e6
    dsimp only at e1 e2 e3 e4 e5 e6
    subst e1 e2 e3 e4 e5 e6
    exact ⟨rfl, rfl, rfl, rfl, rfl, rfl⟩
  intro n l' cs G' s' hn R' B'
  exact fin_walk T hE FS U hn R' B'
end
end
section
theorem lookup_mem : ∀ {l : List (Str × Value)} {x : Str} {v : Value}, l.lookup x = some v → (x, v) ∈ l
  | (y, u) :: l, x, v, h => by
    rw [List.lookup_cons] at h
    by_cases e : x = y
    · subst e
      rw [beq_self_eq_true] at h
      cases h
      exact .head _
    · have : (x == y) = false := by simpa using e
      rw [this] at h
      exact .tail _ (lookup_mem h)
theorem tp_of {glV biV : List (Str × Value)} {h : Heap} {mg mb : Str → Option Value} (g : h.Ns mainGlobals mg) (b : h.Ns builtinsNs mb) (lim : h.NoLimit) (hb : ∀ x : Str, x ≠ "__name__" → mb x = bootBuiltins x)
    (h1 : ∀ p ∈ glV, mg p.1 = some p.2) (h2 : ∀ p ∈ biV, mg p.1 = none ∧ p.1 ≠ "__name__" ∧ bootBuiltins p.1 = some p.2) : Tp glV biV h mg mb :=
  ⟨g, b, lim, fun x v e => h1 _ (lookup_mem e), fun x v e => have z := h2 _ (lookup_mem e); ⟨z.1, (hb x z.2.1).trans z.2.2⟩⟩
theorem ns_at {h : Heap} {a : Addr} {o : Obj} {es : Array DictEntry} {ep : Nat} {m : Str → Option Value} (g : h.Ns a m) (ho : h.get? a = some o) (hd : o.data = .dict es ep) (x : Str) : m x = nsFind es x := by
  obtain ⟨o', es', ep', ho', hd', _, hf⟩ := g
  rw [ho] at ho'
  cases ho'
  rw [hd] at hd'
  cases hd'
  exact (hf x).symm
theorem ns_of {h : Heap} {a : Addr} {o : Obj} {es : Array DictEntry} {ep : Nat} (ho : h.get? a = some o) (hd : o.data = .dict es ep) (hk : ∀ e ∈ es.toList, ∃ n t, e.key = .str n t) : h.Ns a (nsFind es) :=
  ⟨o, es, ep, ho, hd, fun e m => hk e (by simpa using m), fun _ => rfl⟩
theorem post_ok {args : List WData} : PySem.Challenge.rw_dn0164_02.row.claim.post args (.bool true) args = true := by
  show (WShape.has [] (WData.bool true) .bool && WTm.holds [] (.eq .res (.lit (.bool true))) { args := args, res := some (WData.bool true), after := args }) = true
  rw [Bool.and_eq_true]
  have hs : W.same (WData.bool true) (WData.bool true) = true := by decide +kernel
  refine ⟨by decide +kernel, ?_⟩
  unfold WTm.holds
  simp only [WTm.value, hs]
/-- the law is called -/
theorem law_call {w : World} {s₁ : Shared} {cdg cI cD cT cR cL : Value} {mg mb : Str → Option Value} {D a : Addr} {vs : List Value} {ns : List Int} {Q : Value → Shared → Prop} {E : Value → Shared → Prop} (T : Tp2 s₁.heap mg mb) (hE : Er s₁.heap 24 23) (FS : Fs s₁.heap cI cD cT cR) (FI : Fn s₁.heap 42 "_law_item" prItem bdItem scItem cI) (FG : Gn s₁.heap D cdg) (FL : Fn s₁.heap 70 "law" prLaw bdLaw scLaw cL)
    (hg : s₁.gens = #[]) (hl : s₁.heap.IsList a vs.toArray) (hi : IntsAre vs ns) (hz : ns.length ≤ 63)
    (h : ∀ s', (∀ b o, s₁.heap.get? b = some o → s'.heap.get? b = some o) → s'.os = s₁.os → AllBare s'.gens → Q (.bool true) s') :
    wpAny (model PP w) callerA (call (.ref 70) [.ref a]) Q E s₁ := by
  have B : Sh s₁.heap s₁.os [] #[] s₁ := ⟨.start, hg, rfl⟩
  refine wpAny_call ?_
  refine call_fn (binds := [("script", .ref a)]) (m := frm [(Str.ofString "script", .ref a)]) FL B (by decide) (fun _ _ => rfl) (locs rfl) rfl ?_ (by decide +kernel) (by decide +kernel) (by decide +kernel) (by decide +kernel)
  intro L s B
  refine wpAny_mono (law_walk T hE FS FI FG ⟨rfl, rfl, by show 301 + 1 + 400 < 1000; decide, by show 4 + 3 + 200 < 9900; decide⟩ hl hi (by rw [hi.length]; exact hz) B) (fun fl s' h' => ?_) fun _ _ e => e
  obtain ⟨rfl, cs', G', hb, B'⟩ := h'
  exact h s' B'.hp.old B'.os (by rw [B'.gens]; exact hb)
end
end Mine
set_option maxHeartbeats 8000000 in
theorem PySem.Challenge.cw_dn0164_02_holds : PySem.Challenge.rw_dn0164_02.Holds := by
  w_on; o_law; k_head; (case hw => w_witness2)
  k_fill
  intro w s₀ s₁ mg mb G Y fa o pm cd doc dV kV ho hd hcd hD hmg hg args vals as hpre hlay hrd hwl hlo
  have KX := kIn_of Y
  refine Ground.open G ?_
  intro T B D TE TW
  wrow_args hpre hlay hrd hwl hlo
  have hns := Mine.ns_at T.g (KX 3 _ rfl) rfl
  have hfa : fa = 70 := by
    have e := (hns _).symm.trans hmg
    have e' : some (Value.ref 70) = some (Value.ref fa) := e
    cases e'
    rfl
  subst hfa
  refine Mine.law_call (mg := mg) (mb := mb) (D := 28) (cdg := .ref 34) (cI := .ref 41) (cD := .ref 48) (cT := .ref 55) (cR := .ref 62) (cL := .ref 69) ?T ?E ?FS ?FI ?FG ?FL hg (by assumption) (by assumption) ?hz ?_
  case T =>
    refine Mine.tp_of T.g T.b T.nolimit T.builtins ?_ ?_
    · intro p hp
      simp only [Mine.gl2, List.mem_cons, List.not_mem_nil, or_false] at hp
      rcases hp with rfl | rfl | rfl | rfl | rfl | rfl <;> exact (hns _).trans rfl
    · intro p hp
      simp only [Mine.bi2, List.mem_cons, List.not_mem_nil, or_false] at hp
      rcases hp with rfl | rfl | rfl | rfl | rfl | rfl | rfl | rfl | rfl | rfl | rfl <;> refine ⟨(hns _).trans rfl, ?_, ?_⟩ <;> decide +kernel
  case E => exact ⟨⟨_, _, _, _, _, _, _, _, _, _, _, _, _, _, KX 24 _ rfl⟩, _, Mine.ns_of (KX 23 _ rfl) rfl (by simp), rfl, rfl⟩
  case FI => exact ⟨⟨_, _, _, KX 42 _ rfl, rfl⟩, ⟨41, _, _, _, rfl, KX 41 _ rfl, rfl, rfl⟩, T.nolimit⟩
  case FS => exact ⟨⟨⟨_, _, _, KX 49 _ rfl, rfl⟩, ⟨48, _, _, _, rfl, KX 48 _ rfl, rfl, rfl⟩, T.nolimit⟩, ⟨⟨_, _, _, KX 56 _ rfl, rfl⟩, ⟨55, _, _, _, rfl, KX 55 _ rfl, rfl, rfl⟩, T.nolimit⟩, ⟨⟨_, _, _, KX 63 _ rfl, rfl⟩, ⟨62, _, _, _, rfl, KX 62 _ rfl, rfl, rfl⟩, T.nolimit⟩⟩
  case FG => exact ⟨⟨_, _, _, KX 35 _ rfl, rfl⟩, ⟨_, _, _, KX 28 _ rfl, rfl⟩, ⟨34, _, _, _, rfl, KX 34 _ rfl, rfl, rfl⟩⟩
  case FL => exact ⟨⟨_, _, _, KX 70 _ rfl, rfl⟩, ⟨69, _, _, _, rfl, KX 69 _ rfl, rfl, rfl⟩, T.nolimit⟩
  case hz => omega
  intro s' h1 h2 h3
  exact ⟨.inl ⟨.bool true, .bool true, [], rfl, fun cls => rfl, .bool true, Mine.post_ok, fun _ => ⟨.nil, fun _ m => nomatch m⟩⟩, .of_keep h1, h2, h3⟩
