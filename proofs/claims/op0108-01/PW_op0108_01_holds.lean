import PyProof.Rows.All
import Wide.All
import OpenK.AllK
import Wide.FinOn
import PySem.Challenge.RW_op0108_01
set_option Elab.async false

-- the head
section
open PySem PySem.W PyProof.Rows
set_option Elab.async false
set_option maxRecDepth 100000
set_option maxHeartbeats 0
local macro_rules | `(tactic| o_head (kHook $k $a $e)) => `(tactic| set_option synthInstance.maxSize 1 in o_head (kmHook $k $a $e [140, 147]))
open_top hd for PySem.Challenge.rw_op0108_01
end

-- Eng1
section
open PySem PySem.W PySem.W.X PyProof.Rows PySem.Calls
set_option Elab.async false
set_option maxRecDepth 100000
set_option linter.unusedVariables false
namespace Mine
/-- what is read of the module's top, with the module of the built-ins -/
structure TR (p : Program) (loose : List Str) (mg mb : Str → Option Value) (h : Heap) : Prop extends TopRead p loose mg mb h where
  bm : ∃ bm ob, BMod h mainGlobals mg bm ob
theorem TR.keeps {p : Program} {loose : List Str} {mg mb : Str → Option Value} {h h' : Heap} (T : TR p loose mg mb h) (hk : ∀ b o, h.get? b = some o → h'.get? b = some o) : TR p loose mg mb h' :=
  ⟨T.toTopRead.keeps hk, let ⟨a, b, c⟩ := T.bm; ⟨a, b, c.keeps hk⟩⟩
/-- what a run leaves of h: the listed objects as told, all else as it was -/
def Chg (h h' : Heap) (l : List (Addr × Obj)) : Prop :=
  (∀ q ∈ l, h'.get? q.1 = some q.2) ∧ ∀ b o, h.get? b = some o → b ∉ l.map (·.1) → h'.get? b = some o

theorem locs0 {names : List (Str × NameKind)} {ks : List Str} {vs : List Value} (h : (ks.all fun k => decide (names.lookup k = some .local)) = true) : ∀ x ∈ ks.zip vs, names.lookup x.1 = some .local := by
  intro x hx
  have := List.all_eq_true.mp h x.1 (List.of_mem_zip hx).1
  exact of_decide_eq_true this

theorem enter {prog : Program} {w : World} {A : Around} {R : Result → Shared → Prop} {h hb : Heap} {gg : Array GenState} {d : Drawn} {tk : Nat} {os : OsState} {K : Frag} {p : Program} {loose : List Str} {mg mb : Str → Option Value} {own : List (Addr × Obj)}
    {f : Addr} {name qual : Str} {params : Arguments} {body : List Stmt} {scope : Scope} {dV kV doc pm cdv ct oc : Value} {an od : Option Addr} {osl : Array (Option Value)} {args : Args} {binds : List (Str × Value)}
    (X : K.In hb) (T : TR p loose mg mb hb) (hk : ∀ b o, hb.get? b = some o → h.get? b = some o)
    (hown : ∀ q ∈ own, h.get? q.1 = some q.2 ∧ hb.get? q.1 = none)
    (ho : K.lookup f = some ⟨oc, od, .func (fnOf name qual params body scope dV kV doc pm an cdv ct), osl⟩) (hcd : codeIn K cdv qual = true) (hroom : A.depth < recursionLimit)
    (hbind : BindsTo ⟨h, gg, d, tk, os⟩ (fnOf name qual params body scope dV kV doc pm an cdv ct) args binds)
    (hcell : ∀ x ∈ scope.names, x.2 ≠ .cell) (hloc : ∀ y ∈ binds, scope.names.lookup y.1 = some .local)
    (run : ∀ g L h₁, K.In g → TR p loose mg mb g → Fr g L h₁ (fun x => binds.reverse.lookup x) → News g L h₁ own → (∀ b o, h.get? b = some o → b ∉ own.map (·.1) → g.get? b = some o) → L = h.objs.size →
      wpAny (model prog w) (A.deeper (envOf qual scope L f cdv)) (execs body (envOf qual scope L f cdv)) (fun fl s' => R (.ok (.ret (match fl with | .ret v => v | _ => .none))) s')
        (fun e s' => wpAny (model prog w) (A.deeper (envOf qual scope L f cdv)) (leaving (envOf qual scope L f cdv) e) (fun _ s'' => R (.error e) s'') (fun e' s'' => R (.error e') s'') s')
        ⟨h₁, gg, d, tk + binds.length, os⟩)
    (hco : scope.isCoroutine = false := by rfl) (hgen : scope.isGenerator = false := by rfl) (hk' : scope.kind = .function := by rfl) :
    codeAny (model prog w) A (.call (.ref f) args) R ⟨h, gg, d, tk, os⟩ := by
  refine codeAny_call_def (fd := fnOf name qual params body scope dV kV doc pm an cdv ct) (body := body) hroom (hk _ _ (X _ _ ho)) rfl (T.nolimit.keeps hk) (codeRec_of (X.keeps hk) hcd) rfl hbind hcell hloc (fun h₁ hns hk₁ => ?_) hco hgen hk'
  have st : ∀ b o, hb.get? b = some o → (hideAll h (own.map (·.1))).get? b = some o := fun b o e => hideAll_get _ (hk b o e) fun q => by
    obtain ⟨q', hq, rfl⟩ := List.mem_map.mp q
    rw [(hown q' hq).2] at e; cases e
  refine run (hideAll h (own.map (·.1))) h.objs.size h₁ (X.keeps st) (T.keeps st) ⟨hns, fun b o e => hk₁ b o (of_hideAll _ e), Nat.le_of_eq (hideAll_size _ _)⟩
    (fun q hq => ⟨hk₁ _ _ (hown q hq).1, Nat.ne_of_lt (Heap.lt_size (hown q hq).1), hideAll_none _ (List.mem_map_of_mem hq)⟩)
    (fun b o e n => hideAll_get _ e n) rfl

theorem Chg.of {h g h' : Heap} {L : Addr} {m : Str → Option Value} {own own' l : List (Addr × Obj)} (k : ∀ b o, h.get? b = some o → b ∉ own.map (·.1) → g.get? b = some o) (F : Fr g L h' m) (N : News g L h' own') (hs : ∀ q ∈ l, q ∈ own')
    (hl : ∀ q ∈ own, q.1 ∈ l.map (·.1)) : Chg h h' l := by
  refine ⟨fun q hq => (N q (hs q hq)).1, fun b o e n => F.keep b o (k b o e fun hb => n ?_)⟩
  obtain ⟨q, hq, rfl⟩ := List.mem_map.mp hb
  exact hl q hq
end Mine
end

-- Eng2
section
open PySem PySem.W PySem.W.X PyProof.Rows PySem.Calls
set_option Elab.async false
set_option maxRecDepth 100000
set_option linter.unusedVariables false
namespace Mine
/-- the frame L with its locals m, the objects of the run so far (news), all over the ground g -/
structure St (g : Heap) (L : Addr) (m : Str → Option Value) (h : Heap) (news : List (Addr × Obj)) : Prop where
  F : Fr g L h m
  N : News g L h news
  nd : (news.map (·.1)).Nodup

/-- an entry's object changed -/
inductive Up (a : Addr) (o o' : Obj) : List (Addr × Obj) → List (Addr × Obj) → Prop
  | head {r} : Up a o o' ((a, o) :: r) ((a, o') :: r)
  | tail {p r r'} : Up a o o' r r' → Up a o o' (p :: r) (p :: r')
theorem Up.mem {a : Addr} {o o' : Obj} : ∀ {l l' : List (Addr × Obj)}, Up a o o' l l' → (a, o) ∈ l
  | _, _, .head => .head _
  | _, _, .tail r => .tail _ r.mem
theorem Up.mem' {a : Addr} {o o' : Obj} : ∀ {l l' : List (Addr × Obj)}, Up a o o' l l' → (a, o') ∈ l'
  | _, _, .head => .head _
  | _, _, .tail r => .tail _ r.mem'
theorem Up.ex {a : Addr} {o : Obj} (o' : Obj) : ∀ {l : List (Addr × Obj)}, (a, o) ∈ l → ∃ l', Up a o o' l l'
  | p :: r, h => by
    rcases List.mem_cons.mp h with rfl | h
    · exact ⟨_, .head⟩
    · obtain ⟨l', u⟩ := Up.ex o' h
      exact ⟨_, .tail u⟩
theorem Up.keys {a : Addr} {o o' : Obj} : ∀ {l l' : List (Addr × Obj)}, Up a o o' l l' → l'.map (·.1) = l.map (·.1)
  | _, _, .head => rfl
  | _, _, .tail r => by simp [r.keys]
theorem Up.of {a : Addr} {o o' : Obj} : ∀ {l l' : List (Addr × Obj)}, Up a o o' l l' → (l.map (·.1)).Nodup → ∀ p ∈ l', (p = (a, o')) ∨ (p ∈ l ∧ p.1 ≠ a)
  | _, _, .head, nd, p, hp => by
    rw [List.map_cons, List.nodup_cons] at nd
    rcases List.mem_cons.mp hp with rfl | hp
    · exact .inl rfl
    · exact .inr ⟨.tail _ hp, fun e => nd.1 (List.mem_map.mpr ⟨p, hp, e⟩)⟩
  | _, _, .tail (p := q) r, nd, p, hp => by
    rw [List.map_cons, List.nodup_cons] at nd
    rcases List.mem_cons.mp hp with rfl | hp
    · exact .inr ⟨.head _, fun e => nd.1 (List.mem_map.mpr ⟨_, r.mem, e.symm⟩)⟩
    · rcases r.of nd.2 p hp with e | ⟨e, n⟩
      · exact .inl e
      · exact .inr ⟨.tail _ e, n⟩

section
variable {g h : Heap} {L : Addr} {m : Str → Option Value} {news : List (Addr × Obj)}
theorem St.get (S : St g L m h news) {a : Addr} {o : Obj} (hm : (a, o) ∈ news) : h.get? a = some o := (S.N _ hm).1
theorem St.base {K : Frag} (S : St g L m h news) (X : K.In g) {a : Addr} {o : Obj} (e : K.lookup a = some o) : h.get? a = some o := S.F.keep _ _ (X _ _ e)
theorem St.K {K : Frag} (S : St g L m h news) (X : K.In g) : K.In h := X.keeps S.F.keep
theorem St.push (S : St g L m h news) {o : Obj} (hf : o.isFreed = false) : St g L m (h.push o) ((h.objs.size, o) :: news) :=
  ⟨S.F.push o, S.N.push S.F o hf, by
    rw [List.map_cons, List.nodup_cons]
    refine ⟨fun q => ?_, S.nd⟩
    obtain ⟨p, hp, e⟩ := List.mem_map.mp q
    exact Nat.lt_irrefl _ (e ▸ Heap.lt_size (S.N p hp).1)⟩
theorem St.upd (S : St g L m h news) {a : Addr} {o o' : Obj} {f : Obj → Obj} {news' : List (Addr × Obj)} (U : Up a o o' news news') (e : f o = o') (hf : o'.isFreed = false) : St g L m (h.update a f) news' := by
  have z := S.N _ U.mem
  have hs : Heap.SameBut a h (h.update a f) := Heap.SameBut.update ..
  have ge : (h.update a f).get? a = some o' := by subst e; exact Heap.get?_update_self _ z.1 hf
  refine ⟨S.F.change hs z.2.1 z.2.2, fun p hp => ?_, by rw [U.keys]; exact S.nd⟩
  rcases U.of S.nd p hp with rfl | ⟨hp', n⟩
  · exact ⟨ge, z.2⟩
  · have y := S.N p hp'
    exact ⟨(hs.2 _ n).trans y.1, y.2⟩
theorem St.set (S : St g L m h news) {h' : Heap} {m' : Str → Option Value} (hn : h'.Ns L m') (hs : Heap.SameBut L h h') : St g L m' h' news :=
  ⟨S.F.set hn hs, fun p hp => ⟨(hs.2 _ (S.N p hp).2.1).trans (S.N p hp).1, (S.N p hp).2⟩, S.nd⟩
end

section
variable {α : Type} {M : Model} {A : Around} {E : Value → Shared → Prop} {gg : Array GenState} {d : Drawn} {tk : Nat} {os : OsState} {g h : Heap} {L : Addr} {m : Str → Option Value} {news : List (Addr × Obj)}
theorem St.own (S : St g L m h news) {a : Addr} {o : Obj} (hm : (a, o) ∈ news) : h.get? a = some o ∧ g.get? a = none := ⟨(S.N _ hm).1, (S.N _ hm).2.2⟩
theorem St.drop {p : Addr × Obj} (S : St g L m h (p :: news)) : St g L m h news := ⟨S.F, fun q hq => S.N q (.tail _ hq), (List.nodup_cons.mp S.nd).2⟩
theorem St.lt (S : St g L m h news) : L < h.objs.size := by
  obtain ⟨o, es, ep, e, _⟩ := S.F.ns
  exact Heap.lt_size e
theorem r_alloc {o : Obj} {Q : Addr → Shared → Prop} (S : St g L m h news) (hf : o.isFreed = false) (k : ∀ a h', St g L m h' ((a, o) :: news) → L < a → Q a ⟨h', gg, d, tk, os⟩) : wpAny M A (alloc o) Q E ⟨h, gg, d, tk, os⟩ :=
  wpAny_alloc (k _ _ (S.push hf) S.lt)
theorem r_newObj {T : String} {data : Data} {dict : Option Addr} {Q : Value → Shared → Prop} (S : St g L m h news) (hf : (⟨.type T, dict, data, #[]⟩ : Obj).isFreed = false) (hd : sizeOk data)
    (k : ∀ a h', St g L m h' ((a, ⟨.type T, dict, data, #[]⟩) :: news) → L < a → Q (.ref a) ⟨h', gg, d, tk, os⟩) : wpAny M A (newObj (.type T) data dict) Q E ⟨h, gg, d, tk, os⟩ :=
  wpAny_newObj_type (k _ _ (S.push hf) S.lt) hd
theorem r_newTuple {vs : List Value} {Q : Value → Shared → Prop} (S : St g L m h news) (hd : vs.length ≤ sizeLine)
    (k : ∀ a h', St g L m h' ((a, ⟨.type "tuple", none, .seq vs.toArray 0, #[]⟩) :: news) → L < a → Q (.ref a) ⟨h', gg, d, tk, os⟩) : wpAny M A (newTuple vs) Q E ⟨h, gg, d, tk, os⟩ :=
  r_newObj S rfl (by show vs.toArray.size ≤ sizeLine; rw [List.size_toArray]; exact hd) k
theorem r_newList {vs : List Value} {Q : Value → Shared → Prop} (S : St g L m h news) (hd : vs.length ≤ sizeLine)
    (k : ∀ a h', St g L m h' ((a, ⟨.type "list", none, .seq vs.toArray 0, #[]⟩) :: news) → L < a → Q (.ref a) ⟨h', gg, d, tk, os⟩) : wpAny M A (newList vs) Q E ⟨h, gg, d, tk, os⟩ :=
  r_newObj S rfl (by show vs.toArray.size ≤ sizeLine; rw [List.size_toArray]; exact hd) k
theorem r_update {a : Addr} {o o' : Obj} {f : Obj → Obj} {news' : List (Addr × Obj)} {Q : Unit → Shared → Prop} (S : St g L m h news) (U : Up a o o' news news') (e : f o = o') (hf : o'.isFreed = false)
    (k : ∀ h', St g L m h' news' → Q () ⟨h', gg, d, tk, os⟩) : wpAny M A (update a f) Q E ⟨h, gg, d, tk, os⟩ := wpAny_updatePart (S.get U.mem) (k _ (S.upd U e hf))
theorem r_updatePart {a : Addr} {p : Option Value} {o o' : Obj} {f : Obj → Obj} {news' : List (Addr × Obj)} {Q : Unit → Shared → Prop} (S : St g L m h news) (U : Up a o o' news news') (e : f o = o') (hf : o'.isFreed = false)
    (k : ∀ h', St g L m h' news' → Q () ⟨h', gg, d, tk, os⟩) : wpAny M A (updatePart a p f) Q E ⟨h, gg, d, tk, os⟩ := wpAny_updatePart (S.get U.mem) (k _ (S.upd U e hf))
theorem r_ld {env : Env} {x : Str} {v : Value} {Q : Value → Shared → Prop} (S : St g L m h news) (hk : env.scope.kind = .function) (hl : env.kindOf x = some .local) (he : env.locals = L) (hv : m x = some v) (k : Q v ⟨h, gg, d, tk, os⟩) :
    wpAny M A (loadName env x) Q E ⟨h, gg, d, tk, os⟩ := wpAny_loadName_local hk hl (he ▸ S.F.ns) hv k
theorem r_st {env : Env} {x : Str} {v : Value} {Q : Unit → Shared → Prop} (S : St g L m h news) (hl : env.kindOf x = some .local) (he : env.locals = L)
    (hp : (env.scope.kind == .class || (env.scope.kind == .module && env.locals != env.globals)) = false)
    (k : ∀ h' tk', St g L (fun y => if y = x then some v else m y) h' news → Q () ⟨h', gg, d, tk', os⟩) : wpAny M A (storeName env x v) Q E ⟨h, gg, d, tk, os⟩ :=
  wpAny_storeName_local hl (by rw [he]; exact S.F.ns) (fun h' hn hs => k h' _ (S.set (he ▸ hn) (he ▸ hs))) hp
end


/-- what a call leaves: ch changed, nw new, all else as it was -/
structure Post (h h' : Heap) (ch nw : List (Addr × Obj)) : Prop where
  hc : ∀ q ∈ ch, h'.get? q.1 = some q.2
  hn : ∀ q ∈ nw, h'.get? q.1 = some q.2 ∧ h.objs.size ≤ q.1
  nd : (nw.map (·.1)).Nodup
  keep : ∀ b o, h.get? b = some o → b ∉ ch.map (·.1) → h'.get? b = some o
inductive Ups : List (Addr × Obj) → List (Addr × Obj) → List (Addr × Obj) → Prop
  | nil {l} : Ups [] l l
  | cons {a o o' r l l' l''} : Up a o o' l l' → Ups r l' l'' → Ups ((a, o') :: r) l l''
theorem Ups.keys : ∀ {c l l' : List (Addr × Obj)}, Ups c l l' → l'.map (·.1) = l.map (·.1)
  | _, _, _, .nil => rfl
  | _, _, _, .cons u r => r.keys.trans u.keys
theorem Ups.sub {c l l' : List (Addr × Obj)} (U : Ups c l l') : ∀ q ∈ c, q.1 ∈ l.map (·.1) := by
  induction U with
  | nil => intro q hq; cases hq
  | cons u r ih =>
    intro q hq
    rcases List.mem_cons.mp hq with rfl | m
    · exact List.mem_map.mpr ⟨_, u.mem, rfl⟩
    · rw [← u.keys]; exact ih q m
theorem Up.into {a : Addr} {o o' : Obj} : ∀ {l l' : List (Addr × Obj)}, Up a o o' l l' → ∀ p ∈ l', p = (a, o') ∨ p ∈ l
  | _, _, .head, p, hp => (List.mem_cons.mp hp).elim .inl fun h => .inr (.tail _ h)
  | _, _, .tail r, p, hp => (List.mem_cons.mp hp).elim (fun h => .inr (h ▸ .head _)) fun h => (r.into p h).elim .inl fun h => .inr (.tail _ h)
/-- every entry behind the changes is a changed one or an elder one away from them -/
theorem Ups.of {c l l' : List (Addr × Obj)} (U : Ups c l l') : (l.map (·.1)).Nodup → ∀ p ∈ l', p ∈ c ∨ (p ∈ l ∧ p.1 ∉ c.map (·.1)) := by
  induction U with
  | nil => intro _ p hp; exact .inr ⟨hp, by simp⟩
  | cons u r ih =>
    intro nd p hp
    rcases ih (by rw [u.keys]; exact nd) p hp with h | ⟨h, n⟩
    · exact .inl (.tail _ h)
    · rcases u.of nd p h with rfl | ⟨h', n'⟩
      · exact .inl (.head _)
      · refine .inr ⟨h', ?_⟩
        rw [List.map_cons, List.mem_cons]
        rintro (e | e)
        · exact n' e
        · exact n e
theorem St.post {g h h' : Heap} {L : Addr} {m : Str → Option Value} {news news' ch nw : List (Addr × Obj)} (S : St g L m h news) (P : Post h h' ch nw) (U : Ups ch news news') : St g L m h' (nw ++ news') := by
  have off : ∀ q ∈ ch, q.1 ≠ L ∧ g.get? q.1 = none := fun q hq => by
    obtain ⟨p, hp, e⟩ := List.mem_map.mp (U.sub q hq)
    rw [← e]; exact (S.N p hp).2
  have cL : L ∉ ch.map (·.1) := fun q => by
    obtain ⟨p, hp, e⟩ := List.mem_map.mp q
    exact (off p hp).1 e
  have kp : ∀ b o, g.get? b = some o → h'.get? b = some o := fun b o e => P.keep b o (S.F.keep b o e) fun q => by
    obtain ⟨p, hp, e'⟩ := List.mem_map.mp q
    have := (off p hp).2
    rw [e', e] at this; cases this
  obtain ⟨oL, es, ep, eL, r⟩ := S.F.ns
  refine ⟨⟨⟨oL, es, ep, P.keep _ _ eL cL, r⟩, kp, S.F.above⟩, fun p hp => ?_, ?_⟩
  · rcases List.mem_append.mp hp with hp | hp
    · have y := P.hn p hp
      refine ⟨y.1, fun e => ?_, ?_⟩
      · exact Nat.lt_irrefl _ (Nat.lt_of_lt_of_le (e ▸ S.lt) (e ▸ y.2))
      · cases q : g.get? p.1 with
        | none => rfl
        | some o => exact absurd (Heap.lt_size (S.F.keep _ _ q)) (Nat.not_lt.mpr y.2)
    · rcases U.of S.nd p hp with hc | ⟨hl, n⟩
      · exact ⟨P.hc p hc, off p hc⟩
      · exact ⟨P.keep _ _ (S.N p hl).1 n, (S.N p hl).2⟩
  · rw [List.map_append, List.nodup_append]
    refine ⟨P.nd, by rw [U.keys]; exact S.nd, fun a ha b hb e => ?_⟩
    obtain ⟨p, hp, rfl⟩ := List.mem_map.mp ha
    rw [U.keys] at hb
    obtain ⟨q, hq, rfl⟩ := List.mem_map.mp hb
    have h1 := (P.hn p hp).2
    have h2 := Heap.lt_size (S.N q hq).1
    exact Nat.lt_irrefl _ (Nat.lt_of_lt_of_le h2 (e ▸ h1))
theorem Post.of {g h h' : Heap} {L : Addr} {m : Str → Option Value} {own nf ch nw : List (Addr × Obj)} (hL : L = h.objs.size) (back : ∀ b o, h.get? b = some o → b ∉ own.map (·.1) → g.get? b = some o) (S : St g L m h' nf)
    (hc : ∀ q ∈ ch, q ∈ nf) (hn : ∀ q ∈ nw, q ∈ nf ∧ L < q.1) (nd : (nw.map (·.1)).Nodup) (ho : ∀ q ∈ own, q.1 ∈ ch.map (·.1) ∨ (q ∈ nf ∧ h.get? q.1 = some q.2)) : Post h h' ch nw := by
  refine ⟨fun q hq => S.get (hc q hq), fun q hq => ⟨S.get (hn q hq).1, hL ▸ Nat.le_of_lt (hn q hq).2⟩, nd, fun b o e n => ?_⟩
  by_cases hb : b ∈ own.map (·.1)
  · obtain ⟨q, hq, rfl⟩ := List.mem_map.mp hb
    rcases ho q hq with hh | ⟨hh, e'⟩
    · exact absurd hh n
    · rw [e'] at e; cases e; exact S.get hh
  · exact S.F.keep b o (back b o e hb)
theorem enter2 {prog : Program} {w : World} {A : Around} {R : Result → Shared → Prop} {h hb : Heap} {gg : Array GenState} {d : Drawn} {tk : Nat} {os : OsState} {K : Frag} {p : Program} {loose : List Str} {mg mb : Str → Option Value} {own : List (Addr × Obj)}
    {f : Addr} {name qual : Str} {params : Arguments} {body : List Stmt} {scope : Scope} {dV kV doc pm cdv ct oc : Value} {an od : Option Addr} {osl : Array (Option Value)} {args : Args} {binds : List (Str × Value)}
    (X : K.In hb) (T : TR p loose mg mb hb) (hk : ∀ b o, hb.get? b = some o → h.get? b = some o)
    (hown : ∀ q ∈ own, h.get? q.1 = some q.2 ∧ hb.get? q.1 = none) (nd : (own.map (·.1)).Nodup)
    (ho : K.lookup f = some ⟨oc, od, .func (fnOf name qual params body scope dV kV doc pm an cdv ct), osl⟩) (hcd : codeIn K cdv qual = true) (hroom : A.depth < recursionLimit)
    (hbind : BindsTo ⟨h, gg, d, tk, os⟩ (fnOf name qual params body scope dV kV doc pm an cdv ct) args binds)
    (hcell : ∀ x ∈ scope.names, x.2 ≠ .cell) (hloc : ∀ y ∈ binds, scope.names.lookup y.1 = some .local)
    (run : ∀ g L h₁ tk', K.In g → TR p loose mg mb g → St g L (fun x => binds.reverse.lookup x) h₁ own → (∀ b o, h.get? b = some o → b ∉ own.map (·.1) → g.get? b = some o) → L = h.objs.size →
      wpAny (model prog w) (A.deeper (envOf qual scope L f cdv)) (execs body (envOf qual scope L f cdv)) (fun fl s' => R (.ok (.ret (match fl with | .ret v => v | _ => .none))) s')
        (fun e s' => wpAny (model prog w) (A.deeper (envOf qual scope L f cdv)) (leaving (envOf qual scope L f cdv) e) (fun _ s'' => R (.error e) s'') (fun e' s'' => R (.error e') s'') s')
        ⟨h₁, gg, d, tk', os⟩)
    (hco : scope.isCoroutine = false := by rfl) (hgen : scope.isGenerator = false := by rfl) (hk' : scope.kind = .function := by rfl) :
    codeAny (model prog w) A (.call (.ref f) args) R ⟨h, gg, d, tk, os⟩ :=
  enter X T hk hown ho hcd hroom hbind hcell hloc (fun g L h₁ X' T' F N k e => run g L h₁ _ X' T' ⟨F, N, nd⟩ k e) hco hgen hk'
end Mine
end

-- Eng3
section
open PySem PySem.W PySem.W.X PyProof.Rows PySem.Calls PySem.Builtin PySem.Builtin.ObjectAttr
set_option Elab.async false
set_option maxRecDepth 100000
set_option linter.unusedVariables false
namespace Mine
theorem ent_list_ga : entryFor table "list.__getattribute__" = some PySem.Builtin.«object.__getattribute__» := PySem.F.entry_list_ga
theorem can_list_ga : (Manifest.canonical "list.__getattribute__" != "object.__getattribute__") = false := by decide +kernel
/-- a class of the text whose objects are read and written in the plain way -/
structure ClsOk (K : Frag) (C : Addr) : Prop where
  ga : findIn K (.ref C) "__getattribute__" = some (some (.builtin "object.__getattribute__")) ∨ (findIn K (.ref C) "__getattribute__" = some (some (.builtin "list.__getattribute__")) ∧ mroIn K C (.type "list") = some true)
  gt : findIn K (.ref C) "__getattr__" = some none
  sa : findIn K (.ref C) "__setattr__" = some (some (.builtin "object.__setattr__"))
  hd : hasDictIn K C = true
  ob : mroIn K C (.type "object") = some true
  ps : ∀ self, ∃ cd, clsIn K C = some cd ∧ refuseLoop self "__setattr__" cd.mro = pure ()

section
variable {prog : Program} {w : World} {A : Around} {E : Value → Shared → Prop} {gg : Array GenState} {d : Drawn} {tk : Nat} {os : OsState} {g h : Heap} {L : Addr} {m : Str → Option Value} {news news' : List (Addr × Obj)}
  {K : Frag} {C x dx : Addr} {ox : Obj} {es es' : List DictEntry} {n n' : Nat} {name : Str} {v : Value}

theorem inst_of (S : St g L m h news) (hm : (x, ox) ∈ news) (hc : ox.cls = .ref C) (hno : notCls ox = true) (hd : ox.dict = some dx) (hdm : (dx, dictOf es n) ∈ news) : W.InstAt h x ox C (some (dictOf es n)) :=
  ⟨S.get hm, hc, hno, by rw [hd]; exact S.get hdm⟩
theorem isInst {M : Model} {B : Value} (X : K.In h) (ho : h.get? x = some ox) (hc : ox.cls = .ref C) (hm : mroIn K C B = some true) : Looks M h (isInstance (.ref x) B) true :=
  (show Looks M h (typeOf (.ref x)) (.ref C) from hc ▸ (Looks.ld ho).andThen .now).andThen (looks_mroIn X hm)

theorem check_meth {M : Model} {s : Shared} {i owner nm : String} {self : Value} {rest : List Value} {kw : List (Str × Value)} {Q : Unit → Shared → Prop}
    (hk : builtinKind i = some .method) (hs : splitId i = some (owner, nm)) (hi : Looks M s.heap (isInstance self (.type owner)) true) (ha : argsOk i ⟨self :: rest, kw⟩) (q : Q () s) :
    wpAny M A (checkBuiltinCall i ⟨self :: rest, kw⟩) Q E s := by
  simp only [checkBuiltinCall, hk, hs]
  refine wpAny_bind (hi.here ?_)
  simp only [Bool.not_true, Bool.false_eq_true, if_false]
  cases hsig : Manifest.signature? i with
  | none => exact wpAny_pure q
  | some sig =>
    simp only [argsOk, hsig] at ha
    have h2 : Bind.checkArgs i sig ⟨self :: rest, kw⟩ = pure () := ha
    show wpAny M A (Bind.checkArgs i sig ⟨self :: rest, kw⟩) Q E _
    rw [h2]; exact wpAny_pure q

/-- a built-in method or slot called upon an object of the class of a class of the text -/
theorem code_bi {R : Result → Shared → Prop} {i owner nm : String} {b : PySem.Builtin} {self : Value} {rest : List Value} {s : Shared} (hp : plainId i = true) (he : entryFor table i = some b) (hk : builtinKind i = some .method ∨ builtinKind i = some .slot)
    (hs : splitId i = some (owner, nm)) (hi : Looks (model prog w) s.heap (isInstance self (.type owner)) true) (ha : argsOk i ⟨self :: rest, []⟩)
    (k : wpAny (model prog w) A.in1 (b ⟨self :: rest, []⟩) (fun fin s' => match fin with | .done f => R (.ok f) s' | .again c' => c'.quiet = true ∧ codeAny (model prog w) A c' R s') (fun e s' => R (.error e) s') s) :
    codeAny (model prog w) A (.call (.builtin i) ⟨self :: rest, []⟩) R s := by
  refine codeAny_call_builtin hp he ?_
  rcases hk with hk | hk
  · exact check_meth hk hs hi ha k
  · exact check_slot hk hs hi ha k


theorem r_getAttr {expr : Bool} {Q : Value → Shared → Prop} (c : ClsOk K C) (hn : findIn K (.ref C) name = some none) (S : St g L m h news) (X : K.In g) (hm : (x, ox) ∈ news) (hc : ox.cls = .ref C) (hno : notCls ox = true) (hd : ox.dict = some dx) (hdm : (dx, dictOf es n) ∈ news)
    (hl : getL name es = some (some v)) (hv : handedIn v = true) (k : Q v ⟨h, gg, d, tk + 1, os⟩) : wpAny (model prog w) A (getAttr (.ref x) name expr) Q E ⟨h, gg, d, tk, os⟩ := by
  have I := inst_of S hm hc hno hd hdm
  have hf := findObj_own (od := dictOf es n) c.hd hn (by rfl) hl
  have X' := S.K X
  rcases c.ga with ga | ⟨ga, ml⟩
  · exact get_value (s := ⟨h, gg, d, tk, os⟩) X' I ga hf hv k
  have T := I.type (M := model prog w)
  have L1 := looks_find (M := model prog w) X' I hf
  unfold getAttr getAttrBy
  refine wpAny_bind (wpAny_mkText (wpAny_holding (wpAny_bind (T.at (wpAny_bind ((looks_findIn X' ga).at ?_))))))
  show wpAny _ _ (getAttrByItsOwn (.ref x) (.str name tk) (.ref C) (.builtin "list.__getattribute__") true expr) _ _ _
  unfold getAttrByItsOwn
  refine wpAny_bind (m := hookBefore (.ref C)) ((show Looks (model prog w) h (hookBefore (.ref C)) none from looks_findIn X' c.gt).at (wpAny_bind (wpAny_attempt ?_)))
  have e1 : callGetattribute (.ref x) (.str name tk) (.builtin "list.__getattribute__") expr = boundAndCalled (.builtin "list.__getattribute__") (.ref x) (.str name tk) := by
    unfold callGetattribute
    rw [show onTheHeap (.builtin "list.__getattribute__") = false from rfl, Bool.and_false]; rfl
  rw [e1]
  refine wpAny_holding (wpAny_bind ?_)
  rw [PySem.F.slot_list_getattribute.bind]
  refine wpAny_pure (wpAny_call (code_bi PySem.F.slot_list_getattribute.plain ent_list_ga (.inr (by decide +kernel)) (owner := "list") (nm := "__getattribute__") (by decide +kernel) (isInst X' (S.get hm) hc ml) (by unfold argsOk; kernel_rfl) ?_))
  refine wpAny_bind (wpAny_pure (wpAny_bind (wpAny_pure (wpAny_bind (T.at (wpAny_bind (L1.at ?_)))))))
  refine wpAny_pure ?_
  show wpAny _ _ (handedOut v) _ _ _
  rw [handedOut_of hv]; exact wpAny_pure k
/-- a method that the class gives: a def of the text, or a built-in base's -/
theorem r_getMethod {pl : Sem Bool} {Q : Value × List Value → Shared → Prop} {f : Value} {tf : String} (c : ClsOk K C) (hf : findIn K (.ref C) name = some (some f)) (ht : typeIn K f = some (.type tf)) (htf : tf = "function" ∨ tf = "method_descriptor")
    (S : St g L m h news) (X : K.In g) (hm : (x, ox) ∈ news) (hc : ox.cls = .ref C) (hno : notCls ox = true) (hd : ox.dict = some dx) (hdm : (dx, dictOf es n) ∈ news) (hl : getL name es = some none)
    (k : Q (f, [.ref x]) ⟨h, gg, d, tk, os⟩) : wpAny (model prog w) A (getMethod (.ref x) name pl) Q E ⟨h, gg, d, tk, os⟩ := by
  have I := inst_of S hm hc hno hd hdm
  have X' := S.K X
  have T := I.type (M := model prog w)
  unfold getMethod specialOf
  have go : ∀ ga : String, findIn K (.ref C) "__getattribute__" = some (some (.builtin ga)) → (Manifest.canonical ga != "object.__getattribute__") = false → wpAny (model prog w) A (getMethod (.ref x) name pl) Q E ⟨h, gg, d, tk, os⟩ := by
    intro ga hga hcan
    unfold getMethod specialOf
    refine wpAny_bind (wpAny_bind (T.at ((looks_findIn X' hga).at ?_)))
    dsimp only
    rw [hcan, if_neg (by decide)]
    refine wpAny_bind (wpAny_bind (T.at ((looks_findIn X' c.gt).at ?_)))
    refine wpAny_bind (wpAny_bind (T.at ((looks_findIn X' hf).at (wpAny_bind ((looks_typeIn X' ht).at ?_)))))
    rw [if_neg (by rcases htf with rfl | rfl <;> decide +kernel)]
    refine wpAny_bind (wpAny_loadPart (S.get hm) ?_)
    rw [hd]
    refine wpAny_bind (wpAny_bind (wpAny_loadPart (S.get hdm) ?_))
    rw [nsLook_of (r := none) (by rw [lookIn_dict, hl])]
    exact wpAny_pure (wpAny_bind (wpAny_rule (wpAny_pure k)))
  rcases c.ga with ga | ⟨ga, ml⟩
  · exact go _ ga PySem.F.canon_object_ga
  · exact go _ ga can_list_ga

theorem r_setAttr {Q : Unit → Shared → Prop} (c : ClsOk K C) (hn : findIn K (.ref C) name = some none) (S : St g L m h news) (X : K.In g) (hm : (x, ox) ∈ news) (hc : ox.cls = .ref C) (hno : notCls ox = true) (hd : ox.dict = some dx)
    (U : Up dx (dictOf es n) (dictOf es' n') news news') (hl : (getL name es).isSome = true) (e : (putL name (PyData.keyHash w.params name) (.str name (tk + 1)) v es, putN name es n) = (es', n')) (hz : es'.length ≤ 1000)
    (k : ∀ h', St g L m h' news' → Q () ⟨h', gg, d, tk + 2, os⟩) : wpAny (model prog w) A (setAttr (.ref x) name v) Q E ⟨h, gg, d, tk, os⟩ := by
  have I := inst_of S hm hc hno hd U.mem
  have X' := S.K X
  obtain ⟨cd, hcd, hps⟩ := c.ps (.ref x)
  refine set_plain (s := ⟨h, gg, d, tk, os⟩) X' I c.sa ?_
  have SF := PySem.F.store_object
  have sub : Looks (model prog w) h (isInstance (.ref x) (.type "object")) true := isInst X' (S.get hm) hc c.ob
  refine codeAny_call_builtin SF.slot.plain SF.entry (@check_slot (model prog w) _ _ _ "object.__setattr__" "object" "__setattr__" (.ref x) [.str name tk, v] [] _ SF.kind SF.split sub (SF.args (.ref x) (.str name tk) v) ?_)
  have hmro : Looks (model prog w) h (mroOf (.ref C)) cd.mro := (looks_clsIn X' hcd).andThen .now
  have D := S.get U.mem
  obtain ⟨e1, e2⟩ := Prod.mk.inj e
  have hput : Obj.putName name (PyData.keyHash w.params name) (.str name (tk + 1)) v (dictOf es n) = dictOf es' n' := by rw [putName_dict, e1, e2]
  have S' := S.upd U hput rfl
  rw [osa_eq, refuse_eq]
  refine wpAny_bind (wpAny_bind (I.type.at (wpAny_bind (hmro.at ?_))))
  rw [hps]
  refine wpAny_pure (wpAny_bind (I.type.at (wpAny_bind ((looks_findIn X' hn).at (wpAny_bind (wpAny_pure ?_))))))
  show wpAny _ _ (storeInOwnDict (.ref x) (.ref C) (.str name tk) name v false) _ _ _
  obtain ⟨cd', hcd', hdd⟩ := any_some c.hd
  obtain ⟨oc, odi, oda, osl⟩ := ox
  dsimp only at hc hd
  subst hc hd
  refine wpAny_bind (wpAny_pure (wpAny_bind (wpAny_bind (wpAny_loadPart (S.get hm) (wpAny_bind ((looks_clsIn X' hcd').at ?_))))))
  rw [hdd]
  refine wpAny_pure (a := some dx) (wpAny_bind (wpAny_pure (wpAny_bind ?_)))
  unfold nsSet
  refine wpAny_bind (wpAny_bind (wpAny_askSetting (wpAny_pure (wpAny_bind (wpAny_mkText (wpAny_bind (wpAny_loadPart D ?_)))))))
  dsimp only
  have cc : (!es.toArray.any (·.key.isStr name) && es.toArray.any (·.refKey)) = false := by
    rw [← Array.any_toList, ← Array.any_toList]
    unfold getL at hl
    dsimp only
    split at hl
    · rename_i en he
      rw [List.any_eq_true.mpr ⟨en, List.mem_of_find?_eq_some he, List.find?_some he⟩]; rfl
    · split at hl
      · cases hl
      · rename_i z; rw [Bool.not_eq_true] at z; rw [z, Bool.and_false]
  rw [aRefKeyMayBeTheName_at, cc]
  refine wpAny_updatePart D ?_
  refine wpAny_bind (wpAny_lookBehind (S'.get U.mem') (pastItsLine_dict (by rw [List.size_toArray, sizeLine_eq]; omega)) ?_)
  exact wpAny_pure (k _ S')
end
end Mine
end

-- Eng4
section
open PySem PySem.W PySem.W.X PyProof.Rows PySem.Calls PySem.Builtin PySem.Builtin.List
set_option Elab.async false
set_option maxRecDepth 100000
set_option linter.unusedVariables false
namespace Mine
theorem ent_append : entryFor table "list.append" = some PySem.Builtin.«list.append» := entryFor_of_tree (by kernel_rfl)
theorem ent_len : entryFor table "list.__len__" = some PySem.Builtin.«list.__len__» := entryFor_of_tree (by kernel_rfl)
theorem ent_pop : entryFor table "list.pop" = some PySem.Builtin.«list.pop» := entryFor_of_tree (by kernel_rfl)
theorem ent_init : entryFor table "list.__init__" = some PySem.Builtin.«list.__init__» := entryFor_of_tree (by kernel_rfl)
theorem ent_iter : entryFor table "list.__iter__" = some PySem.Builtin.«list.__iter__» := entryFor_of_tree (by kernel_rfl)
theorem mapSeq_ne {c : Value} {dc : Option Addr} {xs ys : Array Value} {n : Nat} {sl : Array (Option Value)} {f : Array Value → Array Value} (e : f xs = ys) (ne : ys.size ≠ xs.size) : Obj.mapSeq f ⟨c, dc, .seq xs n, sl⟩ = ⟨c, dc, .seq ys (n + 1), sl⟩ := by
  subst e
  simp [Obj.mapSeq, ne]
theorem mapSeq_eq {c : Value} {dc : Option Addr} {xs ys : Array Value} {n : Nat} {sl : Array (Option Value)} {f : Array Value → Array Value} (e : f xs = ys) (ne : ys.size = xs.size) : Obj.mapSeq f ⟨c, dc, .seq xs n, sl⟩ = ⟨c, dc, .seq ys n, sl⟩ := by
  subst e
  simp [Obj.mapSeq, ne]
section
variable {prog : Program} {w : World} {A : Around} {E : Value → Shared → Prop} {gg : Array GenState} {d : Drawn} {tk : Nat} {os : OsState} {g h : Heap} {L : Addr} {m : Str → Option Value} {news news' : List (Addr × Obj)}
  {x : Addr} {c : Value} {dc : Option Addr} {xs ys : Array Value} {n n' : Nat} {sl : Array (Option Value)} {v : Value} {R : Result → Shared → Prop}

theorem r_updateSeq {M : Model} {f : Array Value → Array Value} {Q : Unit → Shared → Prop} (S : St g L m h news) (U : Up x ⟨c, dc, .seq xs n, sl⟩ ⟨c, dc, .seq ys n', sl⟩ news news') (e : Obj.mapSeq f ⟨c, dc, .seq xs n, sl⟩ = ⟨c, dc, .seq ys n', sl⟩) (hz : ys.size ≤ sizeLine + 1)
    (k : ∀ h', St g L m h' news' → Q () ⟨h', gg, d, tk, os⟩) : wpAny M A (updateSeq x f) Q E ⟨h, gg, d, tk, os⟩ := by
  have S' := S.upd U e rfl
  unfold updateSeq
  refine wpAny_bind (wpAny_load (S.get U.mem) ?_)
  refine wpAny_bind (wpAny_updatePart (S.get U.mem) ?_)
  exact wpAny_lookBehind (S'.get U.mem') (by simp [Data.pastItsLine, hz]) (k _ S')
theorem r_listItems {M : Model} {Q : Array Value → Shared → Prop} (S : St g L m h news) (hm : (x, ⟨c, dc, .seq xs n, sl⟩) ∈ news) (k : Q xs ⟨h, gg, d, tk, os⟩) : wpAny M A (listItems (.ref x)) Q E ⟨h, gg, d, tk, os⟩ := by
  unfold listItems seqItems?
  exact wpAny_bind (wpAny_bind (wpAny_loadPart (S.get hm) (wpAny_pure (wpAny_pure k))))

theorem r_append {Q : Value → Shared → Prop} (S : St g L m h news) (hi : Looks (model prog w) h (isInstance (.ref x) (.type "list")) true) (U : Up x ⟨c, dc, .seq xs n, sl⟩ ⟨c, dc, .seq (xs.push v) (n + 1), sl⟩ news news') (hz : xs.size ≤ sizeLine)
    (k : ∀ h', St g L m h' news' → Q .none ⟨h', gg, d, tk, os⟩) : wpAny (model prog w) A (call (.builtin "list.append") [.ref x, v]) Q E ⟨h, gg, d, tk, os⟩ := by
  refine wpAny_call (code_bi (by decide +kernel) ent_append (.inl (by decide +kernel)) (owner := "list") (nm := "append") (by decide +kernel) hi (by unfold argsOk; kernel_rfl) ?_)
  refine wpAny_bind (wpAny_pure (wpAny_bind (r_updateSeq S U (mapSeq_ne rfl (by simp)) (by simp; omega) fun h' S' => wpAny_pure (k h' S'))))
theorem r_len {Q : Value → Shared → Prop} (S : St g L m h news) (hi : Looks (model prog w) h (isInstance (.ref x) (.type "list")) true) (hm : (x, ⟨c, dc, .seq xs n, sl⟩) ∈ news)
    (k : Q (.int xs.size tk) ⟨h, gg, d, tk + 1, os⟩) : wpAny (model prog w) A (call (.builtin "list.__len__") [.ref x]) Q E ⟨h, gg, d, tk, os⟩ := by
  refine wpAny_call (code_bi (by decide +kernel) ent_len (.inr (by decide +kernel)) (owner := "list") (nm := "__len__") (by decide +kernel) hi (by unfold argsOk; kernel_rfl) ?_)
  exact wpAny_bind (wpAny_pure (wpAny_bind (wpAny_bind (wpAny_loadPart (S.get hm) (wpAny_pure (wpAny_bind (wpAny_bind (wpAny_fresh (wpAny_pure (wpAny_pure k))))))))))
end
end Mine
end

-- Eng5
section
open PySem PySem.W PySem.W.X PyProof.Rows PySem.Calls PySem.Builtin PySem.Builtin.List
set_option Elab.async false
set_option maxRecDepth 100000
set_option linter.unusedVariables false
namespace Mine
theorem sl_mdget : Slot "method_descriptor" "__get__" "method_descriptor.__get__" := .of (owner := "method_descriptor") (n := "__get__") (by rw [typeLookup_type, builtinLookup_eq_fast]; kernel_rfl) (by decide +kernel) (by decide +kernel) (by decide +kernel)
  (by first | exact .inl (by decide +kernel) | exact .inr (by decide +kernel)) (by rw [isSubtype_type]; kernel_rfl)
theorem sl_wdget : Slot "wrapper_descriptor" "__get__" "wrapper_descriptor.__get__" := .of (owner := "wrapper_descriptor") (n := "__get__") (by rw [typeLookup_type, builtinLookup_eq_fast]; kernel_rfl) (by decide +kernel) (by decide +kernel) (by decide +kernel)
  (by first | exact .inl (by decide +kernel) | exact .inr (by decide +kernel)) (by rw [isSubtype_type]; kernel_rfl)
theorem ent_mdget : entryFor table "method_descriptor.__get__" = some PySem.Builtin.«method_descriptor.__get__» := entryFor_of_tree (by kernel_rfl)
theorem ent_wdget : entryFor table "wrapper_descriptor.__get__" = some PySem.Builtin.«wrapper_descriptor.__get__» := entryFor_of_tree (by kernel_rfl)
theorem ty_pop : typeOf (.builtin "list.pop") = pure (.type "method_descriptor") := by show builtinType _ = _; rw [builtinType_eq_fast]; kernel_rfl
theorem ty_len : typeOf (.builtin "list.__len__") = pure (.type "wrapper_descriptor") := by show builtinType _ = _; rw [builtinType_eq_fast]; kernel_rfl
theorem ty_init : typeOf (.builtin "list.__init__") = pure (.type "wrapper_descriptor") := by show builtinType _ = _; rw [builtinType_eq_fast]; kernel_rfl

section
variable {prog : Program} {w : World} {A : Around} {E : Value → Shared → Prop} {gg : Array GenState} {d : Drawn} {tk : Nat} {os : OsState} {g h : Heap} {L : Addr} {m : Str → Option Value} {news news' : List (Addr × Obj)}
  {K : Frag} {so x C D : Addr} {ox : Obj} {name : Str} {cd : ClassData}

abbrev bndO (T i : String) (x : Addr) : Obj := ⟨.type T, none, .fields #[.builtin i, .ref x], #[]⟩

theorem get_pop {Q : Value → Shared → Prop} (S : St g L m h news) (hi : Looks (model prog w) h (isInstance (.ref x) (.type "list")) true)
    (k : ∀ q h', St g L m h' ((q, bndO "builtin_function_or_method" "list.pop" x) :: news) → L < q → Q (.ref q) ⟨h', gg, d, tk, os⟩) :
    wpAny (model prog w) A (call (.builtin "method_descriptor.__get__") [.builtin "list.pop", .ref x, .ref C]) Q E ⟨h, gg, d, tk, os⟩ := by
  refine wpAny_call_entry sl_mdget (s := ⟨h, gg, d, tk, os⟩) (self := .builtin "list.pop") ty_pop ent_mdget ?_ (by unfold argsOk; kernel_rfl)
  have eo : ".".intercalate ("list.pop".cutAt '.').dropLast = "list" := by decide +kernel
  repeat (first
    | ((with_reducible show wpAny _ _ (newFields _ _) _ _ _); refine r_newObj S rfl (by simp [sizeOk, sizeLine_eq]) ?_; intro q h' S' l)
    | ((with_reducible show wpAny _ _ (isInstance _ _) _ _ _); rw [eo]; refine hi.at ?_)
    | lk)
  exact ⟨_, rfl, k q h' S' l⟩
theorem get_len {Q : Value → Shared → Prop} (S : St g L m h news) (hi : Looks (model prog w) h (isInstance (.ref x) (.type "list")) true)
    (k : ∀ q h', St g L m h' ((q, bndO "method-wrapper" "list.__len__" x) :: news) → L < q → Q (.ref q) ⟨h', gg, d, tk, os⟩) :
    wpAny (model prog w) A (call (.builtin "wrapper_descriptor.__get__") [.builtin "list.__len__", .ref x, .ref C]) Q E ⟨h, gg, d, tk, os⟩ := by
  refine wpAny_call_entry sl_wdget (s := ⟨h, gg, d, tk, os⟩) (self := .builtin "list.__len__") ty_len ent_wdget ?_ (by unfold argsOk; kernel_rfl)
  have eo : ".".intercalate ("list.__len__".cutAt '.').dropLast = "list" := by decide +kernel
  repeat (first
    | ((with_reducible show wpAny _ _ (newFields _ _) _ _ _); refine r_newObj S rfl (by simp [sizeOk, sizeLine_eq]) ?_; intro q h' S' l)
    | ((with_reducible show wpAny _ _ (isInstance _ _) _ _ _); rw [eo]; refine hi.at ?_)
    | lk)
  exact ⟨_, rfl, k q h' S' l⟩
theorem get_init {Q : Value → Shared → Prop} (S : St g L m h news) (hi : Looks (model prog w) h (isInstance (.ref x) (.type "list")) true)
    (k : ∀ q h', St g L m h' ((q, bndO "method-wrapper" "list.__init__" x) :: news) → L < q → Q (.ref q) ⟨h', gg, d, tk, os⟩) :
    wpAny (model prog w) A (call (.builtin "wrapper_descriptor.__get__") [.builtin "list.__init__", .ref x, .ref C]) Q E ⟨h, gg, d, tk, os⟩ := by
  refine wpAny_call_entry sl_wdget (s := ⟨h, gg, d, tk, os⟩) (self := .builtin "list.__init__") ty_init ent_wdget ?_ (by unfold argsOk; kernel_rfl)
  have eo : ".".intercalate ("list.__init__".cutAt '.').dropLast = "list" := by decide +kernel
  repeat (first
    | ((with_reducible show wpAny _ _ (newFields _ _) _ _ _); refine r_newObj S rfl (by simp [sizeOk, sizeLine_eq]) ?_; intro q h' S' l)
    | ((with_reducible show wpAny _ _ (isInstance _ _) _ _ _); rw [eo]; refine hi.at ?_)
    | lk)
  exact ⟨_, rfl, k q h' S' l⟩
end
end Mine
end

-- Eng6
section
open PySem PySem.W PySem.W.X PyProof.Rows PySem.Calls PySem.Builtin PySem.Builtin.List
set_option Elab.async false
set_option maxRecDepth 100000
set_option linter.unusedVariables false
set_option maxHeartbeats 4000000
set_option linter.unusedSimpArgs false
namespace Mine
section
variable {prog : Program} {w : World} {A : Around} {E : Value → Shared → Prop} {gg : Array GenState} {d : Drawn} {tk : Nat} {os : OsState} {g h : Heap} {L : Addr} {m : Str → Option Value} {news news' : List (Addr × Obj)}
  {K : Frag} {so x C D : Addr} {ox : Obj} {name : Str} {cd : ClassData} {i gi dk T : String}

/-- super().NAME where the base that gives NAME is a built-in -/
theorem r_superGet {pl : Sem Bool} {Q : Value × List Value → Shared → Prop} (S : St g L m h news) (X : K.In g) (hso : (so, ks_superObj D x C) ∈ news) (ho : nsIn K cStatics "thirdparty.any" = some none) (hc : clsIn K C = some cd)
    (hf : alongIn K name ((cd.mro.dropWhile (· != .ref D)).drop 1) = some (some (.builtin i))) (hty : typeOf (.builtin i) = pure (.type dk)) (hgl : typeLookup (.type dk) "__get__" = pure (some (.builtin gi))) (hxC : x ≠ C) (hn : (name == ("__class__" : Str)) = false)
    (hg : ∀ (A : Around) (Q : Value → Shared → Prop) (tk : Nat), (∀ q h', St g L m h' ((q, bndO T i x) :: news) → L < q → Q (.ref q) ⟨h', gg, d, tk, os⟩) → wpAny (model prog w) A (call (.builtin gi) [.builtin i, .ref x, .ref C]) Q (fun _ _ => False) ⟨h, gg, d, tk, os⟩)
    (k : ∀ q h', St g L m h' ((q, bndO T i x) :: news) → L < q → Q (.ref q, []) ⟨h', gg, d, tk + 1, os⟩) : wpAny (model prog w) A (getMethod (.ref so) name pl) Q E ⟨h, gg, d, tk, os⟩ := by
  have X' := S.K X
  have hs := S.get hso
  have hno := looks_opaque (M := model prog w) (C := C) X' ho
  have hC : Looks (model prog w) h (mroOf (.ref C)) cd.mro := (looks_clsIn X' hc).andThen .now
  have hlk := F.ks_slot_super_ga.lookup
  have hT : ∀ t', (⟨h, gg, d, t', os⟩ : Shared).TypeIs (.ref so) "super" := fun _ => ⟨_, hs, rfl⟩
  have hne : (Value.ref x == Value.ref C) = false := by simp [hxC]
  have hdt : (ks_superObj D x C).data = .fields #[.ref D, .ref x, .ref C] := rfl
  have f0 : (#[.ref D, .ref x, .ref C] : Array Value)[0]? = some (.ref D) := rfl
  have f1 : (#[.ref D, .ref x, .ref C] : Array Value)[1]? = some (.ref x) := rfl
  have f2 : (#[.ref D, .ref x, .ref C] : Array Value)[2]? = some (.ref C) := rfl
  unfold getMethod
  refine wpAny_bind (wpAny_specialOf (hT _) hlk ?_)
  show wpAny _ _ (if (Manifest.canonical "super.__getattribute__" != "object.__getattribute__") = true then _ else _) _ _ _
  rw [if_pos F.ks_canon_super_ga]
  unfold getAttr getAttrBy
  refine wpAny_bind (wpAny_bind (wpAny_mkText (wpAny_holding (wpAny_bind (wpAny_typeOf (hT _) (wpAny_bind (wpAny_of_eq hlk ?_)))))))
  show wpAny _ _ (getAttrByItsOwn (.ref so) (.str name tk) (.type "super") (.builtin "super.__getattribute__") true false) _ _ _
  unfold getAttrByItsOwn hookBefore callGetattribute boundAndCalled
  refine wpAny_bind (wpAny_of_eq (show (if onTheHeap (.type "super") then typeLookup (.type "super") "__getattr__" else pure none) = pure none from rfl) ?_)
  refine wpAny_bind (wpAny_attempt (wpAny_holding ?_))
  show wpAny _ _ (bindSpecial (.builtin "super.__getattribute__") (.ref so) >>= _) _ _ _
  refine wpAny_bind (wpAny_of_eq (F.ks_slot_super_ga.bind _) ?_)
  refine wpAny_mono (Q := fun v s' => ∃ q h', v = .ref q ∧ s' = ⟨h', gg, d, tk + 1, os⟩ ∧ St g L m h' ((q, bndO T i x) :: news) ∧ L < q) (E := fun _ _ => False)
    (wpAny_call_entry F.ks_slot_super_ga (hT _) F.ks_entry_super_ga ?_ (F.ks_gaArgs_super _ _)) (fun v s' hv => ?_) fun _ _ z => z.elim
  · unfold PySem.Builtin.«super.__getattribute__»
    repeat (first
      | (with_reducible refine wpAny_field hs hdt f0 ?_) | (with_reducible refine wpAny_field hs hdt f1 ?_) | (with_reducible refine wpAny_field hs hdt f2 ?_)
      | (with_reducible refine ks_wpAny_notOpaque hno ?_)
      | (with_reducible refine Looks.at hC ?_)
      | ((with_reducible show wpAny _ _ (forIn _ _ _) _ _ _); refine ks_forIn_along X' (fun _ _ => rfl) rfl ?_ hf)
      | (with_reducible refine wpAny_of_eq hty ?_)
      | (with_reducible refine wpAny_of_eq hgl ?_)
      | ((with_reducible show wpAny _ _ (call _ _) _ _ _); (try simp only [hne, Bool.false_eq_true, if_false]); refine hg _ _ _ ?_; intro q h' S' l)
      | wp_step
      | (simp only [hn, hne, Bool.or_false, Bool.false_eq_true, if_false])
      | dsimp only)
    exact ⟨_, rfl, _, _, rfl, rfl, S', l⟩
  · obtain ⟨q, h', rfl, rfl, S', l⟩ := hv
    exact wpAny_pure (wpAny_pure (k q h' S' l))
end
end Mine
end

-- Eng7
section
open PySem PySem.W PySem.W.X PyProof.Rows PySem.Calls PySem.Builtin PySem.Builtin.List
set_option Elab.async false
set_option maxRecDepth 100000
set_option linter.unusedVariables false
set_option maxHeartbeats 4000000
namespace Mine
theorem cb_len (x : Addr) : checkBoundCall "list.__len__" ⟨[.ref x], []⟩ = pure () := by kernel_rfl
theorem cb_init (x : Addr) : checkBoundCall "list.__init__" ⟨[.ref x], []⟩ = pure () := by kernel_rfl
def popSig : Manifest.Signature := (Manifest.signature? "list.pop").get (by decide +kernel)
theorem popSig_is : Manifest.signature? "list.pop" = some popSig := (Option.some_get _).symm
theorem ca_pop (x : Addr) (q : Str) (e : q = Str.ofString "_Accumulator") : Bind.checkArgs "list.pop" { popSig with full := s!"{q.toString}.{Bind.lastOf "list.pop"}" } ⟨[.ref x], []⟩ = pure () := by subst e; kernel_rfl
theorem kd_pop : builtinKind "list.pop" = some .method := by decide +kernel
theorem va_pop : Manifest.varargsMethods.contains "list.pop" = false := by decide +kernel
section
variable {prog : Program} {w : World} {A : Around} {E : Value → Shared → Prop} {gg : Array GenState} {d : Drawn} {tk : Nat} {os : OsState} {g h : Heap} {L : Addr} {m : Str → Option Value} {news news' : List (Addr × Obj)}
  {K : Frag} {q x C D : Addr} {ox : Obj} {name : Str} {cd : ClassData} {i gi dk T : String}

theorem r_bound0 {env : Env} {pos : Pos} {b : PySem.Builtin} {Q : Value → Shared → Prop} (S : St g L m h news) (hq : (q, bndO T i x) ∈ news) (hT : T = "builtin_function_or_method" ∨ T = "method-wrapper") (he : entryFor table i = some b) (hp : plainId i = true)
    (hc : ∀ (A : Around) (Q : Unit → Shared → Prop) (E : Value → Shared → Prop), Q () ⟨h, gg, d, tk, os⟩ → wpAny (model prog w) A (checkBoundCall i ⟨[.ref x], []⟩) Q E ⟨h, gg, d, tk, os⟩)
    (k : wpAny (model prog w) A.in1 (b ⟨[.ref x], []⟩) (fun fin s' => ∃ v, fin = .done (.ret v) ∧ Q v s') E ⟨h, gg, d, tk, os⟩) :
    wpAny (model prog w) A (callWith pos (.ref q) [] (backTo pos (starEach [] env)) []) Q E ⟨h, gg, d, tk, os⟩ := by
  have ho := S.get hq
  refine callWith_of (P := fun h' => h' = h) rfl (fun h' e => ⟨.machine, .inr (.inl rfl), ?_⟩) (evalArgs_nil3 ⟨rfl, ?_⟩)
  · subst e
    refine (Looks.ld (part := none) ho).andThen ?_
    rcases hT with rfl | rfl <;> exact .now
  · refine wpAny_call (codeAny_of_tree ?_)
    show wpAny _ _ (callAny (.ref q) ⟨[], []⟩) _ _ _
    refine nd_load ho ?_
    have z : wpAny (model prog w) (A.under (.call (.ref q) ⟨[], []⟩)) (checkBoundCall i ⟨[.ref x], []⟩ >>= fun _ => again (.builtin i ⟨[.ref x], []⟩)) (fun fin s' => match fin with | .done f => (match (Except.ok f : Result) with | .ok (.ret v) => Q v s' | .ok _ => False | .error e => E e s') | .again c' => c'.quiet = true ∧ codeAny (model prog w) A c' (fun r s' => match r with | .ok (.ret v) => Q v s' | .ok _ => False | .error e => E e s') s') (fun e s' => E e s') ⟨h, gg, d, tk, os⟩ := by
      refine wpAny_bind (hc _ _ _ (wpAny_pure ⟨plainId_quiet hp _, codeAny_builtin he ?_⟩))
      rw [Around.under_plainId hp]
      exact wpAny_mono k (fun fin s' hv => by obtain ⟨v, rfl, hv⟩ := hv; exact hv) fun _ _ e => e
    rcases hT with rfl | rfl <;> exact z
theorem cb_pop {Q : Unit → Shared → Prop} (X : K.In h) (ho : h.get? x = some ox) (hcl : ox.cls = .ref C) (hno : notCls ox = true) (hm : mroIn K C (.type "module") = some false) (hcd : clsIn K C = some cd) (hcq : cd.qualname = Str.ofString "_Accumulator") (hty : typeIn K (.ref C) = some (.type "type"))
    (k : Q () ⟨h, gg, d, tk, os⟩) : wpAny (model prog w) A (checkBoundCall "list.pop" ⟨[.ref x], []⟩) Q E ⟨h, gg, d, tk, os⟩ := by
  have T : Looks (model prog w) h (typeOf (.ref x)) (.ref C) := hcl ▸ (Looks.ld ho).andThen .now
  unfold checkBoundCall
  rw [popSig_is, kd_pop]
  dsimp only
  rw [if_neg (by decide)]
  refine wpAny_bind ((show Looks (model prog w) h (isInstance (.ref x) (.type "module")) false from T.andThen (looks_mroIn X hm)).at ?_)
  rw [va_pop, if_neg (by decide)]
  refine wpAny_bind (ks_wpAny_isType_inst ho (fun c e => by unfold notCls at hno; rw [e] at hno; cases hno) ?_)
  rw [if_neg (by decide)]
  refine wpAny_bind (T.at ?_)
  dsimp only
  refine wpAny_bind ((looks_clsIn X hcd).at (wpAny_bind ((looks_typeIn X hty).at ?_)))
  rw [if_pos (by decide), ca_pop _ _ hcq]
  exact wpAny_pure k
end
end Mine
end

-- Eng8
section
open PySem PySem.W PySem.W.X PyProof.Rows PySem.Calls PySem.Builtin PySem.Builtin.List
set_option Elab.async false
set_option maxRecDepth 100000
set_option linter.unusedVariables false
set_option maxHeartbeats 4000000
namespace Mine
theorem enterS {prog : Program} {w : World} {A : Around} {R : Result → Shared → Prop} {h hb : Heap} {gg : Array GenState} {d : Drawn} {tk : Nat} {os : OsState} {K : Frag} {p : Program} {loose : List Str} {mg mb : Str → Option Value} {own : List (Addr × Obj)}
    {f cc : Addr} {name qual : Str} {params : Arguments} {body : List Stmt} {scope : Scope} {dV kV doc pm cdv ct oc : Value} {an od : Option Addr} {osl : Array (Option Value)} {args : Args} {binds : List (Str × Value)}
    (X : K.In hb) (T : TR p loose mg mb hb) (hk : ∀ b o, hb.get? b = some o → h.get? b = some o)
    (hown : ∀ q ∈ own, h.get? q.1 = some q.2 ∧ hb.get? q.1 = none) (nd : (own.map (·.1)).Nodup)
    (ho : K.lookup f = some ⟨oc, od, .func (ksFn name qual params body scope dV kV doc pm an cdv ct cc), osl⟩) (hcd : codeIn K cdv qual = true) (hroom : A.depth < recursionLimit)
    (hbind : BindsTo ⟨h, gg, d, tk, os⟩ (ksFn name qual params body scope dV kV doc pm an cdv ct cc) args binds)
    (hcell : ∀ x ∈ scope.names, x.2 ≠ .cell) (hloc : ∀ y ∈ binds, scope.names.lookup y.1 = some .local)
    (run : ∀ g L h₁ tk', K.In g → TR p loose mg mb g → St g L (fun x => binds.reverse.lookup x) h₁ own → (∀ b o, h.get? b = some o → b ∉ own.map (·.1) → g.get? b = some o) → L = h.objs.size →
      _root_.PySem.wpAt (model prog w) (A.deeper (ksEnv qual scope L f cdv cc)) (.func body (ksEnv qual scope L f cdv cc)) (execs body (ksEnv qual scope L f cdv cc)) (fun fl s' => R (.ok (.ret (match fl with | .ret v => v | _ => .none))) s')
        (fun e s' => wpAny (model prog w) (A.deeper (ksEnv qual scope L f cdv cc)) (leaving (ksEnv qual scope L f cdv cc) e) (fun _ s'' => R (.error e) s'') (fun e' s'' => R (.error e') s'') s')
        ⟨h₁, gg, d, tk', os⟩)
    (hco : scope.isCoroutine = false := by rfl) (hgen : scope.isGenerator = false := by rfl) (hk' : scope.kind = .function := by rfl) :
    codeAny (model prog w) A (.call (.ref f) args) R ⟨h, gg, d, tk, os⟩ := by
  refine ks_codeAny_call_defAt (fd := ksFn name qual params body scope dV kV doc pm an cdv ct cc) (body := body) hroom (hk _ _ (X _ _ ho)) rfl (T.nolimit.keeps hk) (codeRec_of (X.keeps hk) hcd) rfl hbind hcell hloc (fun h₁ hns hk₁ => ?_) hco hgen hk'
  have st : ∀ b o, hb.get? b = some o → (hideAll h (own.map (·.1))).get? b = some o := fun b o e => hideAll_get _ (hk b o e) fun q => by
    obtain ⟨q', hq, rfl⟩ := List.mem_map.mp q
    rw [(hown q' hq).2] at e; cases e
  exact run (hideAll h (own.map (·.1))) h.objs.size h₁ _ (X.keeps st) (T.keeps st) ⟨⟨hns, fun b o e => hk₁ b o (of_hideAll _ e), Nat.le_of_eq (hideAll_size _ _)⟩,
    fun q hq => ⟨hk₁ _ _ (hown q hq).1, Nat.ne_of_lt (Heap.lt_size (hown q hq).1), hideAll_none _ (List.mem_map_of_mem hq)⟩, nd⟩
    (fun b o e n => hideAll_get _ e n) rfl

section
variable {prog : Program} {w : World} {A : Around} {E : Value → Shared → Prop} {gg : Array GenState} {dr : Drawn} {tk : Nat} {os : OsState} {g h : Heap} {L : Addr} {m mg mb : Str → Option Value} {news : List (Addr × Obj)} {K : Frag} {p : Program} {loose : List Str} {x C D f cc cda : Addr} {ox : Obj}
theorem r_super {body : List Stmt} {q : Str} {scope : Scope} {p0 p1 : Pos} {attr : Str} {whole : Sem Value} {fd : FuncData} {ar : Arg} {vs : Array Value} {file : Str} {tf : Tok} {oc ccl cl : Value} {od cdd cld : Option Addr} {osl ccs csl : Array (Option Value)} {cdD : ClassData} {Q : Value → Shared → Prop}
    (S : St g L m h news) (X₀ : K.In g) (T : TR p loose mg mb g)
    (hf : K.lookup f = some ⟨oc, od, .func fd, osl⟩) (hp : (fd.params.posonlyargs ++ fd.params.args).head? = some ar) (hv : m ar.arg = some (.ref x)) (hm : (x, ox) ∈ news) (hc : ox.cls = .ref C) (hno : notCls ox = true)
    (hcode : K.lookup cda = some ⟨ccl, cdd, .fields vs, ccs⟩) (hvs : vs[2]? = some (.str file tf)) (hfile : ((prog.main.file : Str) == file) = true)
    (hcell : K.lookup cc = some ⟨cl, cld, .cell (some (.ref D)), csl⟩) (hD : clsIn K D = some cdD) (hsub : mroIn K C (.ref D) = some true) (hsuper : nsIn K mainGlobals "super" = some none)
    (hat : (attr == ("__class__" : Str)) = false) (hks : scope.names.lookup ("super" : Str) = some .globalImplicit) (hkc : scope.names.lookup ("__class__" : Str) = some .free) (hka : scope.names.lookup ar.arg = some .local) (hk : scope.kind = .function)
    (htop : (prog.main.scope.names.lookup ("super" : Str)).isSome = false) (hboot : bootBuiltins "super" = some (.type "super"))
    (k : ∀ so h', St g L m h' ((so, ks_superObj D x C) :: news) → L < so → Q (.ref so) ⟨h', gg, dr, tk, os⟩) :
    _root_.PySem.wpAt (model prog w) A (.func body (ksEnv q scope L f (.ref cda) cc)) (attributeBase (.Call (.Name "super" p0) [] [] p1) attr (ksEnv q scope L f (.ref cda) cc) whole) Q E ⟨h, gg, dr, tk, os⟩ := by
  have X : K.In h := S.K X₀
  obtain ⟨oD, hD1, hD2⟩ : ∃ oD, h.get? D = some oD ∧ oD.data = .cls cdD := by
    unfold clsIn at hD
    split at hD
    · rename_i c d cd' sl ho
      cases hD
      exact ⟨_, X _ _ ho, rfl⟩
    · cases hD
  refine ks_wpAt_super_base (env := ksEnv q scope L f (.ref cda) cc) hks hkc hat rfl (X _ _ hf) rfl hp rfl (X _ _ hcode) rfl hvs hfile htop ?_
  refine ks_loadName_global hk hks (loadGlobal_builtin (env := ksEnv q scope L f (.ref cda) cc) (T.g.keeps S.F.keep) (mg_none_of X₀ T.g hsuper) (T.b.keeps S.F.keep) ((T.builtins _ (by decide +kernel)).trans hboot) ⟨rfl, ?_⟩)
  refine wpAny_loadName_free hk hkc rfl ⟨_, X _ _ hcell, rfl⟩ ?_
  refine wpAny_loadName_local hk hka S.F.ns hv ?_
  refine ks_wpAny_isType_cls hD1 hD2 ⟨rfl, ?_⟩
  refine ks_wpAny_call_super hD1 hD2 (S.get hm) hc (fun c e => ?_) (looks_mroIn X hsub) (fun h' e kk => ?_)
  · unfold notCls at hno
    rw [e] at hno
    exact Bool.noConfusion hno
  · refine k _ _ ?_ S.lt
    refine St.post (nw := [(h.objs.size, ks_superObj D x C)]) S ⟨fun q hq => (List.not_mem_nil hq).elim, fun q hq => ?_, by simp, fun b o eb _ => kk b o eb⟩ Ups.nil
    rcases List.mem_cons.mp hq with rfl | hq
    · exact ⟨e, Nat.le_refl _⟩
    · cases hq
end
end Mine
end

-- Eng9
section
open PySem PySem.W PySem.W.X PyProof.Rows PySem.Calls PySem.Builtin PySem.Builtin.List
set_option Elab.async false
set_option maxRecDepth 100000
set_option linter.unusedVariables false
set_option maxHeartbeats 4000000
namespace Mine
/-- an object with a row of items, of whatever class -/
def SeqIs (h : Heap) (l : Addr) (items : Array Value) : Prop := ∃ o n, h.get? l = some o ∧ o.data = .seq items n
section
variable {prog : Program} {w : World} {A : Around} {E : Value → Shared → Prop} {s : Shared}
theorem nx_item {it l : Addr} {i : Nat} {items : Array Value} {x : Value} {Q : Option Value → Shared → Prop} (hit : s.heap.IsListIter it l i) (hl : SeqIs s.heap l items) (hx : items[i]? = some x)
    (k : ∀ h', h'.IsListIter it l (i + 1) → Heap.SameBut it s.heap h' → Q (some x) { s with heap := h' }) : wpAny (model prog w) A (pyNext (.ref it)) Q E s := by
  obtain ⟨o, ho, hc, hd⟩ := id hit
  obtain ⟨ol, nl, hol, hdl⟩ := hl
  have b0 : ¬ ((Value.ref l == Value.none) = true) := Bool.false_ne_true
  refine wpAny_bind (wpAny_attempt (wpAny_callSpecial?_slot (name := Str.ofString "__next__") hit.typeIs PySem.slot_listiter_next (wpAny_call_entry PySem.slot_listiter_next hit.typeIs PySem.entry_listiter_next ?_ (PySem.args_listiter_next _))))
  refine wpAny_bind (m := field (.ref it) 0) (wpAny_field ho hd (x := .ref l) rfl ?_)
  show wpAny _ _ (if (Value.ref l == Value.none) = true then _ else _) _ _ s
  rw [if_neg b0]
  refine wpAny_bind (m := field (.ref it) 1) (wpAny_field ho hd (x := .int i 0) rfl ?_)
  refine wpAny_bind (m := seqItems? (.ref l)) (wpAny_seqItems hol hdl ?_)
  simp only [Int.toNat_natCast, hx]
  refine wpAny_bind (wpAny_setField ho hd (by simp) (wpAny_pure ⟨x, rfl, wpAny_pure (k _ ⟨_, Heap.get?_update_self _ ho (Obj.isFreed_of_fields (Obj.data_mapFields hd _)), (Obj.cls_mapFields ..).trans hc, ?_⟩ (Heap.SameBut.update ..))⟩))
  rw [Obj.data_mapFields hd]; simp [rawInt]
theorem nx_end {it l : Addr} {i : Nat} {items : Array Value} {Q : Option Value → Shared → Prop} (hh : A.handled = none) (hit : s.heap.IsListIter it l i) (hl : SeqIs s.heap l items) (hx : items[i]? = none)
    (k : ∀ h', Heap.ExtBut it s.heap h' → Q none { s with heap := h' }) : wpAny (model prog w) A (pyNext (.ref it)) Q E s := by
  obtain ⟨o, ho, hc, hd⟩ := id hit
  obtain ⟨ol, nl, hol, hdl⟩ := hl
  have b0 : ¬ ((Value.ref l == Value.none) = true) := Bool.false_ne_true
  refine wpAny_bind (wpAny_attempt (wpAny_callSpecial?_slot (name := Str.ofString "__next__") hit.typeIs PySem.slot_listiter_next (wpAny_call_entry PySem.slot_listiter_next hit.typeIs PySem.entry_listiter_next ?_ (PySem.args_listiter_next _))))
  refine wpAny_bind (m := field (.ref it) 0) (wpAny_field ho hd (x := .ref l) rfl ?_)
  show wpAny _ _ (if (Value.ref l == Value.none) = true then _ else _) _ _ s
  rw [if_neg b0]
  refine wpAny_bind (m := field (.ref it) 1) (wpAny_field ho hd (x := .int i 0) rfl ?_)
  refine wpAny_bind (m := seqItems? (.ref l)) (wpAny_seqItems hol hdl ?_)
  simp only [Int.toNat_natCast, hx]
  refine wpAny_bind (wpAny_rule (wpAny_bind (wpAny_setField ho hd (by simp) ?_)))
  refine wpAny_bind (m := newExc (.type "StopIteration") []) ?_
  simp only [newExc, newTuple]
  refine wpAny_bind (wpAny_newObj_type ?_ (by size_fits))
  refine wpAny_bind (m := firstArgMember _ _) (wpAny_of_eq (a := Value.none) (by first | rfl | (simp only [firstArgMember]; rfl)) ?_)
  refine wpAny_newObj_type ?_ (by size_fits)
  simp only [raiseNew]
  refine wpAny_bind (wpAny_handled ?_)
  rw [show A.in1.handled = none from hh]
  refine wpAny_bind (wpAny_pure (wpAny_throw ?_))
  exact wpAny_bind (wpAny_isInstance (T := "StopIteration") (b := true) ⟨_, Heap.get?_push_size _ rfl, rfl⟩ PySem.isSubtype_stop (wpAny_pure (k _ (((Heap.SameBut.update ..).extBut.push _).push _))))
end
theorem SeqIs.at {h h' : Heap} {l : Addr} {items : Array Value} (x : SeqIs h l items) (k : ∀ o, h.get? l = some o → h'.get? l = some o) : SeqIs h' l items := let ⟨o, n, e, d⟩ := x; ⟨o, n, k o e, d⟩
/-- the walk over a row of tuples -/
theorem walkTups {prog : Program} {w : World} {A : Around} (hh : A.handled = none) (I ax : Addr) (hne : ax ≠ I) (items : Array Value) (Ts : Nat → Addr) (vals : Nat → Array Value)
    (hit : ∀ j, j < items.size → items[j]? = some (.ref (Ts j))) (hTI : ∀ j, j < items.size → Ts j ≠ I) :
    WalksU prog w A I (I :: ax :: (List.range items.size).map Ts) [I] items.size (fun j v => j < items.size ∧ v = vals j)
      (fun j h => h.IsListIter I ax j ∧ SeqIs h ax items ∧ ∀ k, k < items.size → h.IsTuple (Ts k) (vals k))
      (fun j T h => (j < items.size ∧ T = Ts j) ∧ h.IsListIter I ax (j + 1) ∧ SeqIs h ax items ∧ ∀ k, k < items.size → h.IsTuple (Ts k) (vals k)) where
  sub := fun b hb => by simp at hb; simp [hb]
  frame := fun _ _ _ st hk => ⟨st.1.at fun o e => hk I (by simp) o e, st.2.1.at fun o e => hk ax (by simp) o e,
    fun k hk' => (st.2.2 k hk').at fun o e => hk (Ts k) (.tail _ (.tail _ (List.mem_map.mpr ⟨k, List.mem_range.mpr hk', rfl⟩))) o e⟩
  item := fun i s Q E hi st hQ => nx_item st.1 st.2.1 (hit i hi) fun h' hit' hs' =>
    have tup : ∀ k, k < items.size → h'.IsTuple (Ts k) (vals k) := fun k hk' => (st.2.2 k hk').extBut hs'.extBut (hTI k hk')
    hQ (Ts i) (vals i) h' s.toks ⟨hi, rfl⟩ (tup i hi) ⟨⟨hi, rfl⟩, hit', st.2.1.at fun o e => hs'.extBut _ o hne e, tup⟩ fun b o hb e => hs'.extBut b o (fun h => hb (by simp [h])) e
  go := fun _ _ _ _ _ s Q _ hm hQ => wpAny_letOwnedTupleGo_listiter hm.2.1 (hQ s.heap hm.2 fun _ _ _ e => e)
  apart := fun j T _ hm hmem => by
    rcases List.mem_cons.mp hmem with e | e
    · exact hTI j hm.1.1 (hm.1.2 ▸ e)
    · cases e
  done := fun s Q E st hQ => nx_end hh st.1 st.2.1 (by simp) fun h' he' => hQ h' s.toks fun b o hb e => he' b o (fun h => hb (by simp [h])) e
  self := fun _ _ _ _ st hQ => wpAny_pyIter_listiter st.1 hQ
section
variable {prog : Program} {w : World} {A : Around} {E : Value → Shared → Prop} {gg : Array GenState} {d : Drawn} {tk : Nat} {os : OsState} {g h : Heap} {L : Addr} {m : Str → Option Value} {news news' : List (Addr × Obj)}
  {K : Frag} {x C : Addr} {ox : Obj}
abbrev lit (x : Addr) (i : Nat) : Obj := ⟨.type "list_iterator", none, .fields #[.ref x, .int i 0], #[]⟩
theorem r_pyIter {Q : Value → Shared → Prop} (S : St g L m h news) (X : K.In g) (hm : (x, ox) ∈ news) (hc : ox.cls = .ref C) (hf : findIn K (.ref C) "__iter__" = some (some (.builtin "list.__iter__"))) (hl : mroIn K C (.type "list") = some true)
    (k : ∀ a h', St g L m h' ((a, lit x 0) :: news) → a = h.objs.size → (∀ b o, h.get? b = some o → h'.get? b = some o) → Q (.ref a) ⟨h', gg, d, tk, os⟩) : wpAny (model prog w) A (pyIter (.ref x)) Q E ⟨h, gg, d, tk, os⟩ := by
  have X' := S.K X
  have T : Looks (model prog w) h (typeOf (.ref x)) (.ref C) := hc ▸ (Looks.ld (S.get hm)).andThen .now
  have hi : Looks (model prog w) h (isInstance (.ref x) (.type "list")) true := isInst X' (S.get hm) hc hl
  have go : wpAny (model prog w) A (call (.builtin "list.__iter__") [.ref x]) (fun v s' => ∃ a h', v = .ref a ∧ s' = ⟨h', gg, d, tk, os⟩ ∧ St g L m h' ((a, lit x 0) :: news) ∧ (a = h.objs.size ∧ (∀ b o, h.get? b = some o → h'.get? b = some o))) E ⟨h, gg, d, tk, os⟩ := by
    refine wpAny_call (code_bi (by decide +kernel) ent_iter (.inr (by decide +kernel)) (owner := "list") (nm := "__iter__") (by decide +kernel) hi (by unfold argsOk; kernel_rfl) ?_)
    refine wpAny_bind (wpAny_pure (wpAny_bind (wpAny_newObj_type (wpAny_pure ⟨_, _, rfl, rfl, S.push (o := lit x 0) rfl, rfl, fun b o e => Heap.get?_push_of_some _ e⟩) (by size_fits))))
  unfold pyIter specialOf
  refine wpAny_bind (wpAny_bind (T.at ((looks_findIn X' hf).at ?_)))
  unfold callSpecialIfBoundUnlessNone? bindSpecialIfBound? specialOf
  have fin : ∀ (a : Addr) (h' : Heap), St g L m h' ((a, lit x 0) :: news) → (a = h.objs.size ∧ (∀ b o, h.get? b = some o → h'.get? b = some o)) → wpAny (model prog w) A (specialOf (.ref a) "__next__") (fun r s' => wpAny (model prog w) A (match r with
      | none => do rule "iter.non-iterator"; raiseError "TypeError" s!"iter() returned non-iterator of type '{← typeNameOf (.ref a)}'"
      | some _ => pure (.ref a)) Q E s') E ⟨h', gg, d, tk, os⟩ := fun a h' S' l => by
    refine wpAny_specialOf (T := "list_iterator") ⟨_, S'.get (.head _), rfl⟩ PySem.slot_listiter_next.lookup ?_
    exact wpAny_pure (k a h' S' l.1 l.2)
  have bd : ∀ (Q' : Option (Value × List Value) → Shared → Prop) (E' : Value → Shared → Prop), Q' (some (.builtin "list.__iter__", [.ref x])) ⟨h, gg, d, tk, os⟩ → wpAny (model prog w) A (do return some (← bindSpecial (.builtin "list.__iter__") (.ref x))) Q' E' ⟨h, gg, d, tk, os⟩ := fun Q' E' q => by
    refine wpAny_bind ?_
    rw [PySem.slot_list_iter.bind]
    exact wpAny_pure (wpAny_pure q)
  refine wpAny_bind (wpAny_holding (wpAny_bind (wpAny_bind (wpAny_bind (T.at ((looks_findIn X' hf).at (wpAny_bind (wpAny_askSetting ?_))))))))
  have tail : wpAny (model prog w) A (do
      if (Value.builtin "list.__iter__" == Value.none) = true then return some (← (do rule "iter.none"; raiseError "TypeError" s!"'{← typeNameOf (.ref x)}' object is not iterable"))
      return some (← call (.builtin "list.__iter__") [.ref x])) (fun r s' => wpAny (model prog w) A (match r with
      | some it => do
        match ← specialOf it "__next__" with
        | none => rule "iter.non-iterator"; raiseError "TypeError" s!"iter() returned non-iterator of type '{← typeNameOf it}'"
        | some _ => pure it
      | none => do
        match ← bindSpecialIfBound? (.ref x) "__getitem__" with
        | none => rule "iter.not-iterable"; raiseError "TypeError" s!"'{← typeNameOf (.ref x)}' object is not iterable"
        | some _ => rule "iter.getitem-fallback"; newFields "iterator" [.ref x, ← mkInt 0]) Q E s') E ⟨h, gg, d, tk, os⟩ := by
    rw [if_neg (by decide)]
    refine wpAny_bind (wpAny_mono go (fun v s' hv => ?_) fun _ _ e => e)
    obtain ⟨a, h', rfl, rfl, S', l⟩ := hv
    exact wpAny_pure (wpAny_bind (fin a h' S' l))
  split
  · exact bd _ _ tail
  · exact wpAny_tryCatch (bd _ _ tail)
end
end Mine
end

-- Eng10
section
open PySem PySem.W PySem.W.X PyProof.Rows PySem.Calls PySem.Builtin PySem.Builtin.List
set_option Elab.async false
set_option maxRecDepth 100000
set_option linter.unusedVariables false
set_option maxHeartbeats 4000000
namespace Mine
theorem shiftW {prog : Program} {w : World} {A : Around} {I : Addr} {fp wr : List Addr} {G : Array GenState → Array GenState → Prop} {n : Nat} {P : Nat → Value → Prop} {Z : Nat → Shared → Prop} (W : WalksS prog w A I fp wr G n P Z) :
    WalksS prog w A I fp wr G (n + 1) (fun i v => ∃ j, i = j + 1 ∧ P j v) (fun i s => ∃ j, i = j + 1 ∧ Z j s) where
  sub := W.sub
  grefl := W.grefl
  gtrans := W.gtrans
  frame := fun i s h' tk st => by obtain ⟨j, rfl, z⟩ := st; exact fun a b => ⟨j, rfl, W.frame j s h' tk z a b⟩
  item := fun i s Q E hi st hQ => by obtain ⟨j, rfl, z⟩ := st; exact W.item j s Q E (Nat.lt_of_succ_lt_succ hi) z fun v s' hP hz hm => hQ v s' ⟨j, rfl, hP⟩ ⟨j + 1, rfl, hz⟩ hm
  done := fun s Q E st hQ => by obtain ⟨j, e, z⟩ := st; cases e; exact W.done s Q E z hQ
  self := fun i s Q E st hQ => by obtain ⟨j, rfl, z⟩ := st; exact W.self j s Q E z hQ
theorem args_sum2 (a b : Value) : argsOk "sum" ⟨[a, b], []⟩ := by unfold argsOk; kernel_rfl
theorem preSum_shift (i : Int) (val : Nat → Int) : ∀ n, preSum (fun j => match j with | 0 => i | j + 1 => val j) (n + 1) = i + preSum val n
  | 0 => by simp [preSum]
  | n + 1 => by
    have := preSum_shift i val n
    rw [preSum, this]
    simp [preSum]; omega
theorem r_sum2 {prog : Program} {w : World} {A : Around} {E : Value → Shared → Prop} {s : Shared} {I : Addr} {fp wr : List Addr} {G : Array GenState → Array GenState → Prop} {n : Nat} {P : Nat → Value → Prop} {Z : Nat → Shared → Prop} {val : Nat → Int} {i : Int} {t : Tok} {Q : Value → Shared → Prop}
    (W : WalksS prog w A.in1 I fp wr G n P Z) (hst : Z 0 s) (hfp : ∀ b ∈ fp, b < s.heap.objs.size) (hval : ∀ i v, P i v → ∃ t, v = .int (val i) t) (k : ∀ s' t', Moved wr G s s' → Q (.int (i + preSum val n) t') s') :
    wpAny (model prog w) A (call (.builtin "sum") [.ref I, .int i t]) Q E s := by
  have W' := shiftW W
  refine call_function_tree F.kind_sum F.plain_sum F.entry_sum (args_sum2 _ _) ?_
  unfold Builtin.«sum»
  simp only [List.length_cons, List.length_nil]
  rw [if_neg (by decide)]
  refine wpAny_bind (wpAny_of_eq (show Builtin.Builtins.bindParams "sum" ["start"] 0 ⟨[.int i t], []⟩ = pure [some (.int i t)] from rfl) ?_)
  refine wpAny_bind (W.self 0 s _ _ hst ?_)
  have hSf : s.heap.objs.size ∉ fp := fun hm => Nat.lt_irrefl _ (hfp _ hm)
  have e0 : i = preSum (fun j => match j with | 0 => i | j + 1 => val j) 1 := by simp [preSum]
  have tl : ∀ (t₀ : Tok) (st : Int) (tk : Nat), (st = 0 ∨ st = 2) → s.toks ≤ tk → wpAny (model prog w) A.in1 (do
      for (ty, what, hint) in [("str", "strings", "''"), ("bytes", "bytes", "b''"), ("bytearray", "bytearray", "b''")] do
        if ← isInstance (.int i t₀) (.type ty) then
          rule "sum.start-refused"; raiseError "TypeError" s!"sum() can't sum {what} [use {hint}.join(seq) instead]"
      again (.builtin "sum.loop" ⟨[.ref I, ← newList [.int i t₀], rawInt st, rawInt 0], []⟩)) (fun fin s' => match fin with
      | .done f => (match (Except.ok f : Result) with | .ok (.ret v) => Q v s' | .ok _ => False | .error e => E e s')
      | .again c' => c'.quiet = true ∧ codeAny (model prog w) A c' (fun r s' => match r with | .ok (.ret v) => Q v s' | .ok _ => False | .error e => E e s') s') E { s with toks := tk } := by
    intro t₀ st tk hs2 htk
    simp only [List.forIn_cons, List.forIn_nil]
    refine wpAny_bind (wpAny_bind (wpAny_bind (wpAny_isInstance (T := "int") (b := false) (typeIs_int _ _ _) PySem.sub_int_str ?_)))
    simp only [Bool.false_eq_true, if_false]
    refine wpAny_pure (wpAny_bind (wpAny_bind (wpAny_isInstance (T := "int") (b := false) (typeIs_int _ _ _) PySem.sub_int_bytes ?_)))
    simp only [Bool.false_eq_true, if_false]
    refine wpAny_pure (wpAny_bind (wpAny_bind (wpAny_isInstance (T := "int") (b := false) (typeIs_int _ _ _) PySem.sub_int_bytearray ?_)))
    simp only [Bool.false_eq_true, if_false]
    refine wpAny_pure (wpAny_pure ?_)
    refine wpAny_bind (wpAny_newObj_type ?_)
    refine wpAny_pure ⟨plainId_quiet F.plain_sum_loop _, codeAny_sum_loopAnyS W' (fun j => match j with | 0 => i | j + 1 => val j) (fun a v hv => ?_) s.heap.objs.size hSf n 1 _ t₀ 0 st hs2 rfl (by omega)
      (W'.frame 1 s _ _ ⟨0, rfl, hst⟩ htk fun b _ o e => Heap.get?_push_of_some _ e) (e0 ▸ Heap.get?_push_size _ rfl) fun s' t' hm => ?_⟩
    · obtain ⟨j, rfl, hp⟩ := hv; exact hval j v hp
    · rw [preSum_shift]
      exact k s' t' (hm.drop_new htk)
  dsimp only
  split
  · exact wpAny_bind (wpAny_rule (wpAny_bind (wpAny_mkInt (wpAny_bind (wpAny_pure (tl _ 0 _ (.inl rfl) (Nat.le_succ _)))))))
  · exact wpAny_bind (wpAny_pure (tl t 2 s.toks (.inr rfl) (Nat.le_refl _)))

section
variable {M : Model} {A : Around} {E : Value → Shared → Prop} {gg : Array GenState} {d : Drawn} {tk : Nat} {os : OsState} {g h h' : Heap} {L : Addr} {m mg mb : Str → Option Value} {news news' : List (Addr × Obj)} {K : Frag} {p : Program} {loose : List Str}
/-- a built-in's name, read in a def -/
theorem ldB {env : Env} {x : Str} {v : Value} {Q : Value → Shared → Prop} (X : K.In h) (T : TR p loose mg mb h) (hk : env.scope.kind = .function) (hks : env.kindOf x = some .globalImplicit) (hg : env.globals = mainGlobals) (hb : env.builtins = builtinsNs)
    (e : nsIn K mainGlobals x = some none) (hv : bootBuiltins x = some v) (hn : x ≠ "__name__") (k : Q v ⟨h, gg, d, tk, os⟩) : wpAny M A (loadName env x) Q E ⟨h, gg, d, tk, os⟩ :=
  ks_loadName_global hk hks (loadGlobal_builtin (hg ▸ T.g) (mg_none_of X T.g e) (hb ▸ T.b) ((T.builtins _ hn).trans hv) k)
/-- a name of the module, read in a def -/
theorem ldG {env : Env} {x : Str} {v : Value} {Q : Value → Shared → Prop} (X : K.In h) (T : TR p loose mg mb h) (hk : env.scope.kind = .function) (hks : env.kindOf x = some .globalImplicit) (hg : env.globals = mainGlobals)
    (e : nsIn K mainGlobals x = some (some v)) (k : Q v ⟨h, gg, d, tk, os⟩) : wpAny M A (loadName env x) Q E ⟨h, gg, d, tk, os⟩ :=
  ks_loadName_global hk hks (loadGlobal_global (hg ▸ T.g) (mg_of X T.g e) k)
theorem r_ldB {env : Env} {x : Str} {v : Value} {Q : Value → Shared → Prop} (S : St g L m h news) (X : K.In g) (T : TR p loose mg mb g) (hk : env.scope.kind = .function) (hks : env.kindOf x = some .globalImplicit) (hg : env.globals = mainGlobals) (hb : env.builtins = builtinsNs)
    (e : nsIn K mainGlobals x = some none) (hv : bootBuiltins x = some v) (hn : x ≠ "__name__") (k : Q v ⟨h, gg, d, tk, os⟩) : wpAny M A (loadName env x) Q E ⟨h, gg, d, tk, os⟩ :=
  ldB (S.K X) (T.keeps S.F.keep) hk hks hg hb e hv hn k
theorem r_ldG {env : Env} {x : Str} {v : Value} {Q : Value → Shared → Prop} (S : St g L m h news) (X : K.In g) (T : TR p loose mg mb g) (hk : env.scope.kind = .function) (hks : env.kindOf x = some .globalImplicit) (hg : env.globals = mainGlobals)
    (e : nsIn K mainGlobals x = some (some v)) (k : Q v ⟨h, gg, d, tk, os⟩) : wpAny M A (loadName env x) Q E ⟨h, gg, d, tk, os⟩ :=
  ldG (S.K X) (T.keeps S.F.keep) hk hks hg e k
theorem St.keeps (S : St g L m h news) (hk : ∀ b o, h.get? b = some o → h'.get? b = some o) : St g L m h' news :=
  ⟨S.F.keeps hk, fun q hq => ⟨hk _ _ (S.N q hq).1, (S.N q hq).2⟩, S.nd⟩
/-- a step that leaves all but one entry's object -/
theorem St.ext {P : Addr} {o o' : Obj} (S : St g L m h news) (U : Up P o o' news news') (hx : Heap.ExtBut P h h') (e : h'.get? P = some o') : St g L m h' news' := by
  have z := S.N _ U.mem
  obtain ⟨oL, es, ep, eL, r⟩ := S.F.ns
  refine ⟨⟨⟨oL, es, ep, hx _ _ (fun q => z.2.1 q.symm) eL, r⟩, fun b ob eb => hx b ob (fun q => ?_) (S.F.keep b ob eb), S.F.above⟩, fun q hq => ?_, by rw [U.keys]; exact S.nd⟩
  · subst q
    have := z.2.2
    rw [eb] at this; cases this
  · rcases U.of S.nd q hq with rfl | ⟨hl, n⟩
    · exact ⟨e, z.2⟩
    · exact ⟨hx _ _ n (S.N q hl).1, (S.N q hl).2⟩
/-- a step that leaves all but the first entry's object and what is new -/
theorem St.moved {I C : Addr} {o : Obj} (S : St g L m h ((I, o) :: news)) (hC : h.get? C = none) (hx : ∀ b ob, b ≠ I → b ≠ C → h.get? b = some ob → h'.get? b = some ob) : St g L m h' news := by
  have z := S.N _ (.head _)
  have nc : ∀ b ob, h.get? b = some ob → b ≠ C := fun b ob e q => by rw [q, hC] at e; cases e
  obtain ⟨oL, es, ep, eL, r⟩ := S.F.ns
  refine ⟨⟨⟨oL, es, ep, hx _ _ (fun q => z.2.1 q.symm) (nc _ _ eL) eL, r⟩, fun b ob eb => hx b ob (fun q => ?_) (nc _ _ (S.F.keep b ob eb)) (S.F.keep b ob eb), S.F.above⟩, fun q hq => ?_, (List.nodup_cons.mp S.nd).2⟩
  · subst q
    have := z.2.2
    rw [eb] at this; cases this
  · have y := S.N q (.tail _ hq)
    refine ⟨hx _ _ (fun e => ?_) (nc _ _ y.1) y.1, y.2⟩
    exact (List.nodup_cons.mp S.nd).1 (List.mem_map.mpr ⟨q, hq, e⟩)
end
/-- what a call leaves of the generators -/
def GK (a b : Array GenState) : Prop := (∀ i, i < a.size → b[i]? = a[i]?) ∧ a.size ≤ b.size ∧ (AllBare a → AllBare b)
theorem GK.refl (a : Array GenState) : GK a a := ⟨fun _ _ => rfl, Nat.le_refl _, id⟩
theorem GK.trans {a b c : Array GenState} (x : GK a b) (y : GK b c) : GK a c := ⟨fun i hi => (y.1 i (Nat.lt_of_lt_of_le hi x.2.1)).trans (x.1 i hi), Nat.le_trans x.2.1 y.2.1, fun h => y.2.2 (x.2.2 h)⟩
theorem GK.of {a b : Array GenState} {gs : GenState} (hb : gs.bare = true) (x : GenOnlyQ a.size (a.push gs) b) : GK a b := by
  refine ⟨fun i hi => ?_, ?_, fun h => ?_⟩
  · rcases x with rfl | ⟨⟨_, ho⟩, _⟩
    · rw [Array.getElem?_push_lt hi, Array.getElem?_eq_getElem hi]
    · rw [ho i (Nat.ne_of_lt hi), Array.getElem?_push_lt hi, Array.getElem?_eq_getElem hi]
  · rcases x with rfl | ⟨⟨z, _⟩, _⟩
    · simp
    · rw [z]; simp
  · exact x.bare (h.push hb)
end Mine
end

-- Eng11
section
open PySem PySem.W PySem.W.X PyProof.Rows PySem.Calls PySem.Builtin PySem.Builtin.List
set_option Elab.async false
set_option maxRecDepth 100000
set_option linter.unusedVariables false
set_option maxHeartbeats 4000000
namespace Mine
/-- the object that holds a text's code table -/
def TabOk (o : Obj) : Prop := ∃ ps, o.data = .fields ps ∧ TriplesOk ps.toList ∧ o = tabObj ps
/-- a generator expression's code, found or made; the table stays one -/
theorem genCodeT {M : Model} {A : Around} {E : Value → Shared → Prop} {s : Shared} {env : Env} {c P : Addr} {ps : Array Value} {pos : Pos} {qualname : Str} {scope : Scope} {Q : Value → Shared → Prop} (hc : env.code = .ref c) (hok : s.heap.IsCode c P ps) (htab : s.heap.TableAt c P ps)
    (hQ : ∀ code h' tk ps', Heap.ExtBut P s.heap h' → h'.IsCode c P ps' → h'.TableAt c P ps' → Q code { s with heap := h', toks := tk }) : wpAny M A (genexprCode env pos qualname scope) Q E s := by
  cases hnf : codeAmong pos ps.toList with
  | some cv => exact wpAny_genexprCode_hit hc hok hnf (hQ cv s.heap s.toks ps (Heap.ExtBut.refl _ _) hok htab)
  | none => exact wpAny_genexprCodeX hc hok htab hnf fun c' h' tk hx _ _ hi _ ht _ => hQ _ _ _ _ hx hi ht
theorem pass_all (n : Nat) : passing (fun _ => true) n 0 = List.range n := by simp [passing]
section
variable {prog : Program} {w : World} {A : Around} {E : Value → Shared → Prop} {gg : Array GenState} {d : Drawn} {tk : Nat} {os : OsState} {g h : Heap} {L : Addr} {m mg mb : Str → Option Value} {news : List (Addr × Obj)}
  {K : Frag} {p : Program} {loose : List Str} {x C P c : Addr} {ox op : Obj}
/-- a generator expression over the pairs of a row, made -/
theorem r_gen {env : Env} {elt : Expr} {xs xa xb : Str} {pself pa pb pt pos : Pos} {kt : Nat} {scope : Scope} {Q : Value → Shared → Prop} {items : Array Value} {Ts : Nat → Addr} {vals : Nat → Array Value} {F : Nat → Value → Prop} {n : Nat} {oc : Obj} {vs : Array Value} {file : Str} {tf : Tok} {fl : Int} {tg : Tok} {inF : Bool} {txt : Int} {tt : Tok}
    (S : St g L m h news) (X : K.In g) (T : TR p loose mg mb g) (hh : A.handled = none) (hA : A.depth < recursionLimit)
    (hdb : (xs == Str.ofString "__debug__") = false) (hk : env.scope.kind = .function) (hl : env.kindOf xs = some .local) (he : env.locals = L) (hv : m xs = some (.ref x)) (hg : env.globals = mainGlobals) (hcd : env.code = .ref c)
    (hm : (x, ox) ∈ news) (hc : ox.cls = .ref C) (hf : findIn K (.ref C) "__iter__" = some (some (.builtin "list.__iter__"))) (hls : mroIn K C (.type "list") = some true) (hdt : ox.data = .seq items n)
    (hit : ∀ j, j < items.size → items[j]? = some (.ref (Ts j))) (hT : ∀ j, j < items.size → h.IsTuple (Ts j) (vals j)) (hP : (P, op) ∈ news) (hop : TabOk op) (hTP : ∀ j, j < items.size → Ts j ≠ P) (hpair : ∀ j, j < items.size → ∃ va vb, vals j = #[va, vb])
    (hoc : K.lookup c = some oc) (hod : oc.data = .fields vs) (h11 : vs.getD 11 .none = .ref P) (h18 : vs.getD 18 .none = .str file tf) (h7 : vs.getD 7 .none = .int fl tg) (h9 : vs.getD 9 .none = .bool inF) (h10 : vs.getD 10 .none = .int txt tt)
    (hco : scope.isCoroutine = false) (hclos : closureFor scope env = pure []) (hcell : ∀ y ∈ scope.names, y.2 ≠ .cell) (h0 : scope.names.lookup (".0" : Str) = some NameKind.local)
    (hxa : scope.names.lookup xa = some .local) (hxb : scope.names.lookup xb = some .local) (hab : xa ≠ xb) (hkind : scope.kind = .function)
    (helt : ∀ (Cl : Addr) (code : Value) (A' : Around) (E' : Value → Shared → Prop) i va vb (t : Shared) m₂, A'.handled = none → A'.depth ≤ A.depth + 1 → A'.units ≤ A.units + 8 → i < items.size → vals i = #[va, vb] → t.heap.Ns Cl m₂ → m₂ xa = some va → m₂ xb = some vb → K.In t.heap → TR p loose mg mb t.heap →
      wpAny (model prog w) A' (eval elt (genEnv scope [] Cl code builtinsNs env)) (fun y s₃ => F i y ∧ Keeps t s₃) E' t)
    (k : ∀ (op' : Obj) (I a : Addr) (h₄ h₅ : Heap) tk gs (Z : Nat → Shared → Prop), TabOk op' → (∀ news', Up P op op' news news' → St g L m h₄ ((I, lit x 0) :: news')) → gs.bare = true → (∀ b o, h₄.get? b = some o → h₅.get? b = some o) → h₄.objs.size < a → h₅.objs.size = a + 1 →
      WalksS prog w A.in4 a (a :: h₄.objs.size :: List.range h₄.objs.size) (h₄.objs.size :: [I]) (GenOnlyQ gg.size) items.size (fun j y => j < items.size ∧ F j y) Z → Z 0 ⟨h₅, gg.push gs, d, tk, os⟩ → (∀ i s, Z i s → s.TypeIs (.ref a) "generator") →
      Q (.ref a) ⟨h₅, gg.push gs, d, tk, os⟩) (hcc : oc.cls = .type "code" := by rfl) :
    wpAny (model prog w) A (eval (.GeneratorExp elt [⟨.Tuple [.Name xa pa, .Name xb pb] kt pt, .Name xs pself, [], 0⟩] scope pos) env) Q E ⟨h, gg, d, tk, os⟩ := by
  have pl : (passing (fun _ => true) items.size 0).length = items.size := by rw [pass_all, List.length_range]
  refine wpAny_GeneratorExp_walksQTD hh hco hclos hcell h0 hxa hxb hab hkind hA ?_ (fun x => rfl)
  refine wpAny_Name (r_ld S hk hl he hv ?_) hdb
  refine r_pyIter S X hm hc hf hls ?_
  intro I h₂ S₂ l₂ k₂
  refine ⟨T.nolimit.keeps S₂.F.keep, ?_⟩
  obtain ⟨ps, hps, htr, heq⟩ := hop
  have cP : c ≠ P := fun e => by
    have := X _ _ hoc
    rw [e, (S.N _ hP).2.2] at this; cases this
  have hic : h₂.IsCode c P ps := ⟨oc, vs, file, tf, fl, tg, inF, txt, tt, op, S₂.base X hoc, hod, h11, h18, h7, h9, h10, S₂.get (.tail _ hP), hps, htr, cP⟩
  have hta : h₂.TableAt c P ps := ⟨⟨oc, vs, S₂.base X hoc, hcc, hod, by
    rw [Array.getD_eq_getD_getElem?] at h11
    cases q : vs[11]? with
    | none => rw [q] at h11; cases h11
    | some v => rw [q] at h11; exact congrArg some h11⟩, (S₂.get (.tail _ hP)).trans (congrArg some heq)⟩
  refine genCodeT hcd hic hta ?_
  intro code h₃ tk₃ ps' hx₃ hic₃ hta₃
  obtain ⟨_, _, _, _, _, _, _, _, _, op', _, _, _, _, _, _, _, hop', hpd', htr', _⟩ := hic₃
  have heq' : op' = tabObj ps' := Option.some.inj (hop'.symm.trans hta₃.2)
  have S₃ : ∀ news', Up P op op' news news' → St g L m h₃ ((I, lit x 0) :: news') := fun news' U => S₂.ext (.tail U) hx₃ hop'
  obtain ⟨news₁, U₁⟩ := Up.ex op' hP
  have S₃' := S₃ _ U₁
  have T₃ := T.keeps S₃'.F.keep
  obtain ⟨bm, ob, M⟩ := T₃.bm
  rw [hg]
  refine wpAny_builtinsFor M.ns M.name M.ne M.obj M.cls M.dict M.data ?_
  have hIt := S₃'.get (.head _)
  have hne : x ≠ I := fun e => (List.nodup_cons.mp S₂.nd).1 (List.mem_map.mpr ⟨_, hm, e⟩)
  have hTI : ∀ j, j < items.size → Ts j ≠ I := fun j hj e => by
    obtain ⟨o, ho, _⟩ := hT j hj
    have hs := Heap.lt_size ho
    rw [e, l₂] at hs
    exact Nat.lt_irrefl _ hs
  have hxP : x ≠ P := fun e => by
    have a1 := S.get hm
    have a2 := S.get hP
    rw [e, a2] at a1
    cases a1
    rw [hps] at hdt; cases hdt
  have up : ∀ b o, b ≠ P → h.get? b = some o → h₃.get? b = some o := fun b o nb e => hx₃ b o nb (k₂ b o e)
  have seq : SeqIs h₃ x items := ⟨ox, n, up _ _ hxP (S.get hm), hdt⟩
  have tups : ∀ j, j < items.size → h₃.IsTuple (Ts j) (vals j) := fun j hj => let ⟨o, ho, r⟩ := hT j hj; ⟨o, up _ _ (hTP j hj) ho, r⟩
  have gI : ∀ b o, g.get? b = some o → b ∉ [I] := fun b o e hb => by
    have := (S₃'.N _ (.head _)).2.2
    rw [List.mem_singleton.mp hb] at e
    rw [e] at this; cases this
  refine ⟨I, I :: x :: (List.range items.size).map Ts, [I], items.size, _, _, _, fun _ => true, F, rfl, fun A' hA' => walkTups hA' I x hne items Ts vals hit hTI, ?_, ?_, ?_, T₃.nolimit, ?_, ?_, ?_⟩
  · rintro i vals' ⟨hi, rfl⟩
    exact hpair i hi
  · exact ⟨⟨_, hIt, rfl, rfl⟩, seq, tups⟩
  · intro b hb
    rcases List.mem_cons.mp hb with rfl | hb
    · exact Heap.lt_size hIt
    rcases List.mem_cons.mp hb with rfl | hb
    · obtain ⟨o, n', ho, _⟩ := seq; exact Heap.lt_size ho
    · obtain ⟨j, hj, rfl⟩ := List.mem_map.mp hb
      obtain ⟨o, ho, _⟩ := tups j (List.mem_range.mp hj)
      exact Heap.lt_size ho
  · intro hb
    obtain ⟨mc, hns, _⟩ := T.nolimit
    obtain ⟨o, es, ep, ho, _⟩ := hns
    exact gI _ _ ho hb
  · intro href hhref
    have kb : ∀ (t : Shared), (∀ b ∈ List.range h₃.objs.size, b ∉ [I] → ∀ o, href.get? b = some o → t.heap.get? b = some o) → ∀ b o, g.get? b = some o → t.heap.get? b = some o := fun t hkp b o e =>
      hkp b (List.mem_range.mpr (Heap.lt_size (S₃'.F.keep b o e))) (gI b o e) o (hhref b o (S₃'.F.keep b o e))
    refine ⟨fun A' E' i va vb t m₂ _ _ _ _ _ _ _ _ => wpAny_pure ⟨rfl, t.heap, t.toks, rfl, fun _ _ e => e⟩, fun A' E' i va vb t m₂ hA' hD hU hPt _ hn hma hmb hkp => ?_⟩
    exact helt _ _ A' E' i va vb t m₂ hA' hD hU hPt.1 hPt.2.symm hn hma hmb (X.keeps (kb t hkp)) (T.keeps (kb t hkp))
  · intro a h₅ tk₅ gs hgb hag hsz₅ hk₅ W hat
    rw [pl] at W
    have W' : WalksS prog w A.in4 a (a :: h₃.objs.size :: List.range h₃.objs.size) (h₃.objs.size :: [I]) (GenOnlyQ gg.size) items.size (fun j y => j < items.size ∧ F j y) _ := {
      sub := W.sub, grefl := W.grefl, gtrans := W.gtrans, frame := W.frame, done := W.done, self := W.self
      item := fun i s Q' E' hi hz hq => W.item i s Q' E' hi hz fun v s' hv hz' hm' => hq v s' (by
        obtain ⟨i', hi', hF⟩ := hv
        rw [pass_all, List.getElem?_range hi] at hi'
        cases hi'
        exact ⟨hi, hF⟩) hz' hm' }
    exact k op' I a h₃ h₅ tk₅ gs _ ⟨ps', hpd', htr', heq'⟩ S₃ hgb hk₅ hag hsz₅ W' hat fun i s st => st.1.typeIs
end
end Mine
end

-- Eng12
section
open PySem PySem.W PySem.W.X PyProof.Rows PySem.Calls PySem.Builtin PySem.Builtin.List
set_option Elab.async false
set_option maxRecDepth 100000
set_option linter.unusedVariables false
set_option maxHeartbeats 4000000
namespace Mine
section
variable {prog : Program} {w : World} {A : Around} {E : Value → Shared → Prop} {s : Shared} {K : Frag} {x C f : Addr} {ox : Obj} {od : Option Obj}
/-- an object of the class's truth by its own __len__ -/
theorem truthy_lenK {Q : Bool → Shared → Prop} (X : K.In s.heap) (I : InstAt s.heap x ox C od) (hb : findIn K (.ref C) "__bool__" = some none) (hs : findIn K (.ref C) "__len__" = some (some (.ref f))) (hf : typeIn K (.ref f) = some (.type "function"))
    (h : wpAny (model prog w) A.in1 (call (.ref f) [.ref x]) (fun v s' => ∃ n t, v = .int n t ∧ (0 ≤ n ∧ n < 2 ^ 63) ∧ Q (n != 0) { s' with toks := s'.toks + 1 }) E s) : wpAny (model prog w) A (truthy (.ref x)) Q E s := by
  unfold truthy
  refine wpAny_bind (m := callSpecial? (.ref x) (Str.ofString "__bool__")) (wpAny_bind (wpAny_bind (I.type.here ((looks_findIn X hb).here (wpAny_pure ?_)))))
  refine wpAny_bind (wpAny_bind (I.type.here ((looks_findIn X hs).here ?_)))
  refine wpAny_bind (wpAny_mono (Q := fun r s' => ∃ n t, r = .int n t ∧ Q (n != 0) s') (E := E) (wpAny_runValue (codeAny_builtin entry_len ?_)) (fun r s' hr => ?_) fun _ _ e => e)
  · rw [Around.under_plainId plain_len _]
    unfold Builtin.«len»
    refine wpAny_bind (m := oneArg "len" _) (wpAny_pure ?_)
    refine wpAny_bind (m := callSpecial? (.ref x) (Str.ofString "__len__")) (special_fn X I hs hf (wpAny_mono h (fun r s' hr => ?_) fun _ _ y => y))
    obtain ⟨n, u, rfl, ⟨h0, h1⟩, hq⟩ := hr
    refine wpAny_bind (wpAny_holding (wpAny_pure (wpAny_bind (wpAny_letGo ?_))))
    show wpAny _ _ (if n < 0 then _ else _) _ _ _
    rw [if_neg (by omega)]
    show wpAny _ _ (if n ≥ 2 ^ 63 then _ else _) _ _ _
    rw [if_neg (by omega)]
    exact wpAny_bind (wpAny_mkInt (wpAny_pure ⟨n, _, rfl, hq⟩))
  · obtain ⟨n, t, rfl, hq⟩ := hr
    exact wpAny_pure hq
end
end Mine
end

-- Eng13
section
open PySem PySem.W PySem.W.X PyProof.Rows PySem.Calls PySem.Builtin PySem.Builtin.List
set_option Elab.async false
set_option maxRecDepth 100000
set_option linter.unusedVariables false
set_option maxHeartbeats 4000000
namespace Mine
theorem ent_setitem : entryFor table "list.__setitem__" = some PySem.Builtin.«list.__setitem__» := entryFor_of_tree (by kernel_rfl)
abbrev sl0 : Obj := ⟨.type "slice", none, .fields #[.none, .none, .none], #[]⟩
section
variable {prog : Program} {w : World} {A : Around} {E : Value → Shared → Prop} {gg : Array GenState} {d : Drawn} {tk : Nat} {os : OsState} {g h : Heap} {L : Addr} {m : Str → Option Value} {news news' : List (Addr × Obj)}
  {K : Frag} {x C sl nl : Addr} {dc : Option Addr} {xs : Array Value} {n n' q : Nat}
/-- x[:] = [] -/
theorem r_clear {Q : Unit → Shared → Prop} (S : St g L m h news) (X : K.In g) (hf : findIn K (.ref C) "__setitem__" = some (some (.builtin "list.__setitem__"))) (hls : mroIn K C (.type "list") = some true) (hdq : mroIn K C (.type "collections.deque") = some false)
    (U : Up x ⟨.ref C, dc, .seq xs n, #[]⟩ ⟨.ref C, dc, .seq #[] n', #[]⟩ news news') (hn : n' = if xs.size = 0 then n else n + 1) (hsl : (sl, sl0) ∈ news) (hnl : (nl, (⟨.type "list", none, .seq #[] q, #[]⟩ : Obj)) ∈ news) (hz : xs.size ≤ 1000)
    (k : ∀ h', St g L m h' news' → Q () ⟨h', gg, d, tk, os⟩) : wpAny (model prog w) A (setItem (.ref x) (.ref sl) (.ref nl)) Q E ⟨h, gg, d, tk, os⟩ := by
  have X' := S.K X
  have hx := S.get U.mem
  have hs := S.get hsl
  have hl := S.get hnl
  have T : Looks (model prog w) h (typeOf (.ref x)) (.ref C) := (Looks.ld hx).andThen .now
  have hi : Looks (model prog w) h (isInstance (.ref x) (.type "list")) true := isInst X' hx rfl hls
  have hTs : (⟨h, gg, d, tk, os⟩ : Shared).TypeIs (.ref sl) "slice" := ⟨_, hs, rfl⟩
  have hTl : (⟨h, gg, d, tk, os⟩ : Shared).TypeIs (.ref nl) "list" := ⟨_, hl, rfl⟩
  have nex : (x == nl) = false := by
    rw [beq_eq_false_iff_ne]
    intro e
    rw [e, hl] at hx; cases hx
  unfold setItem
  refine wpAny_holding (wpAny_bind ?_)
  unfold sequenceKey
  refine wpAny_bind (T.at ?_)
  have dq : Looks (model prog w) h (seqItemTypes.anyM fun n => isSubtype (.ref C) (.type n)) false := by
    unfold seqItemTypes
    exact (looks_mroIn X' hdq).andThen .now
  refine wpAny_bind (dq.at ?_)
  refine wpAny_pure (wpAny_bind ?_)
  refine wpAny_bind (wpAny_bind (T.at ((looks_findIn X' hf).at (wpAny_holding (wpAny_bind ?_)))))
  rw [PySem.slot_list_setitem.bind]
  refine wpAny_pure (wpAny_bind (wpAny_call (code_bi (by decide +kernel) ent_setitem (.inr (by decide +kernel)) (owner := "list") (nm := "__setitem__") (by decide +kernel) hi (by unfold argsOk; kernel_rfl) ?_)))
  unfold PySem.Builtin.«list.__setitem__»
  refine wpAny_bind (m := listBlankSlotArgs _ _ _) (wpAny_pure ?_)
  refine wpAny_bind (m := listSubscript? (.ref sl)) ?_
  unfold listSubscript?
  refine wpAny_bind (wpAny_specialOf hTs slice_no_index ?_)
  refine wpAny_pure ?_
  refine wpAny_bind (m := typeOf (.ref sl)) (wpAny_typeOf hTs ?_)
  rw [if_neg (by decide)]
  rw [listSliceParts_eq]
  refine wpAny_bind (wpAny_bind (wpAny_field hs rfl (x := .none) rfl (wpAny_bind (wpAny_listPart .none ?_))))
  rw [if_neg (by decide)]
  refine wpAny_bind (wpAny_field hs rfl (x := .none) rfl (wpAny_bind (wpAny_listPart .none ?_)))
  refine wpAny_bind (wpAny_field hs rfl (x := .none) rfl (wpAny_bind (wpAny_listPart .none (wpAny_pure ?_))))
  have nex' : ¬ (listSameRef (.ref x) (.ref nl) = true) := by show ¬ ((x == nl) = true); rw [nex]; decide
  dsimp only
  rw [if_neg nex']
  refine wpAny_bind (m := listAllItems (.ref nl) _) ?_
  unfold listAllItems
  refine wpAny_bind (wpAny_typeOf hTl ?_)
  rw [if_pos (by decide)]
  refine r_listItems S hnl ?_
  refine wpAny_bind (r_listItems S U.mem ?_)
  refine wpAny_bind (wpAny_of_eq (sliceIndices_raw none none none xs.size (by simp)) ?_)
  dsimp only [sliceBounds]
  rw [if_pos (by decide)]
  refine wpAny_bind (wpAny_rule ?_)
  rw [if_neg (by simp [listTooLong, sizeLine_eq]; omega)]
  refine wpAny_bind (m := listUpdate (.ref x) _) (r_updateSeq S U (f := fun xs' => xs'.extract 0 (0 : Int).toNat ++ #[] ++ xs'.extract (max (0 : Int) (xs.size : Int)).toNat xs'.size) ?_ (by simp) ?_)
  · by_cases z : xs.size = 0
    · rw [mapSeq_eq (ys := #[]) (by simp [z]) (by simp [z]), hn, if_pos z]
    · rw [mapSeq_ne (ys := #[]) (by simp) (by simp; omega), hn, if_neg z]
  · intro h' S'
    refine wpAny_bind (wpAny_letGo ?_)
    exact wpAny_pure (wpAny_pure (wpAny_pure (k h' S')))
end
end Mine
end

-- Eng14
section
open PySem PySem.W PySem.W.X PyProof.Rows PySem.Calls PySem.Builtin PySem.Builtin.ObjectAttr
set_option Elab.async false
set_option maxRecDepth 100000
set_option linter.unusedVariables false
set_option maxHeartbeats 4000000
namespace Mine
section
variable {prog : Program} {w : World} {A : Around} {E : Value → Shared → Prop} {gg : Array GenState} {d : Drawn} {tk : Nat} {os : OsState} {g h : Heap} {L : Addr} {m : Str → Option Value} {news news' : List (Addr × Obj)}
  {K : Frag} {C x dx f q : Addr} {ox : Obj} {es es' : List DictEntry} {n n' : Nat} {name : Str} {v : Value}
/-- a def of the class, read off an object of the class whose class has a built-in list for its base -/
theorem r_bound {expr : Bool} {Q : Value → Shared → Prop} (c : ClsOk K C) (ga : findIn K (.ref C) "__getattribute__" = some (some (.builtin "list.__getattribute__"))) (ml : mroIn K C (.type "list") = some true) (hf : findIn K (.ref C) name = some (some (.ref f))) (ht : typeIn K (.ref f) = some (.type "function"))
    (hgf : specialIn K (.ref f) "__get__" = some (some (.builtin "function.__get__"))) (htk : takesIn K (.ref f) = some false) (hcn : copiedNames.contains name = false)
    (S : St g L m h news) (X : K.In g) (hm : (x, ox) ∈ news) (hc : ox.cls = .ref C) (hno : notCls ox = true) (hd : ox.dict = some dx) (hdm : (dx, dictOf es n) ∈ news) (hl : getL name es = some none)
    (k : ∀ q h', St g L m h' ((q, methodObj (.ref f) (.ref x)) :: news) → L < q → Q (.ref q) ⟨h', gg, d, tk + 1, os⟩) : wpAny (model prog w) A (getAttr (.ref x) name expr) Q E ⟨h, gg, d, tk, os⟩ := by
  have I := inst_of S hm hc hno hd hdm
  have hfo := findObj_fn (od := dictOf es n) c.hd hf hgf htk hcn (by rw [lookIn_dict, hl])
  have X' := S.K X
  have T := I.type (M := model prog w)
  have L1 := looks_find (M := model prog w) X' I hfo
  unfold getAttr getAttrBy
  refine wpAny_bind (wpAny_mkText (wpAny_holding (wpAny_bind (T.at (wpAny_bind ((looks_findIn X' ga).at ?_))))))
  show wpAny _ _ (getAttrByItsOwn (.ref x) (.str name tk) (.ref C) (.builtin "list.__getattribute__") true expr) _ _ _
  unfold getAttrByItsOwn
  refine wpAny_bind (m := hookBefore (.ref C)) ((show Looks (model prog w) h (hookBefore (.ref C)) none from looks_findIn X' c.gt).at (wpAny_bind (wpAny_attempt ?_)))
  have e1 : callGetattribute (.ref x) (.str name tk) (.builtin "list.__getattribute__") expr = boundAndCalled (.builtin "list.__getattribute__") (.ref x) (.str name tk) := by
    unfold callGetattribute
    rw [show onTheHeap (.builtin "list.__getattribute__") = false from rfl, Bool.and_false]; rfl
  rw [e1]
  refine wpAny_holding (wpAny_bind ?_)
  rw [PySem.F.slot_list_getattribute.bind]
  refine wpAny_pure (wpAny_call (code_bi PySem.F.slot_list_getattribute.plain ent_list_ga (.inr (by decide +kernel)) (owner := "list") (nm := "__getattribute__") (by decide +kernel) (isInst X' (S.get hm) hc ml) (by unfold argsOk; kernel_rfl) ?_))
  refine wpAny_bind (wpAny_pure (wpAny_bind (wpAny_pure (wpAny_bind (T.at (wpAny_bind (L1.at ?_)))))))
  refine wpAny_bind (wpAny_holding (wpAny_call (fn_get X' ht ?_)))
  refine wpAny_pure ?_
  show wpAny _ _ (handedOut _) _ _ _
  exact handed_on rfl (k _ _ (S.push rfl) S.lt)
theorem MethodStar {M : Model} {s : Shared} {env : Env} {o : Expr} {name : Str} {apos pos : Pos} {args : List Expr} {Q : Value → Shared → Prop}
    (h : wpAny M A (eval o env) (fun ov s₁ => wpAny M A (getAttr ov name true) (fun f s₂ => wpAny M A (callWith pos f [] (backTo pos (starEach args env)) []) Q E s₂) E s₁) E s)
    (he : eval (.Call (.Attribute o name apos) args [] pos) env = (do
      let ov ← eval o env
      standAt apos.atName
      let f ← holding [ov] (do let f ← getAttr ov name true; pure (f, ([] : List Value)))
      callWith pos f.1 f.2 (backTo pos (starEach args env)) []) := by rfl) :
    wpAny M A (eval (.Call (.Attribute o name apos) args [] pos) env) Q E s := by
  rw [he]
  exact wpAny_bind (wpAny_mono h (fun ov s₁ h₁ => wpAny_bind (wpAny_standAt (wpAny_bind (wpAny_holding (wpAny_bind (wpAny_mono h₁ (fun fx s₂ h₂ => wpAny_pure h₂) fun _ _ x => x)))))) fun _ _ x => x)
/-- q(*e) upon a bound method -/
theorem callStarM {env : Env} {pos p : Pos} {e : Expr} {Q : Value → Shared → Prop} {self : Value} (hf : fnIn K f = true)
    (h' : wpAny (model prog w) A (eval e env) (fun v s₁ => StarOf (model prog w) A E v (fun vs s₂ => (s₂.heap.get? q = some (methodObj (.ref f) self) ∧ K.In s₂.heap) ∧ wpAny (model prog w) A (call (.ref q) vs) Q E s₂) s₁) E ⟨h, gg, d, tk, os⟩)
    (he : starEach [.Starred e p] env = [(true, eval e env)] := by rfl) : wpAny (model prog w) A (callWith pos (.ref q) [] (backTo pos (starEach [.Starred e p] env)) []) Q E ⟨h, gg, d, tk, os⟩ := by
  rw [he]
  exact ks_call (P := MethP K q f self) rfl (keeps_M hf) (ks_lone h')
end
end Mine
end

-- Eng15
section
open PySem PySem.W PySem.W.X PyProof.Rows PySem.Calls PySem.Builtin
set_option Elab.async false
set_option maxRecDepth 100000
set_option linter.unusedVariables false
set_option maxHeartbeats 4000000
namespace Mine
open PySem.Builtin._codecs
def octs (s : Str) : Array UInt8 := s.cps.map fun c => c.toUInt8
theorem fold_octs (xs : List Nat) : ∀ acc : Array UInt8, xs.foldl (fun acc y => acc ++ (asciiCodec.bytesOf y).toArray) acc = acc ++ (xs.map fun c => c.toUInt8).toArray := by
  induction xs with
  | nil => intro acc; simp
  | cons x r ih =>
    intro acc
    rw [List.foldl_cons, ih]
    simp [asciiCodec]
theorem loop_once {σ : Type} {n : Nat} {init fin : σ} {f : Nat → σ → Sem (ForInStep σ)} (h0 : n = 0 → init = fin) (h1 : 0 < n → f 0 init = pure (.yield fin)) (h2 : ∀ x, f x fin = pure (.done fin)) : (forIn (List.range' 0 n) init f : Sem σ) = pure fin := by
  cases n with
  | zero => rw [h0 rfl]; rfl
  | succ m =>
    rw [List.range'_succ, List.forIn_cons, h1 (by omega), pure_bind]
    cases m with
    | zero => rfl
    | succ k =>
      dsimp only
      rw [List.range'_succ, List.forIn_cons, h2, pure_bind]
theorem enc_ascii (self : Value) (s : Str) (hs : ∀ c ∈ s.cps.toList, c < 128) (hz : s.length ≤ 1000) : encodeNarrow "str.encode" asciiCodec none self s = pure (octs s) := by
  obtain ⟨cps⟩ := s
  have hall : ∀ c ∈ cps, asciiCodec.bad c = false := fun c hc => by
    have := hs c (Array.mem_toList_iff.mpr hc)
    simp [asciiCodec]; omega
  have hf : cps.findIdx? asciiCodec.bad = none := by
    rw [Array.findIdx?_eq_none_iff]; exact hall
  have ho : cps.foldl (fun acc y => acc ++ (asciiCodec.bytesOf y).toArray) #[] = octs ⟨cps⟩ := by
    rw [← Array.foldl_toList, fold_octs]; apply Array.ext'; simp [octs]
  have hsz : (octs ⟨cps⟩).size = cps.size := by simp [octs]
  have hcz : cps.size ≤ 1000 := hz
  unfold encodeNarrow
  dsimp only
  rw [Std.Legacy.Range.forIn_eq_forIn_range']
  simp only [Std.Legacy.Range.size, Nat.sub_zero, Nat.add_sub_cancel, Nat.div_one]
  rw [loop_once (fin := (cps.size, octs ⟨cps⟩, {}))]
  · rfl
  · intro hn
    have : cps = #[] := Array.eq_empty_of_size_eq_zero hn
    subst this
    simp [octs]
  · intro hn
    have hn' : 0 < cps.size := hn
    have h0 : cps[0]? = some cps[0] := Array.getElem?_eq_getElem hn'
    have b0 : asciiCodec.bad cps[0] = false := hall _ (Array.getElem_mem _)
    rw [if_neg (by simp)]
    simp only [h0, b0, Bool.not_false, if_true, Array.extract_size, hf, Option.getD_none, ho, Nat.zero_add]
  · intro x
    rw [if_neg (by rw [hsz, sizeLine_eq]; omega)]
    have h1 : cps[cps.size]? = none := by simp
    simp only [h1]
end Mine
end

-- Eng16
section
open PySem PySem.W PySem.W.X PyProof.Rows PySem.Calls PySem.Builtin
set_option Elab.async false
set_option maxRecDepth 100000
set_option linter.unusedVariables false
set_option maxHeartbeats 4000000
namespace Mine
abbrev subL (C dx : Addr) : Obj := ⟨.ref C, some dx, .seq #[] 0, #[]⟩
/-- a class of the text that is made by list.__new__ -/
structure MakesL (M : Model) (h : Heap) (C : Addr) : Prop where
  obj : ∃ oc od cd sl, h.get? C = some ⟨oc, od, .cls cd, sl⟩ ∧ cd.abstract = false ∧ cd.hasDel = false ∧ cd.mro.isEmpty = false ∧ cd.hasDict = true
  made : Looks M h (Bind.madeBy (.ref C)) (some "list.__new__")
  base : Looks M h (Bind.staticBase (.ref C)) (.ref C)
  self : Looks M h (isSubtype (.ref C) (.ref C)) true
  top : Looks M h (isSubtype (.ref C) (.type "list")) true
  call : Looks M h (specialOf (.ref C) "__call__") (some (.builtin "type.__call__"))
  typ : Looks M h (isInstance (.ref C) (.type "type")) true
theorem makesL_of {K : Frag} {M : Model} {h : Heap} (X : K.In h) {C : Addr} {oc : Value} {od : Option Addr} {cd : ClassData} {sl : Array (Option Value)} {l : List Value} (ho : K.lookup C = some ⟨oc, od, .cls cd, sl⟩) (e1 : cd.abstract = false) (e2 : cd.hasDel = false)
    (e3 : (sl.toList[4]?).join = some (.builtin "list.__new__")) (hl : cd.mro = .ref C :: l) (e5 : cd.hasDict = true) (e6 : mroIn K C (.ref C) = some true) (e7 : mroIn K C (.type "list") = some true) (e8 : specialIn K (.ref C) "__call__" = some (some (.builtin "type.__call__"))) (e9 : instIn K (.ref C) (.type "type") = some true) : MakesL M h C := by
  have hc : clsIn K C = some cd := by unfold clsIn; rw [ho]
  have hm : Looks M h (mroOf (.ref C)) cd.mro := (looks_clsIn X hc).andThen .now
  have made : Looks M h (Bind.madeBy (.ref C)) (some "list.__new__") := by
    intro A Q E s k q
    unfold Bind.madeBy
    refine wpAny_bind (hm A _ E s k ?_)
    rw [hl, List.forIn_cons]
    refine wpAny_bind (wpAny_bind (wpAny_bind (wpAny_bind (wpAny_loadPart (k _ _ (X _ _ ho)) (wpAny_pure ?_)))))
    dsimp only
    rw [← Array.getElem?_toList, e3]
    exact wpAny_pure (wpAny_pure (wpAny_pure q))
  refine ⟨⟨oc, od, cd, sl, X _ _ ho, e1, e2, by rw [hl]; rfl, e5⟩, made, ?_, looks_mroIn X e6, looks_mroIn X e7, looks_specialIn X e8, looks_instIn X e9⟩
  intro A Q E s k q
  unfold Bind.staticBase
  refine wpAny_bind (hm A _ E s k ?_)
  rw [hl, List.forIn_cons]
  exact wpAny_bind (wpAny_bind (wpAny_bind (made A _ E s k (wpAny_pure (wpAny_pure (wpAny_pure q))))))
section
variable {prog : Program} {w : World} {A : Around} {K : Frag} {C : Addr} {R : Result → Shared → Prop} {h : Heap} {g : Array GenState} {d : Drawn} {t : Nat} {os : OsState}
theorem new_L {a : Value} (Y : MakesL (model prog w) h C)
    (hq : R (.ok (.ret (.ref (h.objs.size + 1)))) ⟨(h.push emptyDict).push (subL C h.objs.size), g, d, t, os⟩) :
    codeAny (model prog w) A (.call (.builtin "list.__new__") ⟨[.ref C, a], []⟩) R ⟨h, g, d, t, os⟩ := by
  obtain ⟨⟨oc, od, cd, sl, hC, e1, e2, e4, e5⟩, made, base, self, top, call, typ⟩ := Y
  refine codeAny_of_tree ?_
  show wpAny _ A.in1 (do checkBuiltinCall "list.__new__" ⟨[.ref C, a], []⟩; again (.builtin "list.__new__" ⟨[.ref C, a], []⟩)) _ _ _
  refine wpAny_bind ?_
  have k1 : builtinKind "list.__new__" = some .builtinFn := by decide +kernel
  have k2 : splitId "list.__new__" = some ("list", "__new__") := by decide +kernel
  have ha : argsOk "list.__new__" ⟨[.ref C, a], []⟩ := by unfold argsOk; kernel_rfl
  simp only [checkBuiltinCall, k1, k2]
  rw [if_pos (by decide)]
  refine wpAny_bind (ks_wpAny_isType_cls hC rfl ?_)
  rw [if_neg (by decide)]
  refine wpAny_bind (top.at ?_)
  rw [if_neg (by decide)]
  refine wpAny_bind (base.at (wpAny_bind (made.at ?_)))
  dsimp only
  rw [if_neg (by simp)]
  have fin : wpAny (model prog w) A.in1 (again (.builtin "list.__new__" ⟨[.ref C, a], []⟩)) (fun fin s' => match fin with | .done f => R (.ok f) s' | .again c' => c'.quiet = true ∧ codeAny (model prog w) A c' R s') (fun e s' => R (.error e) s') ⟨h, g, d, t, os⟩ := by
    refine wpAny_pure ⟨plainId_quiet F.plain_list_new _, codeAny_builtin_stack F.entry_list_new rfl fun p st => ?_⟩
    rw [Around.under_plainId F.plain_list_new _]
    have hown := owner_list_new
    simp only [hown]
    refine wpAny_bind (ks_wpAny_isType_cls hC rfl ?_)
    rw [if_neg (by decide)]
    refine wpAny_bind (top.at ?_)
    rw [if_neg (by decide)]
    refine wpAny_bind (wpAny_pure ?_)
    rw [if_neg (by show ¬ ((!true) = true); decide)]
    refine wpAny_bind (wpAny_newObj_type ?_ (by size_fits))
    refine wpAny_bind ?_
    show wpAny _ _ (newObjAsIs _ _ _) _ _ _
    unfold newObjAsIs classHasDel
    refine wpAny_bind (wpAny_alloc (wpAny_bind (wpAny_bind (wpAny_load (Heap.get?_push_of_some _ (Heap.get?_push_of_some _ hC)) (wpAny_pure ?_)))))
    rw [e2]
    refine wpAny_pure (wpAny_pure ?_)
    show R _ _
    rw [Heap.size_push]
    exact hq
  cases hsig : Manifest.signature? "list.__new__" with
  | none => exact wpAny_pure fin
  | some sig =>
    simp only [argsOk, hsig] at ha
    have h2 : Bind.checkArgs "list.__new__" sig ⟨[.ref C, a], []⟩ = pure () := ha
    show wpAny _ _ (Bind.checkArgs "list.__new__" sig ⟨[.ref C, a], []⟩) _ _ _
    rw [h2]; exact wpAny_pure fin
theorem make_L {a : Value} {init : Value} (Y : MakesL (model prog w) h C) (hi : Looks (model prog w) h (typeLookup (.ref C) "__init__") (some init))
    (hb : ∀ self, Looks (model prog w) h (bindSpecial init self) (init, [self]))
    (hq : codeAny (model prog w) (A.under (.builtin "type.__call__" ⟨[.ref C, a], []⟩)) (.call init ⟨[.ref (h.objs.size + 1), a], []⟩) (InitBack (h.objs.size + 1) R) ⟨(h.push emptyDict).push (subL C h.objs.size), g, d, t, os⟩) :
    codeAny (model prog w) A (.call (.ref C) ⟨[a], []⟩) R ⟨h, g, d, t, os⟩ := by
  have Y' := Y
  obtain ⟨⟨oc, od, cd, sl, hC, e1, e2, e4, e5⟩, made, base, self, top, call, typ⟩ := Y
  refine codeAny_of_tree ?_
  show wpAny _ _ (callAny (.ref C) _) _ _ _
  refine nd_load hC ?_
  show wpAny _ _ (callAny.viaDunder (.ref C) _) _ _ _
  unfold callAny.viaDunder
  refine wpAny_bind (call.at ?_)
  dsimp only
  rw [tc_bind]
  refine wpAny_bind (wpAny_pure (wpAny_bind (wpAny_pure ?_)))
  refine wpAny_pure (a := Fin.again (.call (.builtin "type.__call__") ⟨[.ref C, a], []⟩)) (And.intro rfl ?_)
  refine codeAny_call_builtin_at (Code.quiet_builtin _ (by decide +kernel)) entry_typeCall (check_slot tc_kind tc_split typ (tc_args _ _ _) ?_)
  unfold Builtin.«type.__call__»
  have hm : Looks (model prog w) h (mroOf (.ref C)) cd.mro := ((Looks.ld (part := none) hC).andThen .now).andThen .now
  repeat (first | simp only [e4, Bool.false_eq_true, if_false] | with_reducible refine wpAny_call ?_ | lk)
  refine new_L Y' ?_
  have k : ∀ b o, h.get? b = some o → ((h.push emptyDict).push (subL C h.objs.size)).get? b = some o := fun b o e => Heap.get?_push_of_some _ (Heap.get?_push_of_some _ e)
  have hx : ((h.push emptyDict).push (subL C h.objs.size)).get? (h.objs.size + 1) = some (subL C h.objs.size) := by heap_get
  have t1 : Looks (model prog w) ((h.push emptyDict).push (subL C h.objs.size)) (typeOf (.ref (h.objs.size + 1))) (.ref C) := (Looks.ld hx).andThen .now
  have s1 := self.keeps k
  have i1 := hi.keeps k
  have b1 := (hb (.ref (h.objs.size + 1))).keeps k
  unfold isInstance callSpecial? specialOf
  repeat (first | with_reducible refine wpAny_call ?_ | lk)
  refine codeAny_mono hq fun r s' z => ?_
  rcases r with e | (v | _ | _ | _) <;> first | exact z | exact z.elim | skip
  obtain ⟨rfl, z⟩ := z
  exact wpAny_pure (wpAny_pure z)
end
end Mine
end

-- Eng17
section
open PySem PySem.W PySem.W.X PyProof.Rows PySem.Calls PySem.Builtin
set_option Elab.async false
set_option maxRecDepth 100000
set_option linter.unusedVariables false
set_option maxHeartbeats 4000000
namespace Mine
open PySem.Builtin._codecs
theorem rf_eq {α : Type} (codec : String) (self : Value) (i stop : Nat) (reason : String) : (raiseEncodeFault {} codec self i stop reason : Sem α) = (do let e ← (do call (.type "UnicodeEncodeError") [← mkStr codec, ← pure self, ← mkInt i, ← mkInt stop, ← mkStr reason]); raiseNew e) := by rfl
section
variable {M : Model} {A : Around} {E : Value → Shared → Prop} {s : Shared}
theorem wp_loop1 {σ : Type} {n : Nat} {init : σ} {f : Nat → σ → Sem (ForInStep σ)} {Q : σ → Shared → Prop} (hn : 0 < n) (h : ∀ Q', wpAny M A (f 0 init) Q' E s) : wpAny M A (forIn (List.range' 0 n) init f) Q E s := by
  obtain ⟨m, rfl⟩ : ∃ m, n = m + 1 := ⟨n - 1, by omega⟩
  rw [List.range'_succ, List.forIn_cons]
  exact wpAny_bind (h _)
theorem wp_loop2 {σ : Type} {n : Nat} {init mid : σ} {f : Nat → σ → Sem (ForInStep σ)} {Q : σ → Shared → Prop} (hn : 1 < n) (h0 : f 0 init = pure (.yield mid)) (h : ∀ Q', wpAny M A (f 1 mid) Q' E s) : wpAny M A (forIn (List.range' 0 n) init f) Q E s := by
  obtain ⟨m, rfl⟩ : ∃ m, n = m + 2 := ⟨n - 2, by omega⟩
  rw [List.range'_succ, List.forIn_cons, h0, pure_bind]
  dsimp only
  rw [List.range'_succ, List.forIn_cons]
  exact wpAny_bind (h _)
theorem enc_bad {self : Value} {x : Str} {i : Nat} {Q : Array UInt8 → Shared → Prop} (hi : x.cps.findIdx? asciiCodec.bad = some i) (hz : x.length ≤ 1000)
    (k : ∀ (β : Type) stop (Q' : β → Shared → Prop), stop ≤ x.length → wpAny M A (raiseEncodeFault {} "ascii" self i stop asciiCodec.reason : Sem β) Q' E s) :
    wpAny M A (encodeNarrow "str.encode" asciiCodec none self x) Q E s := by
  obtain ⟨cps⟩ := x
  dsimp only at hi
  obtain ⟨hsz, hb, hbef⟩ := Array.findIdx?_eq_some_iff_getElem.mp hi
  have hcz : cps.size ≤ 1000 := hz
  have hst : ((none : Option Str).getD (Str.ofString "strict")).toString = "strict" := by decide +kernel
  have hbh : (builtinHandlers.any (·.1 == "strict")) = true := by decide +kernel
  have hstop : ∀ j, j ≤ cps.size → j + ((Array.findIdx? (fun y => !asciiCodec.bad y) (cps.extract j)).getD (cps.size - j)) ≤ cps.size := fun j hj => by
    cases e : Array.findIdx? (fun y => !asciiCodec.bad y) (cps.extract j) with
    | none => simp; omega
    | some q =>
      obtain ⟨h, _⟩ := Array.findIdx?_eq_some_iff_getElem.mp e
      simp at h ⊢; omega
  unfold encodeNarrow
  dsimp only
  rw [Std.Legacy.Range.forIn_eq_forIn_range']
  simp only [Std.Legacy.Range.size, Nat.sub_zero, Nat.add_sub_cancel, Nat.div_one, hst]
  by_cases h0 : i = 0
  · subst h0
    refine wpAny_bind (wp_loop1 (by exact hsz) ?_)
    intro Q'
    rw [if_neg (by simp)]
    have e0 : cps[0]? = some cps[0] := Array.getElem?_eq_getElem hsz
    simp only [e0, hb]
    rw [if_neg (by decide)]
    refine wpAny_bind (wpAny_rule ?_)
    with_unfolding_all refine (show wpAny M A (if ("strict" == "strict" && !asciiCodec.name == "utf-8") = true then _ else _) Q' E s from ?_)
    rw [if_pos (by decide)]
    exact wpAny_bind (k _ _ _ (hstop _ (Nat.zero_le _)))
  · have hp : 0 < cps.size := by omega
    have e0 : cps[0]? = some cps[0] := Array.getElem?_eq_getElem hp
    have b0 : asciiCodec.bad cps[0] = false := by have := hbef 0 (by omega); simpa using this
    have hfs : ∀ (l : List Nat) (acc : Array UInt8), (l.foldl (fun acc y => acc ++ (asciiCodec.bytesOf y).toArray) acc).size = acc.size + l.length := fun l => by
      induction l with
      | nil => intro acc; simp
      | cons y r ih => intro acc; rw [List.foldl_cons, ih]; simp [asciiCodec]; omega
    refine wpAny_bind (wp_loop2 (by show 1 < cps.size; omega) (mid := (i, ((cps.extract 0 cps.size).extract 0 i).foldl (fun acc y => acc ++ (asciiCodec.bytesOf y).toArray) #[], {})) ?_ ?_)
    · rw [if_neg (by simp)]
      simp only [e0, b0]
      rw [if_pos (by decide)]
      simp only [Array.extract_size, hi, Option.getD_some, Nat.zero_add]
    · intro Q'
      rw [if_neg (by
        rw [← Array.foldl_toList, hfs, sizeLine_eq]; simp; omega)]
      have ei : cps[i]? = some cps[i] := Array.getElem?_eq_getElem hsz
      simp only [ei, hb]
      rw [if_neg (by decide)]
      refine wpAny_bind (wpAny_rule ?_)
      with_unfolding_all refine (show wpAny M A (if ("strict" == "strict" && !asciiCodec.name == "utf-8") = true then _ else _) Q' E s from ?_)
      rw [if_pos (by decide)]
      exact wpAny_bind (k _ _ _ (hstop _ (by omega)))
end
end Mine
end

-- Eng18
section
open PySem PySem.W PySem.W.X PyProof.Rows PySem.Calls PySem.Builtin
set_option Elab.async false
set_option maxRecDepth 100000
set_option linter.unusedVariables false
set_option maxHeartbeats 4000000
namespace Mine
open PySem.Builtin.UnicodeEncodeError
theorem ueeNew : ExcNewFacts "UnicodeEncodeError" "UnicodeEncodeError.__new__" where
  ends := by decide +kernel
  owner := by decide +kernel
  entry := entryFor_alias (id' := "BaseException.__new__") (by rw [fastTable_eq_tree]; kernel_rfl) (by first | rfl | decide +kernel) (by decide +kernel) (by rw [fastTable_eq_tree]; kernel_rfl)
  sub := by rw [isSubtype_type]; kernel_rfl
  notAttr := by rw [isSubtype_type]; kernel_rfl
  notName := by rw [isSubtype_type]; kernel_rfl
  made := by kernel_rfl
theorem uee_notType : (Value.type "UnicodeEncodeError" == Value.type "type") = false := by decide +kernel
theorem uee_canMake : ((Manifest.find? "UnicodeEncodeError").bind fun x => List.findSome? (fun t => (Manifest.find? t).bind fun b =>
    if b.noNew = true then some true else if (b.attrs.any fun x => x.fst == "__new__") = true then some false else none) x.mro).getD false = false := by kernel_rfl
theorem uee_noVector (args : Args) : checkTypeCall "UnicodeEncodeError" args = pure () := by kernel_rfl
theorem uee_mro : mroOf (.type "UnicodeEncodeError") = pure [.type "UnicodeEncodeError", .type "UnicodeError", .type "ValueError", .type "Exception", .type "BaseException", .type "object"] := by rw [mroOf_type]; kernel_rfl
theorem uee_madeBy : Bind.madeBy (.type "UnicodeEncodeError") = pure (some "UnicodeEncodeError.__new__") := by kernel_rfl
theorem uee_newOk (rest : List Value) : checkBuiltinCall "UnicodeEncodeError.__new__" ⟨.type "UnicodeEncodeError" :: rest, []⟩ = pure () := by kernel_rfl
theorem uee_init : Slot "UnicodeEncodeError" "__init__" "UnicodeEncodeError.__init__" := .of (owner := "UnicodeEncodeError") (n := "__init__") (by rw [typeLookup_type, builtinLookup_eq_fast]; kernel_rfl) (by decide +kernel) (by decide +kernel) (by decide +kernel)
    (by first | exact .inl (by decide +kernel) | exact .inr (by decide +kernel)) (by rw [isSubtype_type]; kernel_rfl)
theorem uee_initEntry : entryFor table "UnicodeEncodeError.__init__" = some Builtin.«UnicodeEncodeError.__init__» := entryFor_of_tree (by kernel_rfl)
section
variable {prog : Program} {w : World} {A : Around} {E : Value → Shared → Prop} {gg : Array GenState} {d : Drawn} {tk : Nat} {os : OsState} {g h : Heap} {L : Addr} {m : Str → Option Value} {news news' : List (Addr × Obj)}
  {e : Addr} {T : String} {vs vs' : Array Value}
abbrev exO (T : String) (vs : Array Value) : Obj := ⟨.type T, none, .fields vs, #[]⟩
theorem r_updateFields {M : Model} {f : Array Value → Array Value} {Q : Unit → Shared → Prop} (S : St g L m h news) (U : Up e (exO T vs) (exO T vs') news news') (he : f vs = vs') (hz : vs'.size ≤ 1000)
    (k : ∀ h', St g L m h' news' → Q () ⟨h', gg, d, tk, os⟩) : wpAny M A (updateFields e f) Q E ⟨h, gg, d, tk, os⟩ := by
  have S' := S.upd (f := Obj.mapFields f) U (by subst he; rfl) rfl
  unfold updateFields
  refine wpAny_bind (wpAny_load (S.get U.mem) ?_)
  refine wpAny_bind (wpAny_updatePart (S.get U.mem) ?_)
  exact wpAny_lookBehind (S'.get U.mem') (by simp [Data.pastItsLine, sizeLine_eq]; omega) (k _ S')
theorem ex1 (a0 a1 a2 a3 a4 a5 b0 b1 b2 b3 b4 : Value) : (#[a0, a1, a2, a3, a4, a5] : Array Value).extract 0 6 ++ #[b0, b1, b2, b3, b4] = #[a0, a1, a2, a3, a4, a5, b0, b1, b2, b3, b4] := by rfl
theorem ex2 (a0 a1 a2 a3 a4 a5 c0 c1 c2 c3 c4 b0 b1 b2 b3 b4 : Value) : (#[a0, a1, a2, a3, a4, a5, c0, c1, c2, c3, c4] : Array Value).extract 0 6 ++ #[b0, b1, b2, b3, b4] = #[a0, a1, a2, a3, a4, a5, b0, b1, b2, b3, b4] := by rfl
theorem ex3 (a0 a1 a2 a3 a4 a5 : Value) : ((#[a0, a1, a2, a3, a4, a5] : Array Value).extract 6).toList = [] := by rfl
theorem ex4 (a0 a1 a2 a3 a4 a5 c0 c1 c2 c3 c4 : Value) : ((#[a0, a1, a2, a3, a4, a5, c0, c1, c2, c3, c4] : Array Value).extract 6).toList = [c0, c1, c2, c3, c4] := by rfl
theorem r_mem1 {M : Model} {a0 a1 a2 a3 a4 a5 : Value} {Q : Members → Shared → Prop} (S : St g L m h news) (hm : (e, exO T #[a0, a1, a2, a3, a4, a5]) ∈ news) (k : Q {} ⟨h, gg, d, tk, os⟩) : wpAny M A (members (.ref e)) Q E ⟨h, gg, d, tk, os⟩ := by
  unfold members
  refine wpAny_bind (wpAny_fieldsOf (S.get hm) rfl ?_)
  rw [ex3]; exact wpAny_pure k
theorem r_mem2 {M : Model} {a0 a1 a2 a3 a4 a5 c0 c1 c4 : Value} {i j : Int} {t u : Tok} {Q : Members → Shared → Prop} (S : St g L m h news) (hm : (e, exO T #[a0, a1, a2, a3, a4, a5, c0, c1, .int i t, .int j u, c4]) ∈ news) (k : Q ⟨c0, c1, i, j, c4⟩ ⟨h, gg, d, tk, os⟩) : wpAny M A (members (.ref e)) Q E ⟨h, gg, d, tk, os⟩ := by
  unfold members
  refine wpAny_bind (wpAny_fieldsOf (S.get hm) rfl ?_)
  rw [ex4]; exact wpAny_pure k
theorem setM_eq (e : Addr) (mm : Members) : setMembers (.ref e) mm = updateFields e fun vs => vs.extract 0 6 ++ #[mm.encoding, mm.object, rawInt mm.start, rawInt mm.stop, mm.reason] := rfl
theorem r_set1 {M : Model} {a0 a1 a2 a3 a4 a5 b0 b1 b4 : Value} {i j : Int} {Q : Unit → Shared → Prop} (S : St g L m h news) (U : Up e (exO T #[a0, a1, a2, a3, a4, a5]) (exO T #[a0, a1, a2, a3, a4, a5, b0, b1, rawInt i, rawInt j, b4]) news news')
    (k : ∀ h', St g L m h' news' → Q () ⟨h', gg, d, tk, os⟩) : wpAny M A (setMembers (.ref e) ⟨b0, b1, i, j, b4⟩) Q E ⟨h, gg, d, tk, os⟩ := by
  rw [setM_eq]
  exact r_updateFields S U (ex1 ..) (by simp) k
theorem r_set2 {M : Model} {a0 a1 a2 a3 a4 a5 c0 c1 c2 c3 c4 b0 b1 b4 : Value} {i j : Int} {Q : Unit → Shared → Prop} (S : St g L m h news) (U : Up e (exO T #[a0, a1, a2, a3, a4, a5, c0, c1, c2, c3, c4]) (exO T #[a0, a1, a2, a3, a4, a5, b0, b1, rawInt i, rawInt j, b4]) news news')
    (k : ∀ h', St g L m h' news' → Q () ⟨h', gg, d, tk, os⟩) : wpAny M A (setMembers (.ref e) ⟨b0, b1, i, j, b4⟩) Q E ⟨h, gg, d, tk, os⟩ := by
  rw [setM_eq]
  exact r_updateFields S U (ex2 ..) (by simp) k
theorem r_setField {M : Model} {i : Nat} {x : Value} {Q : Unit → Shared → Prop} (S : St g L m h news) (U : Up e (exO T vs) (exO T vs') news news') (he : vs.setIfInBounds i x = vs') (hi : i < vs.size)
    (k : ∀ h', St g L m h' news' → Q () ⟨h', gg, d, tk, os⟩) : wpAny M A (setField (.ref e) i x) Q E ⟨h, gg, d, tk, os⟩ :=
  wpAny_setField (S.get U.mem) rfl hi (k _ (S.upd (f := Obj.mapFields (·.setIfInBounds i x)) U (by subst he; rfl) rfl))
theorem strA {M : Model} {s : Shared} {id : String} {i : Nat} {x : Str} {t : Tok} {Q : Unit → Shared → Prop} (k : Q () s) : wpAny M A (strArgument id i (.str x t)) Q E s := by
  unfold strArgument
  refine wpAny_bind (wpAny_of_eq (show asStr? (.str x t) = pure (some x) from rfl) ?_)
  exact wpAny_pure k
theorem sizeA {M : Model} {s : Shared} {id : String} {i : Int} {t : Tok} {Q : Int → Shared → Prop} (h0 : 0 ≤ i) (h1 : i < 2 ^ 63) (k : Q i s) : wpAny M A (sizeArgument id (.int i t)) Q E s := by
  unfold sizeArgument
  refine wpAny_bind (wpAny_of_eq (show asIndex (.int i t) = pure i from rfl) ?_)
  rw [if_neg (by simp; omega)]
  exact wpAny_pure k
theorem run_uee_init {M : Model} {c x r : Str} {t0 : Addr} {t1 t2 t3 t4 t5 : Tok} {i j : Int} {Q : Fin → Shared → Prop} (h0 : 0 ≤ i) (h1 : i < 2 ^ 63) (h2 : 0 ≤ j) (h3 : j < 2 ^ 63) (S : St g L m h ((e, exO T #[.ref t0, .none, .none, .none, .bool false, .none]) :: news))
    (k : ∀ t h', St g L m h' ((t, ⟨.type "tuple", none, .seq [.str c t1, .str x t2, .int i t3, .int j t4, .str r t5].toArray 0, #[]⟩) :: (e, exO T #[.ref t, .none, .none, .none, .bool false, .none, .str c t1, .str x t2, rawInt i, rawInt j, .str r t5]) :: news) → L < t → Q (.done (.ret .none)) ⟨h', gg, d, tk, os⟩) :
    wpAny M A (Builtin.«UnicodeEncodeError.__init__» ⟨[.ref e, .str c t1, .str x t2, .int i t3, .int j t4, .str r t5], []⟩) Q E ⟨h, gg, d, tk, os⟩ := by
  unfold Builtin.«UnicodeEncodeError.__init__» beginInit
  dsimp only
  refine wpAny_bind ?_
  rw [if_neg (by decide)]
  refine wpAny_bind (wpAny_field (S.get (.head _)) rfl rfl ?_)
  refine wpAny_bind (r_newTuple S (by size_fits) ?_)
  clear S
  intro t h' S lt
  refine wpAny_bind (r_setField (vs' := #[.ref t, .none, .none, .none, .bool false, .none]) S (.tail .head) (by rfl) (by simp) ?_)
  clear S
  intro h' S
  refine wpAny_bind (wpAny_letGo ?_)
  rw [if_pos (by decide)]
  refine wpAny_bind (r_mem1 S (.tail _ (.head _)) ?_)
  refine wpAny_bind (r_set1 S (.tail .head) ?_)
  clear S; intro h' S
  refine wpAny_bind (wpAny_letGo ?_)
  refine wpAny_bind (r_mem2 S (.tail _ (.head _)) ?_)
  refine wpAny_bind (r_set2 S (.tail .head) ?_)
  clear S; intro h' S
  refine wpAny_bind (wpAny_letGo ?_)
  refine wpAny_bind (r_mem2 S (.tail _ (.head _)) ?_)
  refine wpAny_bind (r_set2 S (.tail .head) ?_)
  clear S; intro h' S
  refine wpAny_bind (wpAny_letGo ?_)
  rw [if_neg (by simp)]
  refine wpAny_pure ?_
  dsimp only
  refine wpAny_bind (strA (wpAny_bind (strA (wpAny_bind ?_))))
  unfold initRange
  refine wpAny_bind (sizeA h0 h1 (wpAny_bind ?_))
  refine r_mem2 S (.tail _ (.head _)) ?_
  refine wpAny_bind (r_set2 S (.tail .head) ?_)
  clear S; intro h' S
  refine wpAny_bind (sizeA h2 h3 (wpAny_bind ?_))
  refine r_mem2 S (.tail _ (.head _)) ?_
  refine r_set2 S (.tail .head) ?_
  clear S; intro h' S
  refine wpAny_bind (strA (wpAny_bind ?_))
  refine r_mem2 S (.tail _ (.head _)) ?_
  refine wpAny_bind (r_set2 S (.tail .head) ?_)
  clear S; intro h' S
  exact wpAny_pure (k _ _ S lt)
end
section
variable {prog : Program} {w : World} {A : Around} {E : Value → Shared → Prop} {gg : Array GenState} {d : Drawn} {tk : Nat} {os : OsState} {g h : Heap} {L : Addr} {m : Str → Option Value} {news news' : List (Addr × Obj)}
theorem call_uee {c x r : Str} {t1 t2 t3 t4 t5 : Tok} {i j : Int} {Q : Value → Shared → Prop} (h0 : 0 ≤ i) (h1 : i < 2 ^ 63) (h2 : 0 ≤ j) (h3 : j < 2 ^ 63) (S : St g L m h news)
    (k : ∀ e t h', St g L m h' ((t, ⟨.type "tuple", none, .seq [.str c t1, .str x t2, .int i t3, .int j t4, .str r t5].toArray 0, #[]⟩) :: (e, exO "UnicodeEncodeError" #[.ref t, .none, .none, .none, .bool false, .none, .str c t1, .str x t2, rawInt i, rawInt j, .str r t5]) :: news) → L < t → L < e → Q (.ref e) ⟨h', gg, d, tk, os⟩) :
    wpAny (model prog w) A (call (.type "UnicodeEncodeError") [.str c t1, .str x t2, .int i t3, .int j t4, .str r t5]) Q E ⟨h, gg, d, tk, os⟩ := by
  refine wpAny_call (codeAny_of_tree ?_)
  show wpAny _ _ (again (.builtin "type.__call__" ⟨.type "UnicodeEncodeError" :: _, []⟩)) _ _ _
  refine wpAny_pure ⟨Code.quiet_builtin _ (by decide +kernel), codeAny_builtin entry_typeCall ?_⟩
  have hnt := uee_notType
  have hcan := uee_canMake
  have hchk := uee_noVector ⟨[.str c t1, .str x t2, .int i t3, .int j t4, .str r t5], []⟩
  have hmro := uee_mro
  have hmade := uee_madeBy
  wp_walk
  refine codeAny_call_builtin_code (Code.quiet_builtin _ (by decide +kernel)) (wpAny_of_eq (uee_newOk _) ?_)
  refine codeAny_exc_new ueeNew ?_ (by size_fits)
  show wpAny _ _ _ _ _ _
  have S1 := S.push (o := { cls := .type "tuple", data := .seq [.str c t1, .str x t2, .int i t3, .int j t4, .str r t5].toArray }) rfl
  have S2 := S1.push (o := exO "UnicodeEncodeError" #[.ref h.objs.size, .none, .none, .none, .bool false, .none]) rfl
  have es : (h.push { cls := .type "tuple", data := .seq [.str c t1, .str x t2, .int i t3, .int j t4, .str r t5].toArray }).objs.size = h.objs.size + 1 := Heap.size_push ..
  rw [es] at S2
  have hget := S2.get (.head _)
  refine wpAny_bind (wpAny_isInstance ⟨_, hget, rfl⟩ ueeNew.sub ?_)
  wp_step
  refine wpAny_bind (wpAny_holding (wpAny_callSpecial?_slot ⟨_, hget, rfl⟩ uee_init (wpAny_call (code_bi uee_init.plain uee_initEntry (.inr (by decide +kernel)) (owner := "UnicodeEncodeError") (nm := "__init__") (by decide +kernel) ?_ (by unfold argsOk; kernel_rfl) ?_))))
  · exact (show Looks _ _ (typeOf (.ref (h.objs.size + 1))) (.type "UnicodeEncodeError") from (Looks.ld hget).andThen .now).andThen (Looks.of_pure ueeNew.sub)
  · have S3 : St g L m _ ((h.objs.size + 1, exO "UnicodeEncodeError" #[.ref h.objs.size, .none, .none, .none, .bool false, .none]) :: news) := ⟨S2.F, fun q hq => S2.N q (by rcases List.mem_cons.mp hq with rfl | hq; exact .head _; exact .tail _ (.tail _ hq)), by
      have := S2.nd
      simp only [List.map_cons, List.nodup_cons, List.mem_cons, not_or] at this ⊢
      exact ⟨this.1.2, this.2.2⟩⟩
    refine run_uee_init h0 h1 h2 h3 S3 ?_
    intro t h' S' lt
    have := S.lt
    wp_walk
    exact k _ _ _ S' lt (Nat.lt_succ_of_lt S.lt)
end
end Mine
end

-- Eng19
section
open PySem PySem.W PySem.W.X PyProof.Rows PySem.Calls PySem.Builtin
set_option Elab.async false
set_option maxRecDepth 100000
set_option linter.unusedVariables false
set_option maxHeartbeats 4000000
namespace Mine
theorem ent_unchain : entryFor table "proto.unchain" = some Builtin.«proto.unchain» := entryFor_of_tree (by kernel_rfl)
theorem pl_unchain : plainId "proto.unchain" = true := by decide +kernel
section
variable {prog : Program} {w : World} {A : Around} {E : Value → Shared → Prop} {s : Shared}
/-- a new exception's first note in a frame -/
theorem note_first {M : Model} {B : Heap} {env : Env} {outer : List Env} {L e : Addr} {T : String} {vs : Array Value} {Q : Unit → Shared → Prop} (hfr : A.frames = some (env :: outer)) (hl : s.heap.FunFrames B (env :: outer)) (hf : env.frame = some L)
    (hB : B.StaysIn s.heap) (he : s.heap.get? e = some (exO T vs)) (hen : B.get? e = none) (h1 : vs[1]? = some .none)
    (k : ∀ h' Tb oT ts, B.StaysIn h' → h'.FunFrames B (env :: outer) → h'.get? e = some (exO T (vs.setIfInBounds 1 (.ref Tb))) → B.get? Tb = none → Tb ≠ e → h'.get? Tb = some oT → oT.data = .fields ts → ts[3]? = some (rawInt L) → s.heap.UpToSlots h' → Q () { s with heap := h' }) :
    wpAny M A (noteFrame (.ref e) env) Q E s := by
  have hsz : 1 < vs.size := (Array.getElem?_eq_some_iff.mp h1).1
  have hene : e ∉ (env :: outer).filterMap (·.frame) := fun hm => by
    obtain ⟨_, o, ho, hnf⟩ := hl.mem hm
    rw [he] at ho; injection ho with ho; subst ho; exact hnf vs rfl
  unfold noteFrame
  simp only [hf]
  refine wpAny_bind (wpAny_field he rfl h1 ?_)
  rw [if_neg (by decide)]
  refine wpAny_bind (wpAny_frameOf_fun hfr hl hf fun h₁ hs₁ => ?_)
  refine wpAny_bind (wpAny_entryPlaceOf fun pl hpl => ?_)
  unfold EntryCells.newEntry newFields
  refine wpAny_bind (wpAny_newObj_type ?_ (hpl.sizeOk5 _ _ _ _ _))
  have he₁ : h₁.get? e = some (exO T vs) := (hs₁.2.1 e hene).trans he
  have kb₁ : B.StaysIn h₁ := fun b o hbo => (hs₁.2.1 b fun hm => by rw [(hl.mem hm).1] at hbo; cases hbo).trans (hB b o hbo)
  generalize hob : ({ cls := .type "traceback", dict := none, data := .fields ([Value.none, .ref L, .none, rawInt L, .none] ++ (if pl.isEmpty then List.replicate 6 Value.none else pl)).toArray } : Obj) = tb
  have htbd : tb.data = .fields ([Value.none, .ref L, .none, rawInt L, .none] ++ (if pl.isEmpty then List.replicate 6 Value.none else pl)).toArray := by rw [← hob]
  have htf : tb.isFreed = false := by rw [← hob]; rfl
  have he₂ := Heap.get?_push_of_some (h := h₁) tb he₁
  have hTe : h₁.objs.size ≠ e := Nat.ne_of_gt (Heap.lt_size he₁)
  refine wpAny_setField he₂ rfl hsz ?_
  have he₃ := Heap.get?_update_self (Obj.mapFields (·.setIfInBounds 1 (Value.ref h₁.objs.size))) he₂ rfl
  have hT₃ := (Heap.get?_update_other (h₁.push tb) (Obj.mapFields (·.setIfInBounds 1 (Value.ref h₁.objs.size))) (Ne.symm hTe)).trans (Heap.get?_push_size h₁ htf)
  have keep : ∀ b o, b ≠ e → h₁.get? b = some o → ((h₁.push tb).update e (Obj.mapFields (·.setIfInBounds 1 (Value.ref h₁.objs.size)))).get? b = some o := fun b o hbe hb => by
    rw [Heap.get?_update_other _ _ (Ne.symm hbe)]
    exact Heap.get?_push_of_some _ hb
  have noRecord : ∀ b o, s.heap.get? b = some o → (∀ vs, o.data ≠ .fields vs) → b ≠ e := fun b o hb hnf q => by
    rw [q, he] at hb; injection hb with hb; subst hb; exact hnf vs rfl
  refine k _ h₁.objs.size tb _ (fun b o hbo => keep b o (fun q => by rw [q, hen] at hbo; cases hbo) (kb₁ b o hbo)) (hl.of_keeps fun b o hb hnf => ?_) he₃ kb₁.fresh hTe hT₃ htbd (by first | (simp; done) | (rcases hpl with rfl | ⟨_, _, _, _, _, _, _, rfl⟩ <;> simp)) fun b o hb hnf => ?_
  · obtain ⟨sl, hs⟩ := hs₁.2.2 b o hb
    exact ⟨_, keep b _ (noRecord b o hb hnf) hs, rfl⟩
  · obtain ⟨sl, hs⟩ := hs₁.2.2 b o hb
    exact ⟨sl, keep b _ (noRecord b o hb hnf) hs⟩
theorem flight_none {M : Model} {B : Heap} {l : List Env} {e Tb : Addr} {T : String} {vs ts : Array Value} {oT : Obj} {Q : Unit → Shared → Prop} (kB : B.StaysIn s.heap) (FF : s.heap.FunFrames B l) (he : s.heap.get? e = some (exO T vs)) (h1 : vs[1]? = some (.ref Tb))
    (hTb : B.get? Tb = none) (ne : Tb ≠ e) (hT : s.heap.get? Tb = some oT) (hd : oT.data = .fields ts) (hz : 3 < ts.size)
    (k : ∀ h' oT' ts', B.StaysIn h' → h'.FunFrames B l → h'.get? e = some (exO T vs) → h'.get? Tb = some oT' → oT'.data = .fields ts' → ts'[3]? = some .none → s.heap.UpToSlots h' → Q () { s with heap := h' }) :
    wpAny M A (setFlight (.ref e) none) Q E s := by
  have other : ∀ b, b ≠ Tb → (s.heap.update Tb (Obj.mapFields (·.setIfInBounds 3 Value.none))).get? b = s.heap.get? b := fun b hb => Heap.get?_update_other _ _ (Ne.symm hb)
  have noRecord : ∀ b o, s.heap.get? b = some o → (∀ vs, o.data ≠ .fields vs) → b ≠ Tb := fun b o hb hnf q => by
    rw [q, hT] at hb; injection hb with hb; subst hb; exact hnf ts hd
  refine wpAny_setFlight_none he rfl h1 hT hd hz ?_
  exact k _ _ _ (fun b o hbo => (other b fun q => by rw [q, hTb] at hbo; cases hbo).trans (kB b o hbo)) (FF.of_keeps fun b o hb hnf => ⟨o, (other b (noRecord b o hb hnf)).trans hb, rfl⟩) ((other e (Ne.symm ne)).trans he)
    (Heap.get?_update_self _ hT (Obj.isFreed_of_fields (Obj.data_mapFields hd _))) (Obj.data_mapFields hd _) (by simp [hz]) fun b o hb hnf => ⟨o.slots, (other b (noRecord b o hb hnf)).trans hb⟩
/-- an exception that was noted in a frame leaves it -/
theorem leave_by {M : Model} {A' : Around} {B : Heap} {env : Env} {outer : List Env} {L e Tb : Addr} {T : String} {vs ts : Array Value} {oT : Obj} {a0 : Value} {Q : Value → Unit → Shared → Prop} {E' : Value → Value → Shared → Prop} (kB : B.StaysIn s.heap) (FF : s.heap.FunFrames B (env :: outer)) (hf : env.frame = some L)
    (he : s.heap.get? e = some (exO T vs)) (h0 : vs[0]? = some a0) (h1 : vs[1]? = some (.ref Tb)) (hen : B.get? e = none)
    (hTb : B.get? Tb = none) (ne : Tb ≠ e) (hT : s.heap.get? Tb = some oT) (hd : oT.data = .fields ts) (hts : ts[3]? = some (rawInt L))
    (k : ∀ h', Heap.FlyingW B outer e (.type T) a0 h' → s.heap.UpToSlots h' → Q (.ref e) () { s with heap := h' }) :
    cameBackBy M A env (fun x s' => wpAny M A' (leaving env x) (Q x) (E' x) s') (.ref e) s := by
  have hz : 3 < ts.size := (Array.getElem?_eq_some_iff.mp hts).1
  have other : ∀ b (v : Value), b ≠ Tb → (s.heap.update Tb (Obj.mapFields (·.setIfInBounds 3 v))).get? b = s.heap.get? b := fun b v hb => Heap.get?_update_other _ _ (Ne.symm hb)
  have noRecord : ∀ b o, s.heap.get? b = some o → (∀ vs, o.data ≠ .fields vs) → b ≠ Tb := fun b o hb hnf q => by
    rw [q, hT] at hb; injection hb with hb; subst hb; exact hnf ts hd
  unfold cameBackBy
  refine wpAny_bind (wpAny_field he rfl h1 ?_)
  rw [if_neg (by simp)]
  rw [hf]
  unfold setFlight
  refine wpAny_bind (wpAny_field he rfl h1 ?_)
  rw [if_pos (show (Value.ref Tb != Value.none) = true from by simp)]
  refine wpAny_setField hT hd hz ?_
  show wpAny M A' (leaving env (.ref e)) (Q (.ref e)) (E' (.ref e)) _
  have he' := (other e (rawInt L) (Ne.symm ne)).trans he
  have hT' := Heap.get?_update_self (Obj.mapFields (·.setIfInBounds 3 (rawInt L))) hT (Obj.isFreed_of_fields (Obj.data_mapFields hd _))
  have hd' := Obj.data_mapFields hd (·.setIfInBounds 3 (rawInt L))
  have hts' : (ts.setIfInBounds 3 (rawInt L))[3]? = some (rawInt L) := by simp [hz]
  unfold leaving
  refine wpAny_bind ?_
  unfold noteFrame
  simp only [hf]
  refine wpAny_bind (wpAny_field he' rfl h1 ?_)
  rw [if_pos (show (Value.ref Tb != Value.none) = true from by simp)]
  refine wpAny_bind (wpAny_field hT' hd' hts' ?_)
  rw [if_pos (show (rawInt L == rawInt L) = true from by first | (simp; done) | exact beq_self_eq_true _)]
  refine wpAny_pure ?_
  refine flight_none (B := B) (l := outer) (fun b o hbo => (other b _ fun q => by rw [q, hTb] at hbo; cases hbo).trans (kB b o hbo)) (FF.2.2.of_keeps fun b o hb hnf => ⟨o, (other b _ (noRecord b o hb hnf)).trans hb, rfl⟩) he' h1 hTb ne hT' hd' (by simpa using hz) ?_
  intro h' oT' ts' k1 k2 k3 k4 k5 k6 k7
  exact k h' ⟨k1, hen, k2, _, _, _, _, _, k3, ⟨rfl, h0⟩, rfl, h1, hTb, ne, k4, k5, k6⟩ (Heap.UpToSlots.trans (fun b o hb hnf => ⟨o.slots, (other b _ (noRecord b o hb hnf)).trans hb⟩) k7)
/-- raise X(..) while another exception is handled -/
theorem raise_in {env : Env} {cls T1 : String} (F : ExcRaiseFacts cls) {x : Sem Value} {e1 : Addr} {Q : Flow → Shared → Prop} (hh : A.handled = some (.ref e1))
    (h : wpAny (model prog w) A x (fun v s₁ => ∃ e t vs, v = .ref e ∧ e ≠ e1 ∧ s₁.heap.get? e = some (exO cls #[.ref t, .none, .none, .none, .bool false, .none]) ∧ s₁.heap.get? e1 = some (exO T1 vs) ∧ vs[2]? = some .none ∧
      ∀ h', h'.get? e = some (exO cls #[.ref t, .none, .ref e1, .none, .bool false, .none]) → Heap.SameBut e s₁.heap h' → E (.ref e) { s₁ with heap := h' }) E s) :
    wpAny (model prog w) A (raiseStmt env (some x) none) Q E s := by
  unfold raiseStmt
  refine wpAny_bind (wpAny_mono h (fun v s₁ h₁ => ?_) fun _ _ x => x)
  obtain ⟨e, t, vs, rfl, ne, he, he1, h2, hE⟩ := h₁
  obtain ⟨hp, g, d, tk, os⟩ := s₁
  have hsub := F.isExc
  have hmeta := F.plainMeta
  repeat (first | refine wpAny_loadPart he ?_ | wp_step)
  unfold raiseNew
  refine wpAny_bind (wpAny_handled ?_)
  rw [hh]
  dsimp only
  rw [if_pos (by simpa using fun q => ne q.symm)]
  refine wpAny_bind (wpAny_holding (wpAny_runValue (codeAny_builtin ent_unchain ?_)))
  unfold Builtin.«proto.unchain»
  dsimp only
  refine wpAny_bind (wpAny_field he1 rfl h2 ?_)
  rw [if_pos (by decide)]
  refine wpAny_pure ?_
  unfold updateField
  refine wpAny_bind (wpAny_bind (wpAny_load he ?_))
  dsimp only
  rw [if_pos (by simp)]
  refine wpAny_updatePart he ?_
  exact wpAny_throw (hE _ (Heap.get?_update_self _ he rfl) (Heap.SameBut.update ..))
end
end Mine
end

-- Eng20
section
open PySem PySem.W PySem.W.X PyProof.Rows PySem.Calls PySem.Builtin PyProof.Rows.LCg
set_option Elab.async false
set_option maxRecDepth 100000
set_option linter.unusedVariables false
set_option maxHeartbeats 4000000
namespace Mine
abbrev genO (gi : Nat) (nm qn : Value) : Obj := ⟨.type "generator", none, .fields #[.int gi 0, nm, qn], #[]⟩
section
variable {prog : Program} {w : World} {A : Around} {E : Value → Shared → Prop} {R : Result → Shared → Prop} {h hb : Heap} {gg : Array GenState} {d : Drawn} {tk : Nat} {os : OsState} {K : Frag} {p : Program} {loose : List Str} {mg mb : Str → Option Value}
/-- the call of a generator def -/
theorem make_gen {f : Addr} {name qual : Str} {params : Arguments} {body : List Stmt} {scope : Scope} {dV kV doc pm cdv ct oc : Value} {an od : Option Addr} {osl : Array (Option Value)} {args : Args} {binds : List (Str × Value)}
    (X : K.In hb) (T : TR p loose mg mb hb) (hk : ∀ b o, hb.get? b = some o → h.get? b = some o)
    (ho : K.lookup f = some ⟨oc, od, .func (fnOf name qual params body scope dV kV doc pm an cdv ct), osl⟩) (hcd : codeIn K cdv qual = true) (hroom : A.depth < recursionLimit)
    (hbind : BindsTo ⟨h, gg, d, tk, os⟩ (fnOf name qual params body scope dV kV doc pm an cdv ct) args binds)
    (hcell : ∀ x ∈ scope.names, x.2 ≠ .cell) (hloc : ∀ y ∈ binds, scope.names.lookup y.1 = some .local)
    (k : ∀ h' tk' a C oC nm qn, Post h h' [] [(a, genO gg.size nm qn), (C, oC)] → NsObj oC (fun x => binds.reverse.lookup x) → C < a → C = h.objs.size →
      R (.ok (.ret (.ref a))) ⟨h', gg.push (.fresh (.func body (envOf qual scope C f cdv))), d, tk', os⟩)
    (hco : scope.isCoroutine = false := by rfl) (hgen : scope.isGenerator = true := by rfl) (hk' : scope.kind = .function := by rfl) :
    codeAny (model prog w) A (.call (.ref f) args) R ⟨h, gg, d, tk, os⟩ := by
  refine codeAny_call_generator (fd := fnOf name qual params body scope dV kV doc pm an cdv ct) (body := body) hroom (hk _ _ (X _ _ ho)) rfl hco hgen rfl (codeRec_of (X.keeps hk) hcd) (hbind _ _ _ _ ?_)
  refine wpAny_newFunctionEnv hcell hloc (fun h₀ hns₀ hsb₀ => ?_) hk'
  have k0 : ∀ b o, h.get? b = some o → h₀.get? b = some o := fun b o e => hsb₀.extBut b o (Nat.ne_of_lt (Heap.lt_size e)) (Heap.get?_push_of_some _ e)
  refine ⟨(T.nolimit.keeps hk).keeps k0, ?_⟩
  obtain ⟨oC, eC, nC⟩ := ns_obj hns₀
  have sz : h₀.objs.size = h.objs.size + 1 := hsb₀.1.trans (Heap.size_push ..)
  have lt : h.objs.size < h₀.objs.size := by rw [sz]; exact Nat.lt_succ_self _
  refine k _ _ h₀.objs.size h.objs.size oC (.str name (tk + binds.length)) (.str qual (tk + binds.length + 1)) ⟨by simp, ?_, ?_, fun b o e _ => Heap.get?_push_of_some _ (k0 b o e)⟩ nC lt rfl
  · simp only [List.forall_mem_cons]
    exact ⟨⟨Heap.get?_push_size _ rfl, Nat.le_of_lt lt⟩, ⟨Heap.get?_push_of_some _ eC, Nat.le_refl _⟩, List.forall_mem_nil _⟩
  · simp only [List.map_cons, List.map_nil, List.nodup_cons, List.mem_singleton, List.not_mem_nil, not_false_iff, and_true, List.nodup_nil]
    exact Nat.ne_of_gt lt
/-- next(g) upon a generator that goes on -/
theorem r_next {a : Addr} {gi n : Nat} {gs : GenState} {Y : Protocol} {Q : Value → Shared → Prop} {s : Shared} (hl : s.heap.NoLimit) (hroom : A.depth < recursionLimit) (hg : s.heap.IsGen a gi) (hgs : s.gens[gi]? = some gs)
    (hgo : gs.Goes (model prog w) A.in1.in1 (fun _ _ _ _ => False) Y (n + 1) (.send .none) (s.setGen gi .running))
    (hY : ∀ v s₁ gs', gs'.bare = true → Y n (s.setGen gi .running) v s₁ (fun r' s'' => gs'.Goes (model prog w) A.in1.in1 (fun _ _ _ _ => False) Y n r' s'') → Q v (s₁.setGen gi gs')) :
    wpAny (model prog w) A (call (.builtin "next") [.ref a]) Q E s := by
  refine call_function_entry (by decide +kernel) (by decide +kernel) kdk_entry_next (kdk_args_next _) ?_
  unfold Builtin.«next»
  refine wpAny_bind (m := someArgs _ _ _ _) (wpAny_pure ?_)
  refine wpAny_bind (wpAny_specialOf hg.typeIs slot_gen_next.lookup ?_)
  rw [if_neg (by decide)]
  dsimp only
  refine wpAny_bind (wpAny_callSpecial?_slot (name := Str.ofString "__next__") hg.typeIs slot_gen_next (wpAny_call_entry slot_gen_next hg.typeIs entry_gen_next ?_ (args_gen_next _)))
  show wpAny _ _ (Builtin.Generator.genWake (.ref a) (.send .none)) _ _ s
  unfold Builtin.Generator.genWake
  refine wpAny_bind (wpAny_holding (wpAny_genNumber hg (wpAny_bind (wpAny_genState hgs ?_))))
  cases gs with
  | running => exact hgo.elim
  | finished => exact hgo.elim
  | _ =>
    refine wpAny_bind (wpAny_roomToWake hl hroom ?_)
    show wpAny _ _ (.resume gi (.send .none) [] _) _ _ s
    refine wpAny_resumeQ hgs hgo (fun x s₁ hx => hx.elim) (fun v s₁ gs' hb hv => ?_)
    exact wpAny_pure ⟨v, rfl, wpAny_pure ⟨v, rfl, hY v s₁ gs' hb hv⟩⟩
end
end Mine
end

-- Eng21
section
open PySem PySem.W PySem.W.X PyProof.Rows PySem.Calls PySem.Builtin PyProof.Rows.LCg
set_option Elab.async false
set_option maxRecDepth 100000
set_option linter.unusedVariables false
set_option maxHeartbeats 4000000
namespace Mine
theorem pairedAt {α β : Type} {F : α → β → Prop} : ∀ {l₁ : List α} {l₂ : List β}, Paired F l₁ l₂ → ∀ (j : Nat) (b : β), l₂[j]? = some b → ∃ a, l₁[j]? = some a ∧ F a b
  | _, _, .cons h r, 0, b, e => by cases e; exact ⟨_, rfl, h⟩
  | _, _, .cons h r, j + 1, b, e => by
    obtain ⟨a, ha, hf⟩ := pairedAt r j b (by simpa using e)
    exact ⟨a, by simpa using ha, hf⟩
section
variable {prog : Program} {w : World} {A : Around} {E : Value → Shared → Prop} {g h : Heap} {L : Addr} {m : Str → Option Value} {news : List (Addr × Obj)}
/-- a list comprehension of one clause without a test -/
theorem r_comp {elt iter : Expr} {x : Str} {px : Pos} {scope : Scope} {cl : List (Str × Addr)} {pos : Pos} {env : Env} {Q : Value → Shared → Prop} {s : Shared} (F : Value → Value → Prop)
    (hclos : closureFor scope env = pure cl) (hcell : ∀ y ∈ scope.names, y.2 ≠ .cell) (hkind : scope.kind = .function)
    (hnames : ∀ y ∈ scope.names, y.2 = .local → scope.names.lookup y.1 = some .local) (hx : scope.names.lookup x = some .local)
    (h : wpAny (model prog w) A (eval iter env) (fun xv s₁ => wpAny (model prog w) A (pyIter xv) (fun it s₂ => ∃ I oI fp n P Z h₂ gg₂ d₂ tk₂ os₂, it = .ref I ∧ s₂ = ⟨h₂, gg₂, d₂, tk₂, os₂⟩ ∧ St g L m h₂ ((I, oI) :: news) ∧
      Walks prog w A I fp [I] n P Z ∧ n ≤ sizeLine ∧ Z 0 h₂ ∧ (∀ b ∈ fp, b < h₂.objs.size) ∧
      (∀ C i v s₃ m₃ E', h₂.objs.size ≤ C → P i v → s₃.heap.Ns C m₃ → m₃ x = some v → (∀ b o, g.get? b = some o → s₃.heap.get? b = some o) → (∀ q ∈ news, s₃.heap.get? q.1 = some q.2) →
        wpAny (model prog w) A (eval elt (compEnvC scope cl C env)) (fun y s₄ => F v y ∧ Keeps s₃ s₄) E' s₃) ∧
      (∀ D h' tk ys nn, St g L m h' ((D, ⟨.type "list", none, .seq ys nn, #[]⟩) :: news) → ys.size = n → (∀ j y, ys[j]? = some y → ∃ v, P j v ∧ F v y) → Q (.ref D) ⟨h', gg₂, d₂, tk, os₂⟩)) E s₁) E s)
    (hs : ∀ x, foldedSetIterable iter env x = pure x := by intro _; rfl) :
    wpAny (model prog w) A (eval (.ListComp elt [⟨.Name x px, iter, [], 0⟩] scope pos) env) Q E s := by
  refine wpAny_ListComp_free (fun _ => true) F hclos hcell hkind hnames hx (wpAny_mono h (fun xv s₁ h₁ => wpAny_mono h₁ (fun it s₂ h₂ => ?_) fun _ _ e => e) fun _ _ e => e) hs
  obtain ⟨I, oI, fp, n, P, Z, h₂, gg₂, d₂, tk₂, os₂, rfl, rfl, S, W, hn, hz, hfp, hel, hQ⟩ := h₂
  have zI := S.N _ (.head _)
  have offI : ∀ q ∈ news, q.1 ≠ I := fun q hq e => (List.nodup_cons.mp S.nd).1 (List.mem_map.mpr ⟨q, hq, e⟩)
  refine ⟨I, fp, [I], n, P, Z, rfl, W, hn, hz, hfp, ⟨?_, ?_⟩, ?_⟩
  · intro C i v s₃ m₃ E' _ _ _ _ _ _
    exact wpAny_pure ⟨rfl, s₃.heap, s₃.toks, rfl, fun _ _ e => e⟩
  · intro C i v s₃ m₃ E' hC hP _ hns hmx hk _
    refine hel C i v s₃ m₃ E' hC hP hns hmx (fun b o e => hk b o (fun q => ?_) (S.F.keep b o e)) (fun q hq => hk _ _ (by simpa using offI q hq) (S.N q (.tail _ hq)).1)
    have e' := List.mem_singleton.mp q
    have := zI.2.2
    rw [← e', e] at this; cases this
  · intro D h' tk ys vs hD hl hp hlen hP hF hk
    obtain ⟨nn, eD⟩ := hp
    have S' : St g L m h' news := S.moved hD fun b ob nI _ e => hk b ob (by simpa using nI) e
    have nD : ∀ b o, h₂.get? b = some o → b ≠ D := fun b o e q => by rw [q, hD] at e; cases e
    have S'' : St g L m h' ((D, ⟨.type "list", none, .seq ys nn, #[]⟩) :: news) := by
      refine ⟨S'.F, List.forall_mem_cons.2 ⟨⟨eD, ?_, ?_⟩, S'.N⟩, ?_⟩
      · obtain ⟨o, _, _, e, _⟩ := S.F.ns
        exact fun q => nD _ _ e q.symm
      · cases q : g.get? D with
        | none => rfl
        | some o => have := S.F.keep _ _ q; rw [hD] at this; cases this
      · rw [List.map_cons, List.nodup_cons]
        refine ⟨fun q => ?_, S'.nd⟩
        obtain ⟨p, hp, e⟩ := List.mem_map.mp q
        exact nD _ _ (S.N p (.tail _ hp)).1 e
    have ev : vs.filter (fun _ => true) = vs := by simp
    rw [ev] at hF
    have el : ys.size = n := by rw [← hlen, ← Array.length_toList]; exact hF.length.symm
    refine hQ D h' tk ys nn S'' el fun j y e => ?_
    obtain ⟨v, hv, hf⟩ := pairedAt hF j y (by simpa using e)
    exact ⟨v, hP j v hv, hf⟩
end
end Mine
end

-- Eng22
section
open PySem PySem.W PySem.W.X PyProof.Rows PySem.Calls PySem.Builtin PyProof.Rows.LCg
set_option Elab.async false
set_option maxRecDepth 100000
set_option linter.unusedVariables false
set_option maxHeartbeats 4000000
namespace Mine
abbrev cp (x : Str) : List Nat := x.cps.toList
theorem cp_len (x : Str) : (cp x).length = x.length := by simp [Str.length]
theorem cp_inj {x y : Str} (h : cp x = cp y) : x = y := by
  obtain ⟨a⟩ := x
  obtain ⟨b⟩ := y
  exact congrArg Str.mk (Array.ext' h)
theorem slice_to (x : Str) (k : Nat) : cp (Txt.slice x none (some (k : Int))) = (cp x).take k := by
  by_cases h : k ≤ x.length
  · rw [beq_iff_eq.mp (slice_closes_toL (x := x) (j := (k : Int)) (by omega) (by omega))]
    simp [cp]
  · rw [slice_to_beyond (by omega), beq_iff_eq.mp (slice_closes_toL (x := x) (j := (x.length : Int)) (by omega) (by omega))]
    have : x.cps.size ≤ k := by show x.length ≤ k; omega
    simp [cp, Str.length]
    omega
theorem slice_from (x : Str) (k : Nat) : cp (Txt.slice x (some (k : Int)) none) = (cp x).drop k := by
  by_cases h : k ≤ x.length
  · rw [beq_iff_eq.mp (slice_closes_fromL (x := x) (i := (k : Int)) (by omega) (by omega) rfl)]
    simp [cp]
    rw [List.take_of_length_le]
    simp [Str.length]
  · rw [slice_from_beyond (by omega)]
    simp [cp]
    show x.cps.size ≤ k
    have : x.cps.size = x.length := rfl
    omega
theorem cp_app (x y : Str) : cp (x ++ y) = cp x ++ cp y := by
  show (Str.append x y).cps.toList = _
  simp [Str.append, cp]
theorem cp_sjoin (e : Str) (he : cp e = []) : ∀ xs : List Str, cp (Str.join e xs) = (xs.map cp).flatten
  | [] => by simp [Str.join, cp, Str.empty]
  | [x] => by simp [Str.join]
  | x :: y :: r => by
    rw [Str.join, cp_app, cp_app, he, cp_sjoin e he (y :: r)]
    · simp
    · simp
theorem cp_join {e : Str} (he : cp e = []) (xs : List Str) : cp (Txt.join e xs) = (xs.map cp).flatten := by
  rw [beq_iff_eq.mp (join_closes (sep := e) (sep' := e) (ys := xs) rfl)]
  exact cp_sjoin e he xs
theorem cp_nil : cp (Str.ofString "") = [] := by rfl
theorem cp_empty {x : Str} (h : cp x = []) : x = Str.ofString "" := cp_inj (h.trans cp_nil.symm)
/-- a text cut: at most n pieces of r signs -/
def chunks (r : Nat) : Nat → List Nat → List (List Nat)
  | 0, _ => []
  | n + 1, l => if l = [] then [] else l.take r :: chunks r n (l.drop r)
def cutL (r1 r : Nat) (l : List Nat) : List (List Nat) := if l = [] then [] else l.take r1 :: chunks r 19 (l.drop r1)
end Mine
end

-- Eng23
section
open PySem PySem.W PySem.W.X PyProof.Rows PySem.Calls PySem.Builtin PyProof.Rows.LCg
set_option Elab.async false
set_option maxRecDepth 100000
set_option linter.unusedVariables false
set_option maxHeartbeats 4000000
namespace Mine
/-- a bytes' octets -/
def ob (b : Array UInt8) : List Nat := b.toList.map UInt8.toNat
theorem ob_inj {a b : Array UInt8} (h : ob a = ob b) : a = b := by
  apply Array.ext'
  have : ∀ x y : List UInt8, x.map UInt8.toNat = y.map UInt8.toNat → x = y := by
    intro x
    induction x with
    | nil => intro y h; cases y <;> simp_all
    | cons a r ih =>
      intro y h
      cases y with
      | nil => simp at h
      | cons b s =>
        rw [List.map_cons, List.map_cons, List.cons.injEq] at h
        rw [UInt8.toNat_inj.mp h.1, ih s h.2]
  exact this _ _ h
theorem ob_len (b : Array UInt8) : (ob b).length = b.size := by simp [ob]
open PySem.Builtin.Bytes in
theorem occ_one (b : Array UInt8) (c : UInt8) : occurrences b #[c] 0 b.size = (List.range b.size).filter fun i => b[i]? == some c := by
  have key : ∀ n, ∀ l : List Nat, l = (List.range n).map (· + 0) → n ≤ b.size →
      l.foldl (fun (acc : List Nat × Nat) i => if i ≥ acc.2 && b.extract i (i + (#[c] : Array UInt8).size) == #[c] then (i :: acc.1, i + (#[c] : Array UInt8).size) else acc) ([], 0) =
        (((List.range n).filter fun i => b[i]? == some c).reverse, ((((List.range n).filter fun i => b[i]? == some c).getLast?).map (· + 1)).getD 0) := by
    intro n
    induction n with
    | zero => rintro l rfl _; rfl
    | succ n ih =>
      rintro l rfl hn
      rw [List.range_succ, List.map_append, List.foldl_append, ih _ rfl (by omega)]
      have hlt : n < b.size := by omega
      have hx : (b.extract n (n + 1) == #[c]) = (b[n]? == some c) := by
        have e1 : b.extract n (n + 1) = #[b[n]] := by
          apply Array.ext'
          simp [List.take_one, List.drop_eq_getElem_cons (by simpa using hlt : n < b.toList.length)]
        have e2 : b[n]? = some b[n] := Array.getElem?_eq_getElem hlt
        rw [e1, e2]
        by_cases q : b[n] = c
        · subst q; simp
        · have : (b[n] == c) = false := by simpa using q
          simp [this, q]
      have hge : n ≥ ((((List.range n).filter fun i => b[i]? == some c).getLast?).map (· + 1)).getD 0 := by
        cases e : ((List.range n).filter fun i => b[i]? == some c).getLast? with
        | none => simp
        | some k =>
          have := List.mem_filter.mp (List.mem_of_getLast? e)
          have := List.mem_range.mp this.1
          simp; omega
      rw [List.filter_append, List.map_cons, List.map_nil, List.foldl_cons, List.foldl_nil]
      show (if (decide (n + 0 ≥ _) && (b.extract (n + 0) (n + 0 + 1) == #[c])) = true then _ else _) = _
      rw [Nat.add_zero, decide_eq_true hge, Bool.true_and, hx]
      by_cases q : (b[n]? == some c) = true
      · rw [if_pos q, List.filter_cons, if_pos q]
        simp
      · rw [if_neg q, List.filter_cons, if_neg q]
        simp
  unfold occurrences
  dsimp only
  have e : b.size + 1 - (0 + (#[c] : Array UInt8).size) = b.size := by simp
  rw [e, key b.size _ rfl (Nat.le_refl _)]
  simp
theorem ent_split : entryFor table "bytes.split" = some Builtin.«bytes.split» := entryFor_of_tree (by kernel_rfl)
theorem slot_split : Slot "bytes" "split" "bytes.split" :=
  .of (owner := "bytes") (n := "split") (by rw [typeLookup_type, builtinLookup_eq_fast]; kernel_rfl) (by decide +kernel) (by decide +kernel) (by decide +kernel)
    (by first | exact .inl (by decide +kernel) | exact .inr (by decide +kernel)) (by rw [isSubtype_type]; kernel_rfl)
theorem type_split : typeOf (.builtin "bytes.split") = pure (.type "method_descriptor") := by show builtinType _ = _; rw [builtinType_eq_fast]; kernel_rfl
theorem args_split (a b : Value) : argsOk "bytes.split" ⟨[a, b], []⟩ := by
  unfold argsOk; rw [signature?_of (id := "bytes.split") (n := ['t', 'i', 'l', 'p', 's']) (o := ['s', 'e', 't', 'y', 'b']) (by kernel_rfl) FB.owner_bytes]; kernel_rfl
/-- rows of bytes with any tokens -/
inductive BytesAre : List Value → List (Array UInt8) → Prop
  | nil : BytesAre [] []
  | cons (b : Array UInt8) (t : Tok) {vs ys} : BytesAre vs ys → BytesAre (.bytes b t :: vs) (b :: ys)
theorem BytesAre.length {vs : List Value} {ys : List (Array UInt8)} (x : BytesAre vs ys) : vs.length = ys.length := by
  induction x <;> simp_all
section
variable {prog : Program} {w : World} {A : Around} {E : Value → Shared → Prop} {gg : Array GenState} {d : Drawn} {os : OsState} {g h : Heap} {L : Addr} {m : Str → Option Value} {news : List (Addr × Obj)}
theorem mapM_new {M : Model} : ∀ (ys : List (Array UInt8)) (s : Shared) (Q : List Value → Shared → Prop), (∀ b ∈ ys, b.size ≤ sizeLine) → (∀ vs tk, BytesAre vs ys → Q vs { s with toks := tk }) → wpAny M A (ys.mapM (Bytes.Kind.new .bytes)) Q E s
  | [], s, Q, _, k => by rw [List.mapM_nil]; exact wpAny_pure (k [] s.toks .nil)
  | b :: r, s, Q, hz, k => by
    rw [List.mapM_cons]
    refine wpAny_bind (wpAny_mkBytes ?_ (hz b (.head _)))
    refine wpAny_bind (mapM_new r _ _ (fun c hc => hz c (.tail _ hc)) fun vs tk hv => ?_)
    exact wpAny_pure (k _ _ (.cons b _ hv))
theorem call_split {b : Array UInt8} {c : UInt8} {t u : Tok} {tk : Nat} {Q : Value → Shared → Prop} {ys : List (Array UInt8)} (S : St g L m h news) (hz : b.size ≤ 1000)
    (hp : ((List.range b.size).filter fun i => b[i]? == some c) ≠ []) (hy : Bytes.between b 1 ((List.range b.size).filter fun i => b[i]? == some c) = ys) (hyz : ys.length ≤ 1000 ∧ ∀ b ∈ ys, b.size ≤ 1000)
    (k : ∀ D h' tk' vs, St g L m h' ((D, ⟨.type "list", none, .seq vs.toArray 0, #[]⟩) :: news) → L < D → BytesAre vs ys → Q (.ref D) ⟨h', gg, d, tk', os⟩) :
    wpAny (model prog w) A (call (.builtin "bytes.split") [.bytes b t, .bytes #[c] u]) Q E ⟨h, gg, d, tk, os⟩ := by
  refine wpAny_call_entry slot_split (typeIs_bytes _ b t) ent_split ?_ (args_split _ _)
  show wpAny _ _ (Bytes.payload (.bytes b t) >>= fun r => _) _ _ _
  refine wpAny_bind (wpAny_of_eq (a := b) rfl ?_)
  show wpAny _ _ (Bytes.bytesLike "bytes.split" (.bytes #[c] u) >>= fun r => _) _ _ _
  refine wpAny_bind (wpAny_of_eq (a := #[c]) ?_ ?_)
  · unfold Bytes.bytesLike
    rw [KBy.buffer_eq]; rfl
  have e : (Bytes.occurrences b #[c] 0 b.size).take (b.size + 1) = (List.range b.size).filter fun i => b[i]? == some c := by
    rw [occ_one, List.take_of_length_le]
    exact Nat.le_trans (List.length_filter_le _ _) (by simp)
  show wpAny _ _ (if ((Bytes.occurrences b #[c] 0 b.size).take (b.size + 1)).isEmpty = true then _ else _) _ _ _
  rw [e, if_neg (by simpa using hp)]
  show wpAny _ _ (List.mapM (Bytes.Kind.new .bytes) (Bytes.between b 1 ((Bytes.occurrences b #[c] 0 b.size).take (b.size + 1))) >>= _) _ _ _
  rw [e, hy]
  refine wpAny_bind (mapM_new _ _ _ (fun b hb => by rw [sizeLine_eq]; have := hyz.2 b hb; omega) fun vs tk' hv => ?_)
  refine wpAny_bind (r_newList S (by rw [sizeLine_eq, hv.length]; have := hyz.1; omega) fun D h' S' l => wpAny_pure ⟨_, rfl, k _ _ _ _ S' l hv⟩)
end
end Mine
end

-- Eng24
section
open PySem PySem.W PySem.W.X PyProof.Rows PySem.Calls PySem.Builtin PyProof.Rows.LCg
set_option Elab.async false
set_option maxRecDepth 100000
set_option linter.unusedVariables false
set_option maxHeartbeats 4000000
namespace Mine
section
variable {prog : Program} {w : World} {A : Around} {E : Value → Shared → Prop} {s : Shared}
theorem eqBool_bytes {x y : Array UInt8} {t u : Tok} {Q : Bool → Shared → Prop} (h : Q (x.toList == y.toList) s) : wpAny (model prog w) A (eqBool (.bytes x t) (.bytes y u)) Q E s := by
  unfold eqBool
  show wpAny _ _ (if (Value.bytes x t == Value.bytes y u) = true then _ else _) Q E s
  by_cases hab : (Value.bytes x t == Value.bytes y u) = true
  · rw [if_pos hab]
    have e : x = y := by have := eq_of_beq hab; injection this
    subst e
    exact wpAny_bind (wpAny_rule (wpAny_pure (by simpa using h)))
  · rw [if_neg hab]
    exact wpAny_bind (eq_bytes (wpAny_truthy_bool h))
theorem BytesAre.get {vs : List Value} {bs : List (Array UInt8)} (x : BytesAre vs bs) : ∀ (j : Nat) (h : j < vs.length), ∃ b t, bs[j]? = some b ∧ vs[j] = .bytes b t := by
  induction x with
  | nil => intro j h; exact absurd h (Nat.not_lt_zero _)
  | cons b t r ih =>
    intro j h
    cases j with
    | zero => exact ⟨b, t, rfl, rfl⟩
    | succ j =>
      obtain ⟨c, u, e, e'⟩ := ih j (by simpa using h)
      exact ⟨c, u, by simpa using e, by simpa using e'⟩
/-- two equal lists of bytes differ: no -/
theorem ne_bytesL {a b : Addr} {xs ys : List Value} {bs : List (Array UInt8)} {Q : Value → Shared → Prop} (ha : s.heap.IsList a xs.toArray) (hb : s.heap.IsList b ys.toArray) (hx : BytesAre xs bs) (hy : BytesAre ys bs) (hu : A.units < cLine) (h : Q (.bool false) s) :
    wpAny (model prog w) A (compareOp .NotEq (.ref a) (.ref b)) Q E s := by
  show wpAny _ A (richCompare .NotEq _ _) Q E s
  refine SeqAt.RcNeAt.lists (e := fun _ => true) ha hb (by simp [hx.length, hy.length]) hu (fun j h1 h2 => ?_) prog w E Q ?_
  · intro prog' w' E' Q' hq
    obtain ⟨c, t, e1, e2⟩ := hx.get j (by simpa using h1)
    obtain ⟨c', u, e3, e4⟩ := hy.get j (by simpa using h2)
    rw [e1] at e3
    cases e3
    have f1 : xs.toArray[j] = .bytes c t := by simpa using e2
    have f2 : ys.toArray[j] = .bytes c u := by simpa using e4
    rw [f1, f2]
    exact eqBool_bytes (by rw [beq_self_eq_true]; exact hq)
  · have e : ((List.range xs.toArray.size).all fun _ => true) = true := by rw [List.all_eq_true]; intro _ _; rfl
    rw [e]; exact h
end
section
variable {prog : Program} {w : World} {A : Around} {E : Value → Shared → Prop} {R : Result → Shared → Prop} {s : Shared}
theorem compTurn_outer (elt t0 i0 t1 i1 : Expr) (scope : Scope) (pos : Pos) (it acc : Value) (env : Env) :
    compTurn (.ListComp elt [⟨t0, i0, [], 0⟩, ⟨t1, i1, [], 0⟩] scope pos) 0 it acc env = (standAt i0.pos >>= fun _ => pyNext it >>= fun r => match r with
      | none => pure (.done .next)
      | some v => letOwnedTupleGo t0 it v >>= fun _ => assign t0 env v >>= fun _ =>
        (eval i1 env >>= fun x => standAt i1.pos >>= fun _ => foldedSetIterable i1 env x >>= fun x => holding [x] (pyIter x) >>= fun it' =>
          runOwn (.compStart (.ListComp elt [⟨t0, i0, [], 0⟩, ⟨t1, i1, [], 0⟩] scope pos) 1 it' acc env) env >>= fun _ =>
          again (.compLoop (.ListComp elt [⟨t0, i0, [], 0⟩, ⟨t1, i1, [], 0⟩] scope pos) 0 it acc env))) := by rfl
theorem compTurn_inner (elt t0 i0 t1 i1 : Expr) (scope : Scope) (pos : Pos) (it acc : Value) (env : Env) :
    compTurn (.ListComp elt [⟨t0, i0, [], 0⟩, ⟨t1, i1, [], 0⟩] scope pos) 1 it acc env = (standAt i1.pos >>= fun _ => pyNext it >>= fun r => match r with
      | none => pure (.done .next)
      | some v => letOwnedTupleGo t1 it v >>= fun _ => assign t1 env v >>= fun _ =>
        (eval elt env >>= fun x => call (.builtin "list.append") [acc, x] >>= fun _ => pure ()) >>= fun _ =>
          again (.compLoop (.ListComp elt [⟨t0, i0, [], 0⟩, ⟨t1, i1, [], 0⟩] scope pos) 1 it acc env)) := by rfl
theorem comp2_outer {elt t0 i0 t1 i1 : Expr} {scope : Scope} {pos : Pos} {it acc : Value} {env : Env} (I : Nat → Shared → Prop)
    (turn : ∀ n s, I n s → wpAny (model prog w) A (pyNext it) (fun r s₁ => match r with
      | none => R (.ok .next) s₁
      | some v => wpAny (model prog w) A (assign t0 env v) (fun _ s₂ => wpAny (model prog w) A (eval i1 env) (fun x s₃ => wpAny (model prog w) A (pyIter x) (fun it' s₄ =>
          codeAny (model prog w) A (.compStart (.ListComp elt [⟨t0, i0, [], 0⟩, ⟨t1, i1, [], 0⟩] scope pos) 1 it' acc env) (fun r s' => match r with
            | .ok _ => ∃ m, m < n ∧ I m s'
            | .error x => cameBackBy (model prog w) A env (notedBy (model prog w) A env fun e s' => R (.error e) s') x s') s₄)
          (notedBy (model prog w) A env fun e s' => R (.error e) s') s₃) (notedBy (model prog w) A env fun e s' => R (.error e) s') s₂) (notedBy (model prog w) A env fun e s' => R (.error e) s') s₁) (notedBy (model prog w) A env fun e s' => R (.error e) s') s)
    (n : Nat) (h : I n s) (ht : ∀ v, letOwnedTupleGo t0 it v = pure () := by intro _; rfl) (hs : ∀ x, foldedSetIterable i1 env x = pure x := by intro _; rfl) :
    codeAny (model prog w) A (.compLoop (.ListComp elt [⟨t0, i0, [], 0⟩, ⟨t1, i1, [], 0⟩] scope pos) 0 it acc env) R s := by
  refine codeAny_loop rfl I (fun n s hI => ?_) n h
  show wpAny _ _ ((compTurn (.ListComp elt [⟨t0, i0, [], 0⟩, ⟨t1, i1, [], 0⟩] scope pos) 0 it acc env).onRaise (fun x => do noteFrame x env; theTreesLotGoes x)) _ _ s
  refine wpAny_noted ?_
  rw [compTurn_outer]
  refine wpAny_bind (wpAny_standAt (wpAny_bind (wpAny_mono (turn n s hI) (fun r s₁ h₁ => ?_) fun _ _ h' => h')))
  cases r with
  | none => exact wpAny_pure h₁
  | some v =>
    refine wpAny_bind (wpAny_of_eq (ht v) ?_)
    refine wpAny_bind (wpAny_mono h₁ (fun _ s₂ h₂ => wpAny_bind (wpAny_mono h₂ (fun x s₃ h₃ => ?_) fun _ _ h' => h')) fun _ _ h' => h')
    refine wpAny_bind (wpAny_standAt (wpAny_bind (wpAny_of_eq (hs x) (wpAny_bind (wpAny_holding (wpAny_mono h₃ (fun it' s₄ h₄ => ?_) fun _ _ h' => h'))))))
    refine wpAny_bind (wpAny_runOwn (codeAny_mono h₄ fun r s' hr => ?_))
    cases r with
    | ok f => exact wpAny_pure ⟨rfl, hr⟩
    | error x => exact hr
theorem comp2_inner {elt t0 i0 t1 i1 : Expr} {scope : Scope} {pos : Pos} {it acc : Value} {env : Env} (I : Nat → Shared → Prop)
    (turn : ∀ n s, I n s → wpAny (model prog w) A (pyNext it) (fun r s₁ => match r with
      | none => R (.ok .next) s₁
      | some v => wpAny (model prog w) A (assign t1 env v) (fun _ s₂ => wpAny (model prog w) A (eval elt env) (fun x s₃ =>
          wpAny (model prog w) A (call (.builtin "list.append") [acc, x]) (fun _ s₄ => ∃ m, m < n ∧ I m s₄) (notedBy (model prog w) A env fun e s' => R (.error e) s') s₃)
          (notedBy (model prog w) A env fun e s' => R (.error e) s') s₂) (notedBy (model prog w) A env fun e s' => R (.error e) s') s₁) (notedBy (model prog w) A env fun e s' => R (.error e) s') s)
    (n : Nat) (h : I n s) (ht : ∀ v, letOwnedTupleGo t1 it v = pure () := by intro _; rfl) :
    codeAny (model prog w) A (.compLoop (.ListComp elt [⟨t0, i0, [], 0⟩, ⟨t1, i1, [], 0⟩] scope pos) 1 it acc env) R s := by
  refine codeAny_loop rfl I (fun n s hI => ?_) n h
  show wpAny _ _ ((compTurn (.ListComp elt [⟨t0, i0, [], 0⟩, ⟨t1, i1, [], 0⟩] scope pos) 1 it acc env).onRaise (fun x => do noteFrame x env; theTreesLotGoes x)) _ _ s
  refine wpAny_noted ?_
  rw [compTurn_inner]
  refine wpAny_bind (wpAny_standAt (wpAny_bind (wpAny_mono (turn n s hI) (fun r s₁ h₁ => ?_) fun _ _ h' => h')))
  cases r with
  | none => exact wpAny_pure h₁
  | some v =>
    refine wpAny_bind (wpAny_of_eq (ht v) ?_)
    exact wpAny_bind (wpAny_mono h₁ (fun _ s₂ h₂ => wpAny_bind (wpAny_bind (wpAny_mono h₂ (fun x s₃ h₃ => wpAny_bind (wpAny_mono h₃
      (fun _ s₄ h₄ => wpAny_pure (wpAny_pure ⟨rfl, h₄⟩)) fun _ _ h' => h')) fun _ _ h' => h'))) fun _ _ h' => h')
theorem comp2_start {elt t0 i0 t1 i1 : Expr} {scope : Scope} {pos : Pos} {it acc : Value} {env : Env}
    (h0 : codeAny (model prog w) A (.compLoop (.ListComp elt [⟨t0, i0, [], 0⟩, ⟨t1, i1, [], 0⟩] scope pos) 1 it acc env) R s)
    (h : wpAny (model prog w) A (pyIter it) (fun it' s' => codeAny (model prog w) A (.compLoop (.ListComp elt [⟨t0, i0, [], 0⟩, ⟨t1, i1, [], 0⟩] scope pos) 1 it' acc env) R s')
      (notedBy (model prog w) A env fun x s' => R (.error x) s') s) :
    codeAny (model prog w) A (.compStart (.ListComp elt [⟨t0, i0, [], 0⟩, ⟨t1, i1, [], 0⟩] scope pos) 1 it acc env) R s := by
  refine codeAny_of_tree ?_
  show wpAny _ _ ((compStart (.ListComp elt [⟨t0, i0, [], 0⟩, ⟨t1, i1, [], 0⟩] scope pos) 1 it acc env).onRaise (fun x => do noteFrame x env; standAt theWindowsPlace)) _ _ s
  refine wpAny_notedAt ?_
  unfold compStart
  show wpAny _ _ (ask >>= _) _ _ s
  refine wpAny_bind (wpAny_askSetting (wpAny_ite ?_))
  split
  · first
      | exact wpAny_bind (wpAny_pure (wpAny_pure (And.intro rfl h0)))
      | exact wpAny_pure (And.intro rfl h0)
  · first
      | exact wpAny_bind (wpAny_rule (wpAny_bind (wpAny_standAt (wpAny_bind (wpAny_mono h (fun it' s' h' => wpAny_pure (And.intro rfl h')) fun _ _ x => x)))))
      | (refine wpAny_bind (wpAny_rule ?_); show wpAny _ _ (standAt i1.pos >>= _) _ _ s; exact wpAny_bind (wpAny_standAt (wpAny_bind (wpAny_mono h (fun it' s' h' => wpAny_pure (And.intro rfl h')) fun _ _ x => x))))
end
end Mine
end

-- Facts1
section
open PySem PySem.W PySem.W.X PyProof.Rows PySem.Calls
set_option Elab.async false
set_option maxRecDepth 100000
set_option maxHeartbeats 0
set_option linter.unusedVariables false
namespace Mine
abbrev loose0 : List Str := [Str.ofString "_Accumulator", Str.ofString "bytes_types"]
abbrev Prg : Program := PySem.Challenge.rw_op0108_01.row.prog
noncomputable abbrev KK (w : World) : Frag := hd.heap_39 w.params
abbrev Tr (mg mb : Str → Option Value) (h : Heap) : Prop := TR hd.view_39 loose0 mg mb h
theorem rl_obj (self : Value) : refuseLoop self "__setattr__" [.type "object"] = pure () := PySem.F.store_object.passes self
theorem rl_list (self : Value) : refuseLoop self "__setattr__" [.type "list", .type "object"] = pure () := by kernel_rfl
theorem c94 (w : World) : ClsOk (KK w) 94 := ⟨.inl (by kernel_rfl), by kernel_rfl, by kernel_rfl, by kernel_rfl, by kernel_rfl, fun self => ⟨_, rfl, by show refuseLoop self "__setattr__" [.ref 94, .type "object"] = _; rw [refuseLoop_ref]; exact rl_obj self⟩⟩
theorem c178 (w : World) : ClsOk (KK w) 178 := ⟨.inr ⟨by kernel_rfl, by kernel_rfl⟩, by kernel_rfl, by kernel_rfl, by kernel_rfl, by kernel_rfl, fun self => ⟨_, rfl, by show refuseLoop self "__setattr__" [.ref 178, .type "list", .type "object"] = _; rw [refuseLoop_ref]; exact rl_list self⟩⟩
theorem f94_maxlen (w : World) : findIn (KK w) (.ref 94) "_maxlen" = some none := by kernel_rfl
theorem f94_cws (w : World) : findIn (KK w) (.ref 94) "_continuation_ws" = some none := by kernel_rfl
theorem f94_cwsl (w : World) : findIn (KK w) (.ref 94) "_continuation_ws_len" = some none := by kernel_rfl
theorem f94_split (w : World) : findIn (KK w) (.ref 94) "_splitchars" = some none := by kernel_rfl
theorem f94_lines (w : World) : findIn (KK w) (.ref 94) "_lines" = some none := by kernel_rfl
theorem f94_cur (w : World) : findIn (KK w) (.ref 94) "_current_line" = some none := by kernel_rfl
theorem f178_init (w : World) : findIn (KK w) (.ref 178) "_initial_size" = some none := by kernel_rfl
theorem f94_newline (w : World) : findIn (KK w) (.ref 94) "newline" = some (some (.ref 56)) := by kernel_rfl
theorem f94_append (w : World) : findIn (KK w) (.ref 94) "_append_chunk" = some (some (.ref 91)) := by kernel_rfl
theorem f94_str (w : World) : findIn (KK w) (.ref 94) "_str" = some (some (.ref 42)) := by kernel_rfl
theorem f94_ml (w : World) : findIn (KK w) (.ref 94) "_maxlengths" = some (some (.ref 77)) := by kernel_rfl
theorem f178_push (w : World) : findIn (KK w) (.ref 178) "push" = some (some (.ref 122)) := by kernel_rfl
theorem f178_pop (w : World) : findIn (KK w) (.ref 178) "pop" = some (some (.ref 138)) := by kernel_rfl
theorem f178_reset (w : World) : findIn (KK w) (.ref 178) "reset" = some (some (.ref 160)) := by kernel_rfl
theorem f178_ows (w : World) : findIn (KK w) (.ref 178) "is_onlyws" = some (some (.ref 167)) := by kernel_rfl
theorem f178_pc (w : World) : findIn (KK w) (.ref 178) "part_count" = some (some (.ref 175)) := by kernel_rfl
theorem f178_len (w : World) : findIn (KK w) (.ref 178) "__len__" = some (some (.ref 145)) := by kernel_rfl
theorem f178_dstr (w : World) : findIn (KK w) (.ref 178) "__str__" = some (some (.ref 152)) := by kernel_rfl
theorem f178_append (w : World) : findIn (KK w) (.ref 178) "append" = some (some (.builtin "list.append")) := by kernel_rfl
theorem f178_list (w : World) : mroIn (KK w) 178 (.type "list") = some true := by kernel_rfl
theorem t56 (w : World) : typeIn (KK w) (.ref 56) = some (.type "function") := by kernel_rfl
theorem t91 (w : World) : typeIn (KK w) (.ref 91) = some (.type "function") := by kernel_rfl
theorem t42 (w : World) : typeIn (KK w) (.ref 42) = some (.type "function") := by kernel_rfl
theorem t77 (w : World) : typeIn (KK w) (.ref 77) = some (.type "function") := by kernel_rfl
theorem t122 (w : World) : typeIn (KK w) (.ref 122) = some (.type "function") := by kernel_rfl
theorem t138 (w : World) : typeIn (KK w) (.ref 138) = some (.type "function") := by kernel_rfl
theorem t160 (w : World) : typeIn (KK w) (.ref 160) = some (.type "function") := by kernel_rfl
theorem t167 (w : World) : typeIn (KK w) (.ref 167) = some (.type "function") := by kernel_rfl
theorem t175 (w : World) : typeIn (KK w) (.ref 175) = some (.type "function") := by kernel_rfl
theorem t145 (w : World) : typeIn (KK w) (.ref 145) = some (.type "function") := by kernel_rfl
theorem t152 (w : World) : typeIn (KK w) (.ref 152) = some (.type "function") := by kernel_rfl
theorem tapp (w : World) : typeIn (KK w) (.builtin "list.append") = some (.type "method_descriptor") := by kernel_rfl
theorem cls178 (w : World) : ∃ cd, clsIn (KK w) 178 = some cd ∧ cd.mro = [.ref 178, .type "list", .type "object"] ∧ cd.qualname = Str.ofString "_Accumulator" := ⟨_, rfl, rfl, rfl⟩
theorem m178 (w : World) : mroIn (KK w) 178 (.ref 178) = some true := by kernel_rfl
theorem m178m (w : World) : mroIn (KK w) 178 (.type "module") = some false := by kernel_rfl
theorem ty178 (w : World) : typeIn (KK w) (.ref 178) = some (.type "type") := by kernel_rfl
theorem noSup (w : World) : nsIn (KK w) mainGlobals "super" = some none := by kernel_rfl
theorem noTp (w : World) : nsIn (KK w) cStatics "thirdparty.any" = some none := by kernel_rfl
theorem bootSuper : bootBuiltins "super" = some (.type "super") := by kernel_rfl
theorem al_len (w : World) : alongIn (KK w) "__len__" [.type "list", .type "object"] = some (some (.builtin "list.__len__")) := by kernel_rfl
theorem al_pop (w : World) : alongIn (KK w) "pop" [.type "list", .type "object"] = some (some (.builtin "list.pop")) := by kernel_rfl
theorem al_init (w : World) : alongIn (KK w) "__init__" [.type "list", .type "object"] = some (some (.builtin "list.__init__")) := by kernel_rfl
theorem topSup : (Prg.main.scope.names.lookup ("super" : Str)).isSome = false := by kernel_rfl
theorem prgFile : ((Prg.main.file : Str) == Str.ofString "/claim/cut.py") = true := by kernel_rfl
theorem kp56 (w : World) : keepIn (KK w) (.ref 56) = true := by kernel_rfl
theorem kp91 (w : World) : keepIn (KK w) (.ref 91) = true := by kernel_rfl
theorem kp42 (w : World) : keepIn (KK w) (.ref 42) = true := by kernel_rfl
theorem kp122 (w : World) : keepIn (KK w) (.ref 122) = true := by kernel_rfl
theorem kp138 (w : World) : keepIn (KK w) (.ref 138) = true := by kernel_rfl
theorem kp160 (w : World) : keepIn (KK w) (.ref 160) = true := by kernel_rfl
theorem kp167 (w : World) : keepIn (KK w) (.ref 167) = true := by kernel_rfl
theorem kp175 (w : World) : keepIn (KK w) (.ref 175) = true := by kernel_rfl
theorem kp190 (w : World) : keepIn (KK w) (.ref 190) = true := by kernel_rfl
theorem kp197 (w : World) : keepIn (KK w) (.ref 197) = true := by kernel_rfl
theorem kp202 (w : World) : keepIn (KK w) (.ref 202) = true := by kernel_rfl
theorem kp209 (w : World) : keepIn (KK w) (.ref 209) = true := by kernel_rfl
theorem kp216 (w : World) : keepIn (KK w) (.ref 216) = true := by kernel_rfl
theorem kp221 (w : World) : keepIn (KK w) (.ref 221) = true := by kernel_rfl
theorem nb_len (w : World) : nsIn (KK w) mainGlobals "len" = some none := by kernel_rfl
theorem nb_sum (w : World) : nsIn (KK w) mainGlobals "sum" = some none := by kernel_rfl
theorem nb_str (w : World) : nsIn (KK w) mainGlobals "str" = some none := by kernel_rfl
theorem nb_isinstance (w : World) : nsIn (KK w) mainGlobals "isinstance" = some none := by kernel_rfl
theorem nb_chr (w : World) : nsIn (KK w) mainGlobals "chr" = some none := by kernel_rfl
theorem nb_max (w : World) : nsIn (KK w) mainGlobals "max" = some none := by kernel_rfl
theorem nb_next (w : World) : nsIn (KK w) mainGlobals "next" = some none := by kernel_rfl
theorem nb_range (w : World) : nsIn (KK w) mainGlobals "range" = some none := by kernel_rfl
theorem nb_bytes (w : World) : nsIn (KK w) mainGlobals "bytes" = some none := by kernel_rfl
theorem nb_ValueError (w : World) : nsIn (KK w) mainGlobals "ValueError" = some none := by kernel_rfl
theorem nb_UnicodeEncodeError (w : World) : nsIn (KK w) mainGlobals "UnicodeEncodeError" = some none := by kernel_rfl
theorem nb_list (w : World) : nsIn (KK w) mainGlobals "list" = some none := by kernel_rfl
theorem bb_len : bootBuiltins "len" = some (.builtin "len") := by kernel_rfl
theorem bb_sum : bootBuiltins "sum" = some (.builtin "sum") := by kernel_rfl
theorem bb_str : bootBuiltins "str" = some (.type "str") := by kernel_rfl
theorem bb_isinstance : bootBuiltins "isinstance" = some (.builtin "isinstance") := by kernel_rfl
theorem bb_chr : bootBuiltins "chr" = some (.builtin "chr") := by kernel_rfl
theorem bb_max : bootBuiltins "max" = some (.builtin "max") := by kernel_rfl
theorem bb_next : bootBuiltins "next" = some (.builtin "next") := by kernel_rfl
theorem bb_range : bootBuiltins "range" = some (.type "range") := by kernel_rfl
theorem bb_bytes : bootBuiltins "bytes" = some (.type "bytes") := by kernel_rfl
theorem bb_ValueError : bootBuiltins "ValueError" = some (.type "ValueError") := by kernel_rfl
theorem bb_UnicodeEncodeError : bootBuiltins "UnicodeEncodeError" = some (.type "UnicodeEncodeError") := by kernel_rfl
theorem bb_list : bootBuiltins "list" = some (.type "list") := by kernel_rfl
theorem ng_178 (w : World) : nsIn (KK w) mainGlobals "_Accumulator" = some (some (.ref 178)) := by kernel_rfl
theorem ng_190 (w : World) : nsIn (KK w) mainGlobals "_bytes_from_decode_data" = some (some (.ref 190)) := by kernel_rfl
theorem ng_197 (w : World) : nsIn (KK w) mainGlobals "_get_sep" = some (some (.ref 197)) := by kernel_rfl
theorem ng_94 (w : World) : nsIn (KK w) mainGlobals "_ValueFormatter" = some (some (.ref 94)) := by kernel_rfl
theorem ng_202 (w : World) : nsIn (KK w) mainGlobals "_law_lines" = some (some (.ref 202)) := by kernel_rfl
theorem ng_209 (w : World) : nsIn (KK w) mainGlobals "_law_lay" = some (some (.ref 209)) := by kernel_rfl
theorem ng_216 (w : World) : nsIn (KK w) mainGlobals "_law_refused" = some (some (.ref 216)) := by kernel_rfl
theorem ng_221 (w : World) : nsIn (KK w) mainGlobals "_law_names" = some (some (.ref 221)) := by kernel_rfl
theorem ng_183 (w : World) : nsIn (KK w) mainGlobals "bytes_types" = some (some (.ref 183)) := by kernel_rfl
theorem ng_empty (w : World) : ∃ t, nsIn (KK w) mainGlobals "EMPTYSTRING" = some (some (.str (Str.ofString "") t)) := ⟨_, by rfl⟩
theorem f178_iter (w : World) : findIn (KK w) (.ref 178) "__iter__" = some (some (.builtin "list.__iter__")) := by kernel_rfl
theorem f178_bool (w : World) : findIn (KK w) (.ref 178) "__bool__" = some none := by kernel_rfl
theorem isf145 (w : World) : isFn (KK w) (.ref 145) = true := by kernel_rfl
theorem isf152 (w : World) : isFn (KK w) (.ref 152) = true := by kernel_rfl
theorem f178_seti (w : World) : findIn (KK w) (.ref 178) "__setitem__" = some (some (.builtin "list.__setitem__")) := by kernel_rfl
theorem m178d (w : World) : mroIn (KK w) 178 (.type "collections.deque") = some false := by kernel_rfl
theorem d160 (w : World) : ∃ o n, (KK w).lookup 153 = some o ∧ o.data = .seq #[.none] n := ⟨_, _, rfl, rfl⟩
theorem g178 (w : World) : findIn (KK w) (.ref 178) "__getattribute__" = some (some (.builtin "list.__getattribute__")) := by kernel_rfl
theorem sp122 (w : World) : specialIn (KK w) (.ref 122) "__get__" = some (some (.builtin "function.__get__")) := by kernel_rfl
theorem tk122 (w : World) : takesIn (KK w) (.ref 122) = some false := by kernel_rfl
theorem fn122 (w : World) : fnIn (KK w) 122 = true := by kernel_rfl
theorem mk178 (w : World) {M : Model} {h : Heap} (X : (KK w).In h) : MakesL M h 178 := makesL_of X (ho := rfl) rfl rfl rfl rfl rfl (m178 w) (f178_list w) (by kernel_rfl) (by kernel_rfl)
theorem f178_dinit (w : World) : findIn (KK w) (.ref 178) "__init__" = some (some (.ref 115)) := by kernel_rfl
theorem t115 (w : World) : typeIn (KK w) (.ref 115) = some (.type "function") := by kernel_rfl
end Mine
end

section
open PySem PySem.W PySem.W.X PyProof.Rows PySem.Calls PyProof.Rows.LCg
set_option Elab.async false
set_option maxRecDepth 100000
set_option maxHeartbeats 0
set_option linter.unusedVariables false
namespace Mine
set_option hygiene false in
local macro_rules | `(tactic| walk_at "own") => `(tactic| first
  | exact St.get S (by k_mem)
  | exact St.base S X (by with_unfolding_all rfl))
set_option hygiene false in
local macro_rules | `(tactic| walk_at "up") => `(tactic| first | exact Up.head | (refine' Up.tail ?ub; (case ub => walk_at "up")))
set_option hygiene false in
local macro_rules | `(tactic| walk_at "ups") => `(tactic| first | exact Ups.nil | (refine' Ups.cons ?ua ?uc; (case ua => walk_at "up"); (case uc => walk_at "ups")))
set_option hygiene false in
local macro_rules | `(tactic| walk_at "fnone") => `(tactic| first | with_reducible exact f94_maxlen _ | with_reducible exact f94_cws _ | with_reducible exact f94_cwsl _ | with_reducible exact f94_split _ | with_reducible exact f94_lines _ | with_reducible exact f94_cur _ | with_reducible exact f178_init _ | exact f94_maxlen _ | exact f94_cws _ | exact f94_cwsl _ | exact f94_split _ | exact f94_lines _ | exact f94_cur _ | exact f178_init _)
set_option hygiene false in
local macro_rules | `(tactic| walk_at "ffun") => `(tactic| first | with_reducible exact f94_newline _ | with_reducible exact f94_append _ | with_reducible exact f94_str _ | with_reducible exact f94_ml _ | with_reducible exact f178_push _ | with_reducible exact f178_pop _ | with_reducible exact f178_reset _ | with_reducible exact f178_ows _ | with_reducible exact f178_pc _ | with_reducible exact f178_len _ | with_reducible exact f178_dstr _ | with_reducible exact f178_append _ | exact f94_newline _ | exact f94_append _ | exact f94_str _ | exact f94_ml _ | exact f178_push _ | exact f178_pop _ | exact f178_reset _ | exact f178_ows _ | exact f178_pc _ | exact f178_len _ | exact f178_dstr _ | exact f178_append _)
set_option hygiene false in
local macro_rules | `(tactic| walk_at "ftyp") => `(tactic| first | with_reducible exact t56 _ | with_reducible exact t91 _ | with_reducible exact t42 _ | with_reducible exact t77 _ | with_reducible exact t122 _ | with_reducible exact t138 _ | with_reducible exact t160 _ | with_reducible exact t167 _ | with_reducible exact t175 _ | with_reducible exact t145 _ | with_reducible exact t152 _ | with_reducible exact tapp _ | exact t56 _ | exact t91 _ | exact t42 _ | exact t77 _ | exact t122 _ | exact t138 _ | exact t160 _ | exact t167 _ | exact t175 _ | exact t145 _ | exact t152 _ | exact tapp _)
-- the text's nodes
set_option hygiene false in
local macro_rules | `(tactic| walk_at "A") => `(tactic| first
  | with_reducible refine wpAny_execs_cons ?_ | with_reducible refine wpAny_execs_nil ?_
  | ((with_reducible show wpAny _ _ (exec (Stmt.Expr _ _) _) _ _ _); refine wpAny_Expr ?_)
  | ((with_reducible show wpAny _ _ (exec (Stmt.Assign [Expr.Name _ _] _ _) _) _ _ _); refine wpAny_Assign_Name ?_)
  | ((with_reducible show wpAny _ _ (exec (Stmt.Assign [Expr.Attribute _ _ _] _ _) _) _ _ _); refine plainObj_wpAny_Assign_Attribute ?_)
  | with_reducible refine wpAny_If ?_ | with_reducible refine wpAny_Return_some ?_ | with_reducible refine wpAny_Return_none ?_
  | ((with_reducible show wpAny _ _ (eval (Expr.Name _ _) _) _ _ _); refine wpAny_Name ?_)
  | with_reducible refine Calls.Constant_str ?_ | with_reducible refine wpAny_Constant_int ?_
  | ((with_reducible show wpAny _ _ (eval (Expr.Call (Expr.Attribute _ _ _) _ [] _) _) _ _ _); refine MethodCall_ ?_)
  | ((with_reducible show wpAny _ _ (eval (Expr.Call _ _ [] _) _) _ _ _); refine Call_ ?_)
  | ((with_reducible show wpAny _ _ (eval (Expr.Attribute _ _ _) _) _ _ _); refine Attribute_any_ ?_)
  | with_reducible refine Tuple_ ?_ | with_reducible refine List_ ?_ | with_reducible refine wpAny_BinOp ?_
  | ((with_reducible show wpAny _ _ (eval (Expr.Compare _ [_] [_] _) _) _ _ _); refine wpAny_Compare1 ?_)
  | with_reducible refine IfExp_ ?_
  | ((with_reducible show wpAny _ _ (spliced (backTo _ (starEach [] _))) _ _ _); refine args_nil ?_)
  | ((with_reducible show wpAny _ _ (spliced (backTo _ (starEach (_ :: _) _))) _ _ _); refine args_cons ?_)
  | ((with_reducible show wpAny _ _ (callWith _ (Value.builtin _) _ (backTo _ (starEach [] _)) []) _ _ _); refine callWith_method0 ?_)
  | ((with_reducible show wpAny _ _ (callWith _ (Value.builtin _) _ (backTo _ (starEach (_ :: _) _)) []) _ _ _); refine callWith_method1 ?_)
  | ((with_reducible show wpAny _ _ (loadName _ _) _ _ _); refine r_ld S rfl rfl rfl rfl ?_)
  | ((with_reducible show wpAny _ _ (storeName _ _ _) _ _ _); refine r_st S rfl rfl rfl ?_; (clear S; intro h' tk' S))
  | ((with_reducible show wpAny _ _ (newTuple _) _ _ _); refine r_newTuple S (by size_fits) ?_; (clear S; intro a' h' S l'))
  | ((with_reducible show wpAny _ _ (newList _) _ _ _); refine r_newList S (by size_fits) ?_; (clear S; intro a' h' S l'))
  | ((with_reducible show wpAny _ _ (getAttr (Value.ref _) _ _) _ _ _); first
     | refine r_getAttr (c94 _) (by walk_at "fnone") S X (by k_mem) rfl rfl rfl (by k_mem) (by k_get) rfl ?_
     | refine r_getAttr (c178 _) (by walk_at "fnone") S X (by k_mem) rfl rfl rfl (by k_mem) (by k_get) rfl ?_)
  | ((with_reducible show wpAny _ _ (getMethod (Value.ref _) _ _) _ _ _); first
     | refine r_getMethod (c94 _) (by walk_at "ffun") (by walk_at "ftyp") (by first | exact .inl rfl | exact .inr rfl) S X (by k_mem) rfl rfl rfl (by k_mem) (by k_get) ?_
     | refine r_getMethod (c178 _) (by walk_at "ffun") (by walk_at "ftyp") (by first | exact .inl rfl | exact .inr rfl) S X (by k_mem) rfl rfl rfl (by k_mem) (by k_get) ?_)
  | ((with_reducible show wpAny _ _ (setAttr (Value.ref _) _ _) _ _ _); first
     | (refine' r_setAttr (c94 _) ?fa S X (by k_mem) (by rfl) (by rfl) (by rfl) ?fc ?fd ?fe ?ff ?_; (case fa => walk_at "fnone"); (case fc => walk_at "up"); (case fd => k_get); (case fe => k_put); (case ff => decide); (clear S; intro h' S))
     | (refine' r_setAttr (c178 _) ?fa S X (by k_mem) (by rfl) (by rfl) (by rfl) ?fc ?fd ?fe ?ff ?_; (case fa => walk_at "fnone"); (case fc => walk_at "up"); (case fd => k_get); (case fe => k_put); (case ff => decide); (clear S; intro h' S))))
set_option hygiene false in
local macro_rules | `(tactic| walk_at "isl") => `(tactic| exact isInst (St.K S X) (St.get S (by k_mem)) rfl (f178_list _))
set_option hygiene false in
local macro_rules | `(tactic| walk_at "lapp") => `(tactic| (refine' r_append S ?fa ?fb ?fc ?_; (case fa => walk_at "isl"); (case fb => walk_at "up"); (case fc => (rw [sizeLine_eq]; omega)); (clear S; intro h' S)))
set_option hygiene false in
local macro_rules | `(tactic| walk_at "fkp") => `(tactic| first | with_reducible exact kp56 _ | with_reducible exact kp91 _ | with_reducible exact kp42 _ | with_reducible exact kp122 _ | with_reducible exact kp138 _ | with_reducible exact kp160 _ | with_reducible exact kp167 _ | with_reducible exact kp175 _ | with_reducible exact kp190 _ | with_reducible exact kp197 _ | with_reducible exact kp202 _ | with_reducible exact kp209 _ | with_reducible exact kp216 _ | with_reducible exact kp221 _ | exact kp56 _ | exact kp91 _ | exact kp42 _ | exact kp122 _ | exact kp138 _ | exact kp160 _ | exact kp167 _ | exact kp175 _ | exact kp190 _ | exact kp197 _ | exact kp202 _ | exact kp209 _ | exact kp216 _ | exact kp221 _)
set_option hygiene false in
local macro_rules | `(tactic| walk_at "cw") => `(tactic| first
  | ((with_reducible show wpAny _ _ (callWith _ (Value.ref _) _ (backTo _ (starEach [] _)) []) _ _ _); refine callWith_K0 (St.K S X) (by walk_at "fkp") ?_; dsimp only [List.cons_append, List.nil_append, List.append_nil])
  | ((with_reducible show wpAny _ _ (callWith _ (Value.ref _) _ (backTo _ (starEach (_ :: _) _)) []) _ _ _); refine callWith_K X (by walk_at "fkp") ?_))
set_option hygiene false in
local macro_rules | `(tactic| walk_at "post") => `(tactic| ((have S' := St.post S P (by walk_at "ups")); clear S P; (have S := S'); clear S'; (try dsimp only [List.nil_append, List.cons_append] at S)))
set_option hygiene false in
local macro_rules | `(tactic| walk_at "nb") => `(tactic| first | with_reducible exact nb_len _ | with_reducible exact nb_sum _ | with_reducible exact nb_str _ | with_reducible exact nb_isinstance _ | with_reducible exact nb_chr _ | with_reducible exact nb_max _ | with_reducible exact nb_next _ | with_reducible exact nb_range _ | with_reducible exact nb_bytes _ | with_reducible exact nb_ValueError _ | with_reducible exact nb_UnicodeEncodeError _ | with_reducible exact nb_list _ | exact nb_len _ | exact nb_sum _ | exact nb_str _ | exact nb_isinstance _ | exact nb_chr _ | exact nb_max _ | exact nb_next _ | exact nb_range _ | exact nb_bytes _ | exact nb_ValueError _ | exact nb_UnicodeEncodeError _ | exact nb_list _)
set_option hygiene false in
local macro_rules | `(tactic| walk_at "bb") => `(tactic| first | with_reducible exact bb_len | with_reducible exact bb_sum | with_reducible exact bb_str | with_reducible exact bb_isinstance | with_reducible exact bb_chr | with_reducible exact bb_max | with_reducible exact bb_next | with_reducible exact bb_range | with_reducible exact bb_bytes | with_reducible exact bb_ValueError | with_reducible exact bb_UnicodeEncodeError | with_reducible exact bb_list | exact bb_len | exact bb_sum | exact bb_str | exact bb_isinstance | exact bb_chr | exact bb_max | exact bb_next | exact bb_range | exact bb_bytes | exact bb_ValueError | exact bb_UnicodeEncodeError | exact bb_list)
set_option hygiene false in
local macro_rules | `(tactic| walk_at "ng") => `(tactic| first | with_reducible exact ng_178 _ | with_reducible exact ng_190 _ | with_reducible exact ng_197 _ | with_reducible exact ng_94 _ | with_reducible exact ng_202 _ | with_reducible exact ng_209 _ | with_reducible exact ng_216 _ | with_reducible exact ng_221 _ | with_reducible exact ng_183 _ | exact ng_178 _ | exact ng_190 _ | exact ng_197 _ | exact ng_94 _ | exact ng_202 _ | exact ng_209 _ | exact ng_216 _ | exact ng_221 _ | exact ng_183 _)
-- a name of the module or of the built-ins
set_option hygiene false in
local macro_rules | `(tactic| walk_at "N") => `(tactic| first
  | refine r_ldB S X T rfl rfl rfl rfl (by walk_at "nb") (by walk_at "bb") (by decide) ?_
  | refine r_ldG S X T rfl rfl rfl (by walk_at "ng") ?_)

-- D1
abbrev lstO (xs : Array Value) (n : Nat) : Obj := ⟨.type "list", none, .seq xs n, #[]⟩
/-- what a formatter holds from its making on -/
structure MkI where
  (x1 x2 x3 x4 x5 x6 : Int)
  (t1 t2 t3 t4 t5 t6 : Tok)
  ml : Int
  tml : Tok
  ws : Str
  tws : Tok
  wl : Int
  twl : Tok
  sp : Str
  tsp : Tok
  e : Nat
abbrev mkD (I : MkI) (ln cu : Addr) : Obj := dictOf [⟨I.x1, .str "_maxlen" I.t1, .int I.ml I.tml⟩, ⟨I.x2, .str "_continuation_ws" I.t2, .str I.ws I.tws⟩, ⟨I.x3, .str "_continuation_ws_len" I.t3, .int I.wl I.twl⟩, ⟨I.x4, .str "_splitchars" I.t4, .str I.sp I.tsp⟩, ⟨I.x5, .str "_lines" I.t5, .ref ln⟩, ⟨I.x6, .str "_current_line" I.t6, .ref cu⟩] I.e

-- Q2
section
variable {w : World} {A : Around} {E : Value → Shared → Prop} {gg : Array GenState} {dr : Drawn} {tk : Nat} {os : OsState} {g h : Heap} {L : Addr} {m mg mb : Str → Option Value} {news news' : List (Addr × Obj)} {cu dcu f cda : Addr} {xs : Array Value} {n : Nat}
abbrev accO (dcu : Addr) (items : Array Value) (n : Nat) : Obj := ⟨.ref 178, some dcu, .seq items n, #[]⟩
abbrev tupO (vs : List Value) : Obj := ⟨.type "tuple", none, .seq vs.toArray 0, #[]⟩
theorem Acc.isl (S : St g L m h news) (X : (KK w).In g) (hm : (cu, accO dcu xs n) ∈ news) : Looks (model Prg w) h (isInstance (.ref cu) (.type "list")) true := isInst (S.K X) (S.get hm) rfl (f178_list w)
theorem Acc.ne178 (S : St g L m h news) (X : (KK w).In g) (hm : (cu, accO dcu xs n) ∈ news) : cu ≠ 178 := by
  intro e
  subst e
  have h1 := S.get hm
  have h2 := S.base X (a := 178) (o := _) rfl
  rw [h1] at h2
  cases h2
/-- super().NAME() upon an accumulator, up to the built-in's own run -/
theorem superCall {body : List Stmt} {q : Str} {scope : Scope} {p0 p1 ap pos : Pos} {attr : Str} {i gi dk T : String} {fd : FuncData} {ar : Arg} {vs : Array Value} {tf : Tok} {oc ccl : Value} {od cdd : Option Addr} {osl ccs : Array (Option Value)} {b : PySem.Builtin} {Q : Value → Shared → Prop}
    (S : St g L m h news) (X : (KK w).In g) (T₀ : Tr mg mb g) (hm : (cu, accO dcu xs n) ∈ news)
    (hf : (KK w).lookup f = some ⟨oc, od, .func fd, osl⟩) (hp : (fd.params.posonlyargs ++ fd.params.args).head? = some ar) (hv : m ar.arg = some (.ref cu))
    (hcode : (KK w).lookup cda = some ⟨ccl, cdd, .fields vs, ccs⟩) (hvs : vs[2]? = some (.str (Str.ofString "/claim/cut.py") tf))
    (hat : (attr == ("__class__" : Str)) = false) (hks : scope.names.lookup ("super" : Str) = some .globalImplicit) (hkc : scope.names.lookup ("__class__" : Str) = some .free) (hka : scope.names.lookup ar.arg = some .local) (hk : scope.kind = .function)
    (hal : alongIn (KK w) attr [.type "list", .type "object"] = some (some (.builtin i))) (hty : typeOf (.builtin i) = pure (.type dk)) (hgl : typeLookup (.type dk) "__get__" = pure (some (.builtin gi)))
    (hT : T = "builtin_function_or_method" ∨ T = "method-wrapper") (he : entryFor table i = some b) (hpl : plainId i = true)
    (hg : ∀ (h : Heap) (news : List (Addr × Obj)), St g L m h news → Looks (model Prg w) h (isInstance (.ref cu) (.type "list")) true → ∀ (A : Around) (Q : Value → Shared → Prop) (tk : Nat), (∀ q h', St g L m h' ((q, bndO T i cu) :: news) → L < q → Q (.ref q) ⟨h', gg, dr, tk, os⟩) → wpAny (model Prg w) A (call (.builtin gi) [.builtin i, .ref cu, .ref 178]) Q (fun _ _ => False) ⟨h, gg, dr, tk, os⟩)
    (hc : ∀ (h : Heap) (news : List (Addr × Obj)), St g L m h news → (cu, accO dcu xs n) ∈ news → ∀ (A : Around) (Q : Unit → Shared → Prop) (E : Value → Shared → Prop) (tk : Nat), Q () ⟨h, gg, dr, tk, os⟩ → wpAny (model Prg w) A (checkBoundCall i ⟨[.ref cu], []⟩) Q E ⟨h, gg, dr, tk, os⟩)
    (k : ∀ h' tk', St g L m h' news → wpAny (model Prg w) A.in1 (b ⟨[.ref cu], []⟩) (fun fin s' => ∃ v, fin = .done (.ret v) ∧ Q v s') E ⟨h', gg, dr, tk', os⟩)
    (hme : eval (.Call (.Attribute (.Call (.Name "super" p0) [] [] p1) attr ap) [] [] pos) (ksEnv q scope L f (.ref cda) 102) = (do
      let ov ← attributeBase (.Call (.Name "super" p0) [] [] p1) attr (ksEnv q scope L f (.ref cda) 102) (eval (.Call (.Name "super" p0) [] [] p1) (ksEnv q scope L f (.ref cda) 102))
      standAt ap.atName
      let (f', first) ← holding [ov] (getMethod ov attr (do return (← importBound (.Call (.Name "super" p0) [] [] p1) (ksEnv q scope L f (.ref cda) 102)).getD true))
      callWith pos f' first (backTo pos (starEach [] (ksEnv q scope L f (.ref cda) 102))) []) := by rfl) :
    _root_.PySem.wpAt (model Prg w) A (.func body (ksEnv q scope L f (.ref cda) 102)) (eval (.Call (.Attribute (.Call (.Name "super" p0) [] [] p1) attr ap) [] [] pos) (ksEnv q scope L f (.ref cda) 102)) Q E ⟨h, gg, dr, tk, os⟩ := by
  obtain ⟨cd, hcd, hmro, hcq⟩ := cls178 w
  refine ks_wpAt_MethodCall (he := hme) ?_
  refine r_super S X T₀ hf hp hv hm rfl rfl hcode hvs prgFile rfl hcd (m178 w) (noSup w) hat hks hkc hka hk topSup bootSuper ?_
  intro so h₁ S₁ l₁
  refine r_superGet (T := T) S₁ X (.head _) (noTp w) hcd (by rw [hmro]; exact hal) hty hgl (Acc.ne178 S X hm) hat (hg _ _ S₁ (Acc.isl S₁ X (.tail _ hm))) ?_
  intro q₂ h₂ S₂ l₂
  refine r_bound0 S₂ (.head _) hT he hpl (fun A Q E => hc _ _ S₂ (.tail _ (.tail _ hm)) A Q E _) ?_
  exact k _ _ S₂.drop.drop
end

-- Q3
section
variable {w : World} {mg mb : Str → Option Value} {h hb : Heap} {cu dcu : Addr} {items : Array Value} {n : Nat} {i : Value} {hs : Int} {t e : Nat} {a b : Value} {A : Around}
   {gg : Array GenState} {d : Drawn} {tk : Nat} {os : OsState} {R : Result → Shared → Prop}
abbrev accD (hs : Int) (t : Nat) (i : Value) (e : Nat) : Obj := dictOf [⟨hs, .str "_initial_size" t, i⟩] e
theorem part_count_spec
   (hA : A.depth < recursionLimit) (X : (KK w).In hb) (T : Tr mg mb hb) (hk : ∀ b o, hb.get? b = some o → h.get? b = some o)
   (hcu : h.get? cu = some (accO dcu items n) ∧ hb.get? cu = none)
   (k : ∀ h' tk' u, Post h h' [] [] → R (.ok (.ret (.int items.size u))) ⟨h', gg, d, tk', os⟩) :
   codeAny (model Prg w) A (.call (.ref 175) ⟨[.ref cu], []⟩) R ⟨h, gg, d, tk, os⟩ := by
  refine enterS (own := [(cu, accO dcu items n)]) (binds := [Str.ofString "self"].zip [Value.ref cu]) X T hk (by simp only [List.forall_mem_cons]; exact ⟨hcu, List.forall_mem_nil _⟩) (by simp) rfl (by kernel_rfl) hA (BindsTo.of_eq (by kernel_rfl)) (by decide) (locs0 (by decide)) ?_
  clear X T hk
  intro g L h₁ tk' X T S back hL
  refine ks_wpAt_execs_cons (ks_wpAt_Return_some ?_)
  refine superCall S X T (.head _) rfl rfl rfl rfl rfl (by decide) rfl rfl rfl rfl (al_len w) ty_len sl_wdget.lookup (.inr rfl) ent_len (by decide +kernel) (fun h news S hi A Q tk k => get_len S hi k) (fun h news S hm A Q E tk k => by rw [cb_len]; exact wpAny_pure k) ?_
  intro h' tk' S'
  refine wpAny_bind (wpAny_pure (wpAny_bind (wpAny_bind (wpAny_loadPart (S'.get (.head _)) (wpAny_pure (wpAny_bind (wpAny_bind (wpAny_fresh (wpAny_pure (wpAny_pure ?_))))))))))
  exact ⟨_, rfl, k _ _ _ (Post.of hL back S' (by simp) (by simp) (by simp) (by simp [hcu.1]))⟩
end
section
variable {w : World} {A : Around} {E : Value → Shared → Prop} {gg : Array GenState} {dr : Drawn} {tk : Nat} {os : OsState} {g h : Heap} {L : Addr} {m mg mb : Str → Option Value} {news news' : List (Addr × Obj)} {cu dcu : Addr} {ys : Array Value} {v : Value} {n : Nat}
theorem erase_push (ys : Array Value) (v : Value) : (ys.push v).eraseIdxIfInBounds ys.size = ys := by
  rw [Array.eraseIdxIfInBounds, dif_pos (by simp)]
  apply Array.ext'
  simp [List.eraseIdx_append_of_length_le]
open PySem.Builtin PySem.Builtin.List in
theorem run_pop {Q : Fin → Shared → Prop} (S : St g L m h news) (U : Up cu (accO dcu (ys.push v) n) (accO dcu ys (n + 1)) news news') (hz : ys.size ≤ 1000) (k : ∀ h', St g L m h' news' → Q (.done (.ret v)) ⟨h', gg, dr, tk, os⟩) :
    wpAny (model Prg w) A (PySem.Builtin.«list.pop» ⟨[.ref cu], []⟩) Q E ⟨h, gg, dr, tk, os⟩ := by
  unfold PySem.Builtin.«list.pop»
  refine wpAny_bind (wpAny_pure ?_)
  refine wpAny_bind (wpAny_pure ?_)
  show wpAny _ _ (if (!listFitsIndex (-1)) = true then _ else _) _ _ _
  rw [if_neg (by decide)]
  refine wpAny_bind (r_listItems S U.mem ?_)
  rw [if_neg (by simp)]
  have e : (seqIndex? (-1) (ys.push v).size).bind (fun k => (ys.push v)[k]?.map (k, ·)) = some (ys.size, v) := by
    have : seqIndex? (-1) (ys.push v).size = some ys.size := by
      unfold seqIndex?
      have e1 : (if (-1 : Int) < 0 then (-1 : Int) + ((ys.size + 1 : Nat) : Int) else -1) = (ys.size : Int) := by rw [if_pos (by decide)]; omega
      dsimp only
      rw [Array.size_push, e1, if_pos (by simp; omega)]
      rfl
    rw [this]
    simp
  rw [e]
  refine wpAny_bind (r_updateSeq S U (mapSeq_ne (erase_push _ _) (by simp)) (by rw [sizeLine_eq]; omega) fun h' S' => wpAny_pure (k h' S'))
end

theorem pop_spec {w : World} {mg mb : Str → Option Value} {h hb : Heap} {cu dcu : Addr} {ys : Array Value} {n : Nat} {i v : Value} {hs : Int} {t e : Nat} {A : Around}
   {gg : Array GenState} {d : Drawn} {tk : Nat} {os : OsState} {R : Result → Shared → Prop}
   (hA : A.depth + 1 < recursionLimit) (X : (KK w).In hb) (T : Tr mg mb hb) (hk : ∀ b o, hb.get? b = some o → h.get? b = some o)
   (hcu : h.get? cu = some (accO dcu (ys.push v) n) ∧ hb.get? cu = none) (hdcu : h.get? dcu = some (accD hs t i e) ∧ hb.get? dcu = none) (ne : cu ≠ dcu) (hz : ys.size ≤ 1000)
   (k : ∀ h' tk', Post h h' [(cu, accO dcu ys (n + 1))] [] → R (.ok (.ret v)) ⟨h', gg, d, tk', os⟩) :
   codeAny (model Prg w) A (.call (.ref 138) ⟨[.ref cu], []⟩) R ⟨h, gg, d, tk, os⟩ := by
  refine enterS (own := [(cu, accO dcu (ys.push v) n), (dcu, accD hs t i e)]) (binds := [Str.ofString "self"].zip [Value.ref cu]) X T hk (by simp only [List.forall_mem_cons]; exact ⟨hcu, hdcu, List.forall_mem_nil _⟩) (by simp [ne]) rfl (by kernel_rfl) (by omega) (BindsTo.of_eq (by kernel_rfl)) (by decide) (locs0 (by decide)) ?_
  clear X T hk
  intro g L h₁ tk' X T S back hL
  refine ks_wpAt_execs_cons (ks_wpAt_If (wpAt_of_wpAny ?_))
  refine wpAny_isTrue_Compare1 ?_
  walk_at "A"
  walk_at "A"
  walk_at "A"
  walk_at "A"
  walk_at "cw"
  refine wpAny_call (part_count_spec (by simpa [Around.deeper] using hA) X T S.F.keep (S.own (.head _)) ?_)
  intro h' tk' u P
  walk_at "post"
  walk_at "A"
  refine eq_int (wpAny_truthy_bool ?_)
  rw [if_neg (by simp; omega)]
  refine wpAt_of_wpAny (wpAny_execs_nil ?_)
  refine ks_wpAt_execs_cons (ks_wpAt_Return_some ?_)
  refine superCall S X T (.head _) rfl rfl rfl rfl rfl (by decide) rfl rfl rfl rfl (al_pop w) ty_pop sl_mdget.lookup (.inl rfl) ent_pop (by decide +kernel) (fun h news S hi A Q tk k => get_pop S hi k) (fun h news S hm A Q E tk k => ?_) ?_
  · obtain ⟨cd, hcd, hmro, hcq⟩ := cls178 w
    exact cb_pop (S.K X) (S.get hm) rfl rfl (m178m w) hcd hcq (ty178 w) k
  clear S
  intro h' tk' S
  refine run_pop S .head hz ?_
  clear S
  intro h' S
  exact ⟨_, rfl, k _ _ (Post.of hL back S (by simp) (by simp) (by simp) (by simp [hdcu.1]))⟩

-- Q4
/-- a part of a line: the pair's place and its two texts -/
structure Pt where
  u : Addr
  a : Str
  ta : Tok
  b : Str
  tb : Tok
abbrev Pt.obj (q : Pt) : Obj := tupO [.str q.a q.ta, .str q.b q.tb]
def itemsOf (l : List Pt) : Array Value := (l.map fun q => Value.ref q.u).toArray
def Pts (h : Heap) (l : List Pt) : Prop := ∀ q ∈ l, h.get? q.u = some q.obj ∧ q.a.length ≤ 1000 ∧ q.b.length ≤ 1000
def sizeAll (l : List Pt) : Nat := (l.map fun q => q.a.length + q.b.length).sum
def ptU (l : List Pt) (j : Nat) : Addr := ((l[j]?).map (·.u)).getD 0
def ptV (l : List Pt) (j : Nat) : Array Value := ((l[j]?).map fun q => #[Value.str q.a q.ta, .str q.b q.tb]).getD #[]
def ptN (l : List Pt) (j : Nat) : Int := ((l[j]?).map fun q => ((q.a.length + q.b.length : Nat) : Int)).getD 0
theorem itemsOf_size (l : List Pt) : (itemsOf l).size = l.length := by simp [itemsOf]
theorem itemsOf_get (l : List Pt) (j : Nat) (hj : j < (itemsOf l).size) : (itemsOf l)[j]? = some (.ref (ptU l j)) := by
  rw [itemsOf_size] at hj
  simp [itemsOf, ptU, List.getElem?_eq_getElem hj]
theorem preSum_snoc (l : List Pt) (q : Pt) : ∀ n, n ≤ l.length → preSum (ptN (l ++ [q])) n = preSum (ptN l) n
  | 0, _ => rfl
  | n + 1, h => by
    have e : ptN (l ++ [q]) n = ptN l n := by unfold ptN; rw [List.getElem?_append_left (by omega)]
    rw [preSum, preSum, preSum_snoc l q n (by omega), e]
theorem sizeAll_snoc (l : List Pt) (q : Pt) : sizeAll (l ++ [q]) = sizeAll l + (q.a.length + q.b.length) := by simp [sizeAll]
theorem preSum_ptR (l : List Pt) : preSum (ptN l.reverse) l.length = (sizeAll l.reverse : Int) := by
  induction l with
  | nil => rfl
  | cons q r ih =>
    have e := preSum_snoc r.reverse q r.length (by simp)
    rw [List.reverse_cons, sizeAll_snoc, List.length_cons, preSum, e, ih]
    have : ptN (r.reverse ++ [q]) r.length = ((q.a.length + q.b.length : Nat) : Int) := by
      unfold ptN
      rw [List.getElem?_append_right (by simp)]
      simp
    rw [this]; push_cast; rfl
theorem preSum_pt (l : List Pt) : preSum (ptN l) l.length = (sizeAll l : Int) := by
  have := preSum_ptR l.reverse
  simpa using this
section
variable {w : World} {mg mb : Str → Option Value} {h hb : Heap} {cu dcu : Addr} {l : List Pt} {n : Nat} {hs i : Int} {t ti e : Nat} {A : Around} {op : Obj}
   {gg : Array GenState} {d : Drawn} {tk : Nat} {os : OsState} {R : Result → Shared → Prop}
theorem Pts.tup (hl : Pts h l) (j : Nat) (hj : j < (itemsOf l).size) : h.IsTuple (ptU l j) (ptV l j) ∧ ∃ q, q ∈ l ∧ l[j]? = some q ∧ ptU l j = q.u := by
  rw [itemsOf_size] at hj
  have e := List.getElem?_eq_getElem hj
  have hm := List.getElem_mem hj
  refine ⟨⟨_, by unfold ptU; rw [e]; exact (hl _ hm).1, rfl, 0, by simp [ptV, e]⟩, _, hm, e, by simp [ptU, e]⟩
set_option hygiene false in
local macro_rules | `(tactic| walk_at "tabne") => `(tactic| (have n1 : cu ≠ 140 := fun q => by (rw [q, htab.1] at hcu; have := Option.some.inj hcu.1; rw [this] at hpd; cases hpd)); (have n2 : dcu ≠ 140 := fun q => by (rw [q, htab.1] at hdcu; have := Option.some.inj hdcu.1; rw [this] at hpd; cases hpd)))
theorem len_spec
   (hA : A.depth + 1 < recursionLimit) (hh : A.handled = none) (X : (KK w).In hb) (T : Tr mg mb hb) (hk : ∀ b o, hb.get? b = some o → h.get? b = some o)
   (hcu : h.get? cu = some (accO dcu (itemsOf l) n) ∧ hb.get? cu = none) (hdcu : h.get? dcu = some (accD hs t (.int i ti) e) ∧ hb.get? dcu = none) (ne : cu ≠ dcu) (htab : h.get? 140 = some op ∧ hb.get? 140 = none) (hop : TabOk op) (hl : Pts h l)
   (k : ∀ h' gg' tk' u op', TabOk op' → Post h h' [(140, op')] [] → GK gg gg' → R (.ok (.ret (.int (i + sizeAll l) u))) ⟨h', gg', d, tk', os⟩) :
   codeAny (model Prg w) A (.call (.ref 145) ⟨[.ref cu], []⟩) R ⟨h, gg, d, tk, os⟩ := by
  obtain ⟨pso, hpd, htr⟩ := id hop
  have n1 : cu ≠ 140 := fun q => by rw [q, htab.1] at hcu; have := Option.some.inj hcu.1; rw [this] at hpd; cases hpd
  have n2 : dcu ≠ 140 := fun q => by rw [q, htab.1] at hdcu; have := Option.some.inj hdcu.1; rw [this] at hpd; cases hpd
  have n3 : ∀ q ∈ l, q.u ≠ 140 ∧ q.u ≠ cu ∧ q.u ≠ dcu := fun q hq => ⟨fun z => (by have := (hl q hq).1; rw [z, htab.1] at this; rw [Option.some.inj this] at hpd; cases hpd), fun z => (by have := (hl q hq).1; rw [z, hcu.1] at this; cases Option.some.inj this), fun z => (by have := (hl q hq).1; rw [z, hdcu.1] at this; have := congrArg Obj.cls (Option.some.inj this); injection this with this; exact absurd this (by decide))⟩
  refine enter2 (own := [(cu, accO dcu (itemsOf l) n), (dcu, accD hs t (.int i ti) e), (140, op)]) (binds := [Str.ofString "self"].zip [Value.ref cu]) X T hk (by simp only [List.forall_mem_cons]; exact ⟨hcu, hdcu, htab, List.forall_mem_nil _⟩) (by simp [ne, n1, n2]) rfl (by kernel_rfl) (by omega) (BindsTo.of_eq (by kernel_rfl)) (by decide) (locs0 (by decide)) ?_
  clear X T hk
  intro g L h₁ tk' X T S back hL
  have hl₁ : Pts h₁ l := fun q hq => ⟨S.F.keep _ _ (back _ _ (hl q hq).1 (by simp [n3 q hq])), (hl q hq).2⟩
  walk_at "A"
  walk_at "A"
  walk_at "A"
  walk_at "A"
  walk_at "N"
  walk_at "A"
  walk_at "A"
  refine r_gen (F := fun j v => ∃ t, v = .int (ptN l j) t) (Ts := ptU l) (vals := ptV l) S X T hh (by simpa [Around.deeper] using hA) rfl rfl rfl rfl rfl rfl rfl (.head _) rfl (f178_iter w) (f178_list w) rfl (itemsOf_get l) (fun j hj => (hl₁.tup j hj).1) (.tail _ (.tail _ (.head _))) hop ?_ ?_ rfl rfl rfl rfl rfl rfl rfl rfl rfl (by decide) rfl rfl rfl (by decide) rfl ?_ ?_
  · intro j hj
    obtain ⟨_, q, hq, _, e⟩ := hl₁.tup j hj
    rw [e]; exact (n3 q hq).1
  · intro j hj
    obtain ⟨_, q, hq, e, _⟩ := hl₁.tup j hj
    exact ⟨.str q.a q.ta, .str q.b q.tb, by simp [ptV, e]⟩
  · intro Cl code A' E' j va vb t m₂ hA' hD hU hj hv hn hma hmb X T
    obtain ⟨_, q, hq, e, _⟩ := hl₁.tup j hj
    have hz := (hl₁ q hq).2
    have ee : va = .str q.a q.ta ∧ vb = .str q.b q.tb := by
      have : #[va, vb] = #[Value.str q.a q.ta, .str q.b q.tb] := by rw [← hv]; simp [ptV, e]
      injection this with this
      injection this with h1 h2
      injection h2 with h2
      exact ⟨h1, h2⟩
    obtain ⟨rfl, rfl⟩ := ee
    obtain ⟨th, tg, td, tt, to⟩ := t
    walk_at "A"
    walk_at "A"
    walk_at "A"
    refine ldB X T rfl rfl rfl rfl (nb_len w) bb_len (by decide) ?_
    walk_at "A"
    walk_at "A"
    walk_at "A"
    refine wpAny_loadName_local rfl rfl hn hma ?_
    walk_at "A"
    refine len_str (by omega) ?_
    walk_at "A"
    walk_at "A"
    refine ldB X T rfl rfl rfl rfl (nb_len w) bb_len (by decide) ?_
    walk_at "A"
    walk_at "A"
    walk_at "A"
    refine wpAny_loadName_local rfl rfl hn hmb ?_
    walk_at "A"
    refine len_str (by omega) ?_
    refine add_int ?_
    exact ⟨⟨_, by simp [ptN, e]; rfl⟩, _, _, rfl, fun _ _ e => e⟩
  · intro op' I a h₄ h₅ tk₅ gs Z hop' hS4 hgb hk₅ hag hsz₅ W hZ hty
    have S₄ := hS4 _ (.tail (.tail .head))
    have S := S₄.keeps hk₅
    repeat (walk_at "A")
    dsimp only [List.cons_append, List.nil_append]
    refine r_sum2 (val := ptN l) (WalksS.in4_1 W) (W.frame 0 ⟨h₅, gg.push gs, d, tk₅, os⟩ _ _ hZ (Nat.le_succ _) fun _ _ _ e => e) ?_ (fun j v hv => hv.2) ?_
    · intro b hb
      show b < h₅.objs.size
      rw [hsz₅]
      rcases List.mem_cons.mp hb with rfl | hb
      · exact Nat.lt_succ_self _
      rcases List.mem_cons.mp hb with rfl | hb
      · exact Nat.lt_succ_of_lt hag
      · exact Nat.lt_succ_of_lt (Nat.lt_trans (List.mem_range.mp hb) hag)
    · intro s' t' hm
      obtain ⟨sh, sg, sd, stk, sos⟩ := s'
      obtain ⟨hm1, hm2, hm3, hm4, hm5⟩ := hm
      dsimp only at hm1 hm2 hm3 hm4 hm5
      subst hm3 hm4
      have S₆ : St g L _ sh _ := S₄.moved (C := h₄.objs.size) (Heap.get?_none_of_le (Nat.le_refl _)) fun b ob nI nC e => hm1 b ob (by simp [nI, nC]) (hk₅ b ob e)
      rw [itemsOf_size, preSum_pt]
      exact k _ _ _ _ op' hop' (Post.of hL back S₆ (by simp) (by simp) (by simp) (by simp [hcu.1, hdcu.1])) (GK.of hgb hm2)
end

-- Q5
theorem f_ct151 (w : World) : codeIn (KK w) (.ref 151) "_Accumulator.__str__" = true := by kernel_rfl
def gl2 (q : Pt) : Str := Txt.join (Str.ofString "") [q.a, q.b]
def catOf (l : List Pt) : Str := Txt.join (Str.ofString "") (l.map gl2)
theorem gl2_len (q : Pt) : (gl2 q).length ≤ q.a.length + q.b.length := by
  have := StrLaws.join_length_le (Str.ofString "") [q.a, q.b]
  unfold gl2 Txt.join
  rw [StrLaws.glued_eq_join]
  have z : (Str.ofString "").length = 0 := by decide
  simp [z] at this; omega
theorem catOk {h : Heap} {l : List Pt} (hl : Pts h l) (hz : l.length ≤ 1000) : ((l.map gl2).map (·.length)).sum + (l.map gl2).length * (Str.ofString "").length ≤ 16777216 := by
  have z : (Str.ofString "").length = 0 := by decide
  rw [z, Nat.mul_zero, Nat.add_zero]
  have : ∀ l : List Pt, (∀ q ∈ l, q.a.length ≤ 1000 ∧ q.b.length ≤ 1000) → ((l.map gl2).map (·.length)).sum ≤ l.length * 2000 := by
    intro l
    induction l with
    | nil => intro _; simp
    | cons q r ih =>
      intro hq
      have h1 := ih fun q' hq' => hq q' (.tail _ hq')
      have h2 := gl2_len q
      have h3 := hq q (.head _)
      simp only [List.map_cons, List.sum_cons, List.length_cons]
      omega
  have := this l fun q hq => (hl q hq).2
  omega
section
variable {w : World} {mg mb : Str → Option Value} {h hb : Heap} {cu dcu : Addr} {l : List Pt} {n : Nat} {hs i : Int} {t ti e : Nat} {A : Around} {op : Obj}
   {gg : Array GenState} {d : Drawn} {tk : Nat} {os : OsState} {R : Result → Shared → Prop}
theorem str_spec
   (hA : A.depth + 1 < recursionLimit) (hh : A.handled = none) (X : (KK w).In hb) (T : Tr mg mb hb) (hk : ∀ b o, hb.get? b = some o → h.get? b = some o)
   (hcu : h.get? cu = some (accO dcu (itemsOf l) n) ∧ hb.get? cu = none) (htab : h.get? 147 = some op ∧ hb.get? 147 = none) (hop : TabOk op) (hl : Pts h l) (hz : l.length ≤ 1000)
   (k : ∀ h' gg' tk' u op', TabOk op' → Post h h' [(147, op')] [] → GK gg gg' → R (.ok (.ret (.str (catOf l) u))) ⟨h', gg', d, tk', os⟩) :
   codeAny (model Prg w) A (.call (.ref 152) ⟨[.ref cu], []⟩) R ⟨h, gg, d, tk, os⟩ := by
  obtain ⟨pso, hpd, htr⟩ := id hop
  have n1 : cu ≠ 147 := fun q => by rw [q, htab.1] at hcu; have := Option.some.inj hcu.1; rw [this] at hpd; cases hpd
  have n3 : ∀ q ∈ l, q.u ≠ 147 ∧ q.u ≠ cu := fun q hq => ⟨fun z => (by have := (hl q hq).1; rw [z, htab.1] at this; rw [Option.some.inj this] at hpd; cases hpd), fun z => (by have := (hl q hq).1; rw [z, hcu.1] at this; cases Option.some.inj this)⟩
  refine enter2 (own := [(cu, accO dcu (itemsOf l) n), (147, op)]) (binds := [Str.ofString "self"].zip [Value.ref cu]) X T hk (by simp only [List.forall_mem_cons]; exact ⟨hcu, htab, List.forall_mem_nil _⟩) (by simp [n1]) rfl (by kernel_rfl) (by omega) (BindsTo.of_eq (by kernel_rfl)) (by decide) (locs0 (by decide)) ?_
  clear X T hk
  intro g L h₁ tk' X T S back hL
  have hl₁ : Pts h₁ l := fun q hq => ⟨S.F.keep _ _ (back _ _ (hl q hq).1 (by simp [n3 q hq])), (hl q hq).2⟩
  obtain ⟨te, hte⟩ := ng_empty w
  walk_at "A"
  walk_at "A"
  walk_at "A"
  walk_at "A"
  refine r_ldG S X T rfl rfl rfl hte ?_
  refine GM.join ?_
  walk_at "A"
  walk_at "A"
  refine r_gen (F := fun j v => ∃ t q, l[j]? = some q ∧ v = .str (gl2 q) t) (Ts := ptU l) (vals := ptV l) S X T hh (by simpa [Around.deeper] using hA) rfl rfl rfl rfl rfl rfl rfl (.head _) rfl (f178_iter w) (f178_list w) rfl (itemsOf_get l) (fun j hj => (hl₁.tup j hj).1) (.tail _ (.head _)) hop ?_ ?_ rfl rfl rfl rfl rfl rfl rfl rfl rfl (by decide) rfl rfl rfl (by decide) rfl ?_ ?_
  · intro j hj
    obtain ⟨_, q, hq, _, e⟩ := hl₁.tup j hj
    rw [e]; exact (n3 q hq).1
  · intro j hj
    obtain ⟨_, q, hq, e, _⟩ := hl₁.tup j hj
    exact ⟨.str q.a q.ta, .str q.b q.tb, by simp [ptV, e]⟩
  · intro Cl code A' E' j va vb t m₂ hA' hD hU hj hv hn hma hmb X T
    obtain ⟨_, q, hq, e, _⟩ := hl₁.tup j hj
    have hz := (hl₁ q hq).2
    have ee : va = .str q.a q.ta ∧ vb = .str q.b q.tb := by
      have : #[va, vb] = #[Value.str q.a q.ta, .str q.b q.tb] := by rw [← hv]; simp [ptV, e]
      injection this with this
      injection this with h1 h2
      injection h2 with h2
      exact ⟨h1, h2⟩
    obtain ⟨rfl, rfl⟩ := ee
    obtain ⟨th, tg, td, tt, to⟩ := t
    walk_at "A"
    walk_at "A"
    refine ldG X T rfl rfl rfl hte ?_
    refine GM.join ?_
    walk_at "A"
    walk_at "A"
    walk_at "A"
    walk_at "A"
    walk_at "A"
    refine wpAny_loadName_local rfl rfl hn hma ?_
    walk_at "A"
    walk_at "A"
    refine wpAny_loadName_local rfl rfl hn hmb ?_
    walk_at "A"
    refine wpAny_newObj_type ?_ (by size_fits)
    walk_at "A"
    have z0 : (Str.ofString "").length = 0 := by decide
    refine join_tuple (x := Str.ofString "") (ys := [q.a, q.b]) ⟨_, Heap.get?_push_size _ rfl, rfl, 0, rfl⟩ (.cons _ _ (.cons _ _ .nil)) (by rw [z0]; simp; omega) ?_
    intro t' k'
    exact ⟨⟨_, q, e, rfl⟩, _, _, rfl, fun _ _ e => Heap.get?_push_of_some _ e⟩
  · intro op' I a h₄ h₅ tk₅ gs Z hop' hS4 hgb hk₅ hag hsz₅ W hZ hty
    have S₄ := hS4 _ (.tail .head)
    walk_at "A"
    dsimp only [List.cons_append, List.nil_append]
    refine SC.joinGen (WalksS.in4_2 W) hty hZ ?_ (.head _) (fun j v hv => ?_) ?_ (by rw [itemsOf_size, sizeLine_eq]; omega)
    · intro b hb
      show b < h₅.objs.size
      rw [hsz₅]
      rcases List.mem_cons.mp hb with rfl | hb
      · exact Nat.lt_succ_self _
      rcases List.mem_cons.mp hb with rfl | hb
      · exact Nat.lt_succ_of_lt hag
      · exact Nat.lt_succ_of_lt (Nat.lt_trans (List.mem_range.mp hb) hag)
    · obtain ⟨_, t, q, _, rfl⟩ := hv
      exact ⟨_, _, rfl⟩
    · intro s' ls hm his
      obtain ⟨sh, sg, sd, stk, sos⟩ := s'
      obtain ⟨hm1, hm2, hm3, hm4, hm5⟩ := hm
      dsimp only at hm1 hm2 hm3 hm4 hm5
      subst hm3 hm4
      have S₆ : St g L _ sh _ := S₄.moved (C := h₄.objs.size) (Heap.get?_none_of_le (Nat.le_refl _)) fun b ob nI nC e => hm1 b ob (by simp [nI, nC]) (hk₅ b ob e)
      have hls : ls.map (·.1) = l.map gl2 := by
        have h1 : ls.length = l.length := by have := his.1; simpa [strValues, itemsOf_size] using this
        apply List.ext_getElem? 
        intro j
        by_cases hj : j < l.length
        · have hj' : j < ls.length := by omega
          have := his.2 j (.str ls[j].1 ls[j].2) (by simp [strValues, hj'])
          obtain ⟨_, t, q, e, e'⟩ := this
          injection e' with e1 _
          rw [List.getElem?_map, List.getElem?_map, e, List.getElem?_eq_getElem hj']
          simp [e1]
        · rw [List.getElem?_eq_none (by simp; omega), List.getElem?_eq_none (by simp; omega)]
      rw [hls]
      refine ⟨joinOk_of (catOk hl hz), fun t' k' => ?_⟩
      exact k _ _ _ _ op' hop' (Post.of hL back S₆ (by simp) (by simp) (by simp) (by simp [hcu.1])) (GK.of hgb hm2)
end

-- Q6
theorem sizeAll_le {h : Heap} : ∀ {l : List Pt}, Pts h l → sizeAll l ≤ l.length * 2000
  | [], _ => by simp [sizeAll]
  | q :: r, hl => by
    have h1 := sizeAll_le (h := h) (l := r) fun q' hq' => hl q' (.tail _ hq')
    have h3 := (hl q (.head _)).2
    unfold sizeAll at h1 ⊢
    simp only [List.map_cons, List.sum_cons, List.length_cons]
    omega
theorem tup_ne_acc {h : Heap} {q : Pt} {cu dcu : Addr} {xs : Array Value} {n : Nat} (h1 : h.get? q.u = some q.obj) (h2 : h.get? cu = some (accO dcu xs n)) : q.u ≠ cu := fun z => by rw [z, h2] at h1; cases Option.some.inj h1
theorem tup_ne_tab {h : Heap} {q : Pt} {a : Addr} {op : Obj} (h1 : h.get? q.u = some q.obj) (h2 : h.get? a = some op) (ho : TabOk op) : q.u ≠ a := fun z => by
  obtain ⟨_, hp, _⟩ := ho
  rw [z, h2] at h1; rw [Option.some.inj h1] at hp; cases hp
theorem tup_ne_dict {h : Heap} {q : Pt} {a : Addr} {es : List DictEntry} {n : Nat} (h1 : h.get? q.u = some q.obj) (h2 : h.get? a = some (dictOf es n)) : q.u ≠ a := fun z => by
  rw [z, h2] at h1
  have := congrArg Obj.cls (Option.some.inj h1)
  injection this with this
  exact absurd this (by decide)
theorem acc_ne_tab {h : Heap} {cu dcu : Addr} {xs : Array Value} {n : Nat} {a : Addr} {op : Obj} (h1 : h.get? cu = some (accO dcu xs n)) (h2 : h.get? a = some op) (ho : TabOk op) : cu ≠ a := fun z => by
  obtain ⟨_, hp, _⟩ := ho
  rw [z, h2] at h1; rw [Option.some.inj h1] at hp; cases hp
theorem dict_ne_tab {h : Heap} {d : Addr} {es : List DictEntry} {n : Nat} {a : Addr} {op : Obj} (h1 : h.get? d = some (dictOf es n)) (h2 : h.get? a = some op) (ho : TabOk op) : d ≠ a := fun z => by
  obtain ⟨_, hp, _⟩ := ho
  rw [z, h2] at h1; rw [Option.some.inj h1] at hp; cases hp
theorem Pts.keep {h h' : Heap} {l : List Pt} (hl : Pts h l) (k : ∀ q ∈ l, h.get? q.u = some q.obj → h'.get? q.u = some q.obj) : Pts h' l := fun q hq => ⟨k q hq (hl q hq).1, (hl q hq).2⟩
theorem inst178 {g h : Heap} {L : Addr} {m : Str → Option Value} {news : List (Addr × Obj)} {cu dcu : Addr} {xs : Array Value} {n : Nat} {es : List DictEntry} {k : Nat} (S : St g L m h news) (h1 : (cu, accO dcu xs n) ∈ news) (h2 : (dcu, dictOf es k) ∈ news) : W.InstAt h cu (accO dcu xs n) 178 (some (dictOf es k)) :=
  inst_of S h1 rfl rfl rfl h2
section
variable {w : World} {mg mb : Str → Option Value} {h hb : Heap} {cu dcu : Addr} {l : List Pt} {n : Nat} {hs i : Int} {t ti e : Nat} {A : Around} {o1 o2 : Obj}
   {gg : Array GenState} {d : Drawn} {tk : Nat} {os : OsState} {R : Result → Shared → Prop}
theorem ows_spec
   (hA : A.depth + 2 < recursionLimit) (hU : A.units + 100 < cLine) (hh : A.handled = none) (X : (KK w).In hb) (T : Tr mg mb hb) (hk : ∀ b o, hb.get? b = some o → h.get? b = some o)
   (hcu : h.get? cu = some (accO dcu (itemsOf l) n) ∧ hb.get? cu = none) (hdcu : h.get? dcu = some (accD hs t (.int i ti) e) ∧ hb.get? dcu = none) (ne : cu ≠ dcu)
   (ht1 : h.get? 140 = some o1 ∧ hb.get? 140 = none) (ho1 : TabOk o1) (ht2 : h.get? 147 = some o2 ∧ hb.get? 147 = none) (ho2 : TabOk o2) (hl : Pts h l) (hz : l.length ≤ 1000)
   (hc : i = 1 ∨ (i = 0 ∧ 0 < sizeAll l ∧ Txt.isspace (catOf l) = false))
   (k : ∀ h' gg' tk' o1' o2', TabOk o1' → TabOk o2' → Post h h' [(140, o1'), (147, o2')] [] → GK gg gg' → R (.ok (.ret (.bool false))) ⟨h', gg', d, tk', os⟩) :
   codeAny (model Prg w) A (.call (.ref 167) ⟨[.ref cu], []⟩) R ⟨h, gg, d, tk, os⟩ := by
  have n1 := acc_ne_tab hcu.1 ht1.1 ho1
  have n2 := acc_ne_tab hcu.1 ht2.1 ho2
  have n3 := dict_ne_tab hdcu.1 ht1.1 ho1
  have n4 := dict_ne_tab hdcu.1 ht2.1 ho2
  have n5 : ∀ q ∈ l, q.u ≠ cu ∧ q.u ≠ dcu ∧ q.u ≠ 140 ∧ q.u ≠ 147 := fun q hq => ⟨tup_ne_acc (hl q hq).1 hcu.1, tup_ne_dict (hl q hq).1 hdcu.1, tup_ne_tab (hl q hq).1 ht1.1 ho1, tup_ne_tab (hl q hq).1 ht2.1 ho2⟩
  refine enter2 (own := [(cu, accO dcu (itemsOf l) n), (dcu, accD hs t (.int i ti) e), (140, o1), (147, o2)]) (binds := [Str.ofString "self"].zip [Value.ref cu]) X T hk (by simp only [List.forall_mem_cons]; exact ⟨hcu, hdcu, ht1, ht2, List.forall_mem_nil _⟩) (by simp [ne, n1, n2, n3, n4]) rfl (by kernel_rfl) (by omega) (BindsTo.of_eq (by kernel_rfl)) (by decide) (locs0 (by decide)) ?_
  clear X T hk
  intro g L h₁ tk' X T S back hL
  have hl₁ : Pts g l := hl.keep fun q hq e => back _ _ e (by simp [n5 q hq])
  walk_at "A"
  walk_at "A"
  refine BoolOp_and ?_
  repeat (walk_at "A")
  refine eq_int (wpAny_truthy_bool ?_)
  rcases hc with rfl | ⟨rfl, hpos, hsp⟩
  · rw [if_neg (by decide)]
    exact k _ _ _ o1 o2 ho1 ho2 (Post.of hL back S (by simp) (by simp) (by simp) (by simp [hcu.1, hdcu.1])) (.refl _)
  rw [if_pos (by decide)]
  refine BoolOp_one (BoolOp_or (UnaryOp_ ?_))
  walk_at "A"
  walk_at "A"
  refine not_of (truthy_lenK (S.K X) (inst178 S (.head _) (.tail _ (.head _))) (f178_bool w) (f178_len w) (t145 w) ?_)
  refine wpAny_call (len_spec (hb := g) (by simp [Around.deeper, Around.in1]; omega) hh X T S.F.keep (S.own (by k_mem)) (S.own (by k_mem)) ne (S.own (by k_mem)) ho1 (hl₁.keep fun q hq e => S.F.keep _ _ e) ?_)
  intro h' gg' tk'' u o1' ho1' P G
  walk_at "post"
  have hsz := sizeAll_le hl
  refine ⟨_, _, rfl, by omega, ?_⟩
  refine wpAny_truthy_bool ?_
  rw [if_neg (by simp; omega)]
  refine BoolOp_one ?_
  walk_at "A"
  walk_at "A"
  walk_at "A"
  walk_at "N"
  refine PyProof.Rows.callWith_type1 ?_
  dsimp only
  walk_at "A"
  walk_at "A"
  walk_at "A"
  walk_at "A"
  refine kso_call (by simp [Around.deeper, Around.in1]; omega) (S.K X) (inst178 S (.head _) (.tail _ (.head _))) (f178_dstr w) (isf152 w) ?_
  refine wpAny_call (str_spec (hb := g) (by simp [Around.deeper, Around.in1]; omega) hh X T S.F.keep (S.own (by k_mem)) (S.own (by k_mem)) ho2 (hl₁.keep fun q hq e => S.F.keep _ _ e) hz ?_)
  intro h' gg'' tk'' u o2' ho2' P G'
  walk_at "post"
  refine GM.isspace ?_
  walk_at "A"
  refine SC.isspace ?_
  rw [hsp]
  exact k _ _ _ o1' o2' ho1' ho2' (Post.of hL back S (by simp) (by simp) (by simp) (by simp [hcu.1, hdcu.1])) (G.trans G')
end

-- Q7
theorem put_acc {hh hs : Int} {key v i : Value} {t e : Nat} : (putL (Str.ofString "_initial_size") hh key v [⟨hs, .str "_initial_size" t, i⟩], putN (Str.ofString "_initial_size") [⟨hs, .str "_initial_size" t, i⟩] e) = ([⟨hs, .str "_initial_size" t, v⟩], e) := by rfl
section
variable {w : World} {mg mb : Str → Option Value} {h hb : Heap} {cu dcu : Addr} {xs : Array Value} {n : Nat} {hs : Int} {i : Value} {t e : Nat} {A : Around}
   {gg : Array GenState} {d : Drawn} {tk : Nat} {os : OsState} {R : Result → Shared → Prop}
theorem reset_spec
   (hA : A.depth < recursionLimit) (X : (KK w).In hb) (T : Tr mg mb hb) (hk : ∀ b o, hb.get? b = some o → h.get? b = some o)
   (hcu : h.get? cu = some (accO dcu xs n) ∧ hb.get? cu = none) (hdcu : h.get? dcu = some (accD hs t i e) ∧ hb.get? dcu = none) (ne : cu ≠ dcu) (hz : xs.size ≤ 1000)
   (k : ∀ h' tk' n' u e', Post h h' [(cu, accO dcu #[] n'), (dcu, accD hs t (.int 0 u) e')] [] → R (.ok (.ret .none)) ⟨h', gg, d, tk', os⟩) :
   codeAny (model Prg w) A (.call (.ref 160) ⟨[.ref cu], []⟩) R ⟨h, gg, d, tk, os⟩ := by
  obtain ⟨oT, nT, hT, hTd⟩ := d160 w
  refine enter2 (own := [(cu, accO dcu xs n), (dcu, accD hs t i e)]) (binds := [Str.ofString "self", Str.ofString "startval"].zip [Value.ref cu, .none]) X T hk (by simp only [List.forall_mem_cons]; exact ⟨hcu, hdcu, List.forall_mem_nil _⟩) (by simp [ne]) rfl (by kernel_rfl) hA (BindsTo.of_defaults (T := 153) rfl (hk _ _ (X _ _ hT)) hTd (by rfl) (by kernel_rfl)) (by decide) (locs0 (by decide)) ?_
  clear X T hk
  intro g L h₁ tk' X T S back hL
  walk_at "A"
  walk_at "A"
  refine wpAny_isTrue_Compare1 ?_
  repeat (walk_at "A")
  refine wpAny_Constant_none ?_
  refine wpAny_is_self rfl (wpAny_truthy_bool ?_)
  rw [if_pos rfl]
  repeat (walk_at "A")
  refine wpAny_Assign_Subscript ?_
  repeat (walk_at "A")
  refine wpAny_Slice ?_
  rw [evalPart_none]
  refine wpAny_pure (wpAny_pure (wpAny_pure ?_))
  have S' := S.push (o := sl0) rfl
  clear S
  have S := S'
  clear S'
  refine r_clear S X (f178_seti w) (f178_list w) (m178d w) (by walk_at "up") rfl (.head _) (by k_mem) hz ?_
  clear S
  intro h' S
  repeat (walk_at "A")
  refine' r_setAttr (c178 _) ?fa S X (by k_mem) (by rfl) (by rfl) (by rfl) ?fc ?fd ?fe ?ff ?_
  (case fa => walk_at "fnone")
  (case fc => walk_at "up")
  (case fd => k_get)
  (case fe => exact put_acc)
  (case ff => simp)
  (clear S; intro h' S)
  repeat (walk_at "A")
  exact k _ _ _ _ _ (Post.of hL back S (List.forall_mem_cons.2 ⟨.tail _ (.tail _ (.head _)), List.forall_mem_cons.2 ⟨.tail _ (.tail _ (.tail _ (.head _))), List.forall_mem_nil _⟩⟩) (by simp) (by simp) (by simp))
end

-- Q1
theorem push_spec {w : World} {mg mb : Str → Option Value} {h hb : Heap} {cu dcu : Addr} {items : Array Value} {n : Nat} {i : Value} {hs : Int} {t e : Nat} {a b : Value} {A : Around}
   {gg : Array GenState} {d : Drawn} {tk : Nat} {os : OsState} {R : Result → Shared → Prop}
   (hA : A.depth < recursionLimit) (X : (KK w).In hb) (T : Tr mg mb hb) (hk : ∀ b o, hb.get? b = some o → h.get? b = some o)
   (hcu : h.get? cu = some (accO dcu items n) ∧ hb.get? cu = none) (hdcu : h.get? dcu = some (dictOf [⟨hs, .str "_initial_size" t, i⟩] e) ∧ hb.get? dcu = none) (ne : cu ≠ dcu) (hz : items.size ≤ 1000)
   (k : ∀ h' tk' u, Post h h' [(cu, accO dcu (items.push (.ref u)) (n + 1))] [(u, tupO [a, b])] → R (.ok (.ret .none)) ⟨h', gg, d, tk', os⟩) :
   codeAny (model Prg w) A (.call (.ref 122) ⟨[.ref cu, a, b], []⟩) R ⟨h, gg, d, tk, os⟩ := by
  refine enter2 (own := [(cu, accO dcu items n), (dcu, dictOf [⟨hs, .str "_initial_size" t, i⟩] e)]) (binds := [Str.ofString "self", Str.ofString "fws", Str.ofString "string"].zip [Value.ref cu, a, b]) X T hk (by simp only [List.forall_mem_cons]; exact ⟨hcu, hdcu, List.forall_mem_nil _⟩) (by simp [ne]) rfl (by kernel_rfl) hA (BindsTo.of_eq (by kernel_rfl)) (by decide) (locs0 (by decide)) ?_
  clear X T hk
  intro g L h₁ tk' X T S back hL
  repeat (walk_at "A")
  dsimp only [List.cons_append, List.nil_append]
  walk_at "lapp"
  repeat (walk_at "A")
  exact k _ _ a' (Post.of hL back S (by simp) (by simp [l']) (by simp) (by simp [hdcu.1]))

-- Q8
theorem shaped2 {a b : Str} (h : PyData.strOk a = true ∧ PyData.strOk b = true) : PySem.SeqAt.shaped (.tuple [.str a, .str b]) = true := by
  simp [PySem.SeqAt.shaped, PyData.canLay0, PyData.canLayAll0, PyData.depth, PyData.depthAll, h.1, h.2]
theorem noMix2 (a b c d : Str) : PySem.SeqAt.noMix (.tuple [.str a, .str b]) (.tuple [.str c, .str d]) = true := by
  simp [PySem.SeqAt.noMix, PySem.SeqAt.noMixAll]
theorem St.sub {g h : Heap} {L : Addr} {m : Str → Option Value} {news news' : List (Addr × Obj)} (S : St g L m h news) (hs : ∀ q ∈ news', q ∈ news) (nd : (news'.map (·.1)).Nodup) : St g L m h news' := ⟨S.F, fun q hq => S.N q (hs q hq), nd⟩
theorem isInstT {M : Model} {h : Heap} {a : Addr} {o : Obj} (ho : h.get? a = some o) (hc : o.cls = .type "list") : Looks M h (isInstance (.ref a) (.type "list")) true :=
  (show Looks M h (typeOf (.ref a)) (.type "list") from hc ▸ (Looks.ld ho).andThen .now).andThen (Looks.of_pure (by rw [isSubtype_type]; kernel_rfl))
/-- a formatter's state -/
structure MS where
  (fm dmk ln cu dcu : Addr)
  I : MkI
  ls : List (Str × Tok)
  nl : Nat
  l : List Pt
  nc : Nat
  hs : Int
  t : Tok
  i : Int
  ti : Tok
  e : Nat
  (o1 o2 : Obj)
abbrev MS.seven (s : MS) : List (Addr × Obj) := [(s.fm, instObj 94 s.dmk), (s.dmk, mkD s.I s.ln s.cu), (s.ln, lstO (strValues s.ls).toArray s.nl), (s.cu, accO s.dcu (itemsOf s.l) s.nc), (s.dcu, accD s.hs s.t (.int s.i s.ti) s.e), (140, s.o1), (147, s.o2)]
def parts (l : List Pt) : List (Addr × Obj) := l.map fun q => (q.u, q.obj)
abbrev MS.own (s : MS) : List (Addr × Obj) := s.seven ++ parts s.l
structure MOk (h hb : Heap) (s : MS) : Prop where
  own : ∀ q ∈ s.own, h.get? q.1 = some q.2 ∧ hb.get? q.1 = none
  nd : (s.own.map (·.1)).Nodup
  tk1 : TabOk s.o1
  tk2 : TabOk s.o2
  lens : ∀ q ∈ s.l, q.a.length ≤ 1000 ∧ q.b.length ≤ 1000
  hz : s.l.length ≤ 900
  lz : s.ls.length ≤ 900
theorem MOk.pts {h hb : Heap} {s : MS} (M : MOk h hb s) : Pts h s.l := fun q hq => ⟨(M.own _ (List.mem_append_right _ (List.mem_map.mpr ⟨q, hq, rfl⟩))).1, M.lens q hq⟩
theorem itemsOf_snoc (l : List Pt) (q : Pt) : itemsOf (l ++ [q]) = (itemsOf l).push (.ref q.u) := by simp [itemsOf]
section
variable {w : World} {mg mb : Str → Option Value} {h hb : Heap} {s : MS} {A : Around}
   {gg : Array GenState} {d : Drawn} {tk : Nat} {os : OsState} {R : Result → Shared → Prop}
theorem newline_spec {l₀ : List Pt} {q : Pt}
   (hA : A.depth + 3 < recursionLimit) (hU : A.units + 200 < cLine) (hh : A.handled = none) (X : (KK w).In hb) (T : Tr mg mb hb) (hk : ∀ b o, hb.get? b = some o → h.get? b = some o)
   (M : MOk h hb s) (hl : s.l = l₀ ++ [q]) (hso : PyData.strOk q.a = true ∧ PyData.strOk q.b = true) (hq : ¬ (q.a = Str.ofString " " ∧ q.b = Str.ofString ""))
   (hc : (s.i = 1) ∨ (s.i = 0 ∧ 0 < sizeAll s.l ∧ Txt.isspace (catOf s.l) = false))
   (k : ∀ h' gg' tk' nl' nc' ti' u e' o1' o2', TabOk o1' → TabOk o2' → Post h h' (MS.seven { s with ls := s.ls ++ [(catOf s.l, u)], nl := nl', l := [], nc := nc', i := 0, ti := ti', e := e', o1 := o1', o2 := o2' }) [] → GK gg gg' → R (.ok (.ret .none)) ⟨h', gg', d, tk', os⟩) :
   codeAny (model Prg w) A (.call (.ref 56) ⟨[.ref s.fm], []⟩) R ⟨h, gg, d, tk, os⟩ := by
  obtain ⟨fm, dmk, ln, cu, dcu, I, ls, nl, l, nc, hs, t, i, ti, e, o1, o2⟩ := s
  dsimp only at hl hc k ⊢
  have hpts := M.pts
  have hnd := M.nd
  have ho1 := M.tk1
  have ho2 := M.tk2
  have hz := M.hz
  have lz := M.lz
  dsimp only at hpts ho1 ho2 hz lz
  refine enter2 (own := _) (binds := [Str.ofString "self"].zip [Value.ref fm]) X T hk M.own M.nd rfl (by kernel_rfl) (by omega) (BindsTo.of_eq (by kernel_rfl)) (by decide) (locs0 (by decide)) ?_
  clear X T hk
  intro g L h₁ tk' X T S back hL
  dsimp only [MS.own, MS.seven, List.cons_append, List.nil_append] at S
  have ne : cu ≠ dcu := by
    intro e
    simp [MS.own, MS.seven, e] at hnd
  repeat (walk_at "A")
  walk_at "cw"
  subst hl
  rw [itemsOf_snoc] at S
  have hqm : ∀ news : List (Addr × Obj), (∀ p ∈ parts (l₀ ++ [q]), p ∈ news) → (q.u, q.obj) ∈ news := fun news hp => hp _ (by simp [parts])
  refine wpAny_call (pop_spec (hb := g) (by simp [Around.deeper]; omega) X T S.F.keep (S.own (by k_mem)) (S.own (by k_mem)) ne (by rw [itemsOf_size]; simp at hz; omega) ?_)
  intro h' tk'' P
  walk_at "post"
  repeat (walk_at "A")
  refine wpAny_isTrue_Compare1 ?_
  repeat (walk_at "A")
  have hqS := St.get S (hqm _ (fun p hp => by simp only [List.mem_cons]; simp [hp]))
  have hqT := St.get S (.head _)
  refine ne_dataH_same (da := .tuple [.str q.a, .str q.b]) (db := .tuple [.str (Str.ofString " "), .str (Str.ofString "")]) (.tuple hqS rfl rfl (.cons (.str _ _) (.cons (.str _ _) .nil))) (.tuple hqT rfl rfl (.cons (.str _ _) (.cons (.str _ _) .nil))) (shaped2 hso) (shaped2 ⟨by decide +kernel, by decide +kernel⟩) (by simp [Around.deeper]; omega) (noMix2 _ _ _ _) ?_
  refine wpAny_truthy_bool ?_
  rw [if_pos (by simp [PySem.Spec.same, PySem.Spec.sameAll]; exact Classical.not_and_iff_not_or_not.mp hq)]
  walk_at "A"
  walk_at "A"
  refine MethodStar ?_
  repeat (walk_at "A")
  refine r_bound (c178 w) (g178 w) (f178_list w) (f178_push w) (t122 w) (sp122 w) (tk122 w) (by decide +kernel) S X (by k_mem) rfl rfl rfl (by k_mem) (by k_get) ?_
  clear S
  intro qm h' S lqm
  refine callStarM (self := .ref cu) (fn122 w) ?_
  repeat (walk_at "A")
  refine star_seq S.F S.N (hqm _ (fun p hp => by simp only [List.mem_cons]; simp [hp])) rfl rfl (.inr rfl) rfl (by size_fits) ?_
  intro h' F' N'
  have S' : St g L _ h' _ := ⟨F', N', S.nd⟩
  clear S F' N'
  have S := S'
  clear S'
  refine ⟨⟨S.get (by k_mem), S.K X⟩, ?_⟩
  refine call_meth S.N (by k_mem) ?_
  dsimp only [List.cons_append, List.nil_append, List.toList_toArray]
  refine (push_spec (hb := g) (by simp [Around.deeper]; omega) X T S.F.keep (S.own (by k_mem)) (S.own (by k_mem)) ne (by rw [itemsOf_size]; simp at hz; omega) ?_)
  intro h' tk'' u P
  walk_at "post"
  repeat (walk_at "A")
  let q' : Pt := ⟨u, q.a, q.ta, q.b, q.tb⟩
  have ei : itemsOf (l₀ ++ [q']) = (itemsOf l₀).push (.ref u) := itemsOf_snoc _ _
  have es : sizeAll (l₀ ++ [q']) = sizeAll (l₀ ++ [q]) := by simp [sizeAll, q']
  have ec : catOf (l₀ ++ [q']) = catOf (l₀ ++ [q]) := by simp [catOf, gl2, q']
  have hlen' : ∀ p ∈ l₀ ++ [q'], p.a.length ≤ 1000 ∧ p.b.length ≤ 1000 := fun p hp => by
    rcases List.mem_append.mp hp with hp | hp
    · exact (hpts p (List.mem_append_left _ hp)).2
    · rw [List.mem_singleton.mp hp]; exact (hpts q (by simp)).2
  have hp0 : ∀ p ∈ parts l₀, p ∈ parts (l₀ ++ [q]) := fun p hp => by simp only [parts, List.map_append] at hp ⊢; exact List.mem_append_left _ hp
  rw [← ei] at S
  have hP : ∀ {h'' : Heap} {news : List (Addr × Obj)} {m' : Str → Option Value}, St g L m' h'' news → (∀ p ∈ parts (l₀ ++ [q]), p ∈ news) → (u, q'.obj) ∈ news → Pts h'' (l₀ ++ [q']) := fun S' hp hu p hpm => ⟨by
    rcases List.mem_append.mp hpm with hpm | hpm
    · exact S'.get (hp _ (by simp only [parts]; exact List.mem_map.mpr ⟨p, List.mem_append_left _ hpm, rfl⟩))
    · rw [List.mem_singleton.mp hpm]; exact S'.get hu, hlen' p hpm⟩
  rw [← es, ← ec] at hc
  have hz' : (l₀ ++ [q']).length ≤ 1000 := by simp at hz ⊢; omega
  refine wpAny_isTrue_Compare1 ?_
  walk_at "A"
  walk_at "A"
  walk_at "N"
  repeat (walk_at "A")
  dsimp only [List.cons_append, List.nil_append]
  refine len_K S.F X (inst178 S (by k_mem) (by k_mem)) (f178_len w) (isf145 w) ?_
  have hPn := hP S (fun p hp => by simp only [List.mem_cons]; simp [hp]) (.head _)
  refine wpAny_call (len_spec (hb := g) (by simp [Around.deeper, Around.in1]; omega) hh X T S.F.keep (S.own (by k_mem)) (S.own (by k_mem)) ne (S.own (by k_mem)) ho1 hPn ?_)
  intro h' gg₂ tk'' u₂ o1' ho1' P G
  walk_at "post"
  have hsz := sizeAll_le hPn
  have hi01 : i = 1 ∨ i = 0 := hc.imp id (·.1)
  refine ⟨by omega, ?_⟩
  repeat (walk_at "A")
  refine gt_int (wpAny_truthy_bool ?_)
  rw [if_pos (by rcases hc with rfl | ⟨rfl, hps, _⟩ <;> simp <;> omega)]
  walk_at "A"
  walk_at "A"
  refine isTrue_and ?_
  refine isTrue_plain ?_
  walk_at "A"
  repeat (walk_at "A")
  walk_at "cw"
  refine wpAny_call (ows_spec (hb := g) (by simp [Around.deeper]; omega) (by simp [Around.deeper]; omega) hh X T S.F.keep (S.own (by k_mem)) (S.own (by k_mem)) ne (S.own (by k_mem)) ho1' (S.own (by k_mem)) ho2 (hP S (fun p hp => by simp only [List.mem_cons]; simp [hp]) (by k_mem)) hz' hc ?_)
  intro h' gg₃ tk'' o1'' o2' ho1'' ho2' P G₂
  walk_at "post"
  refine wpAny_truthy_bool ?_
  rw [if_neg (by decide), if_neg (by decide)]
  repeat (walk_at "A")
  refine getMethod_list_append (S.get (by k_mem)) rfl rfl ?_
  walk_at "A"
  walk_at "A"
  walk_at "A"
  walk_at "A"
  walk_at "N"
  refine PyProof.Rows.callWith_type1 ?_
  dsimp only
  repeat (walk_at "A")
  refine kso_call (by simp [Around.deeper]; omega) (S.K X) (inst178 S (by k_mem) (by k_mem)) (f178_dstr w) (isf152 w) ?_
  refine wpAny_call (str_spec (hb := g) (by simp [Around.deeper]; omega) hh X T S.F.keep (S.own (by k_mem)) (S.own (by k_mem)) ho2' (hP S (fun p hp => by simp only [List.mem_cons]; simp [hp]) (by k_mem)) hz' ?_)
  intro h' gg₄ tk'' u₃ o2'' ho2'' P G₃
  walk_at "post"
  dsimp only [StrBack]
  walk_at "A"
  dsimp only [List.cons_append, List.nil_append]
  refine' r_append S ?fa ?fb ?fc ?_
  (case fa => exact isInstT (S.get (by k_mem)) rfl)
  (case fb => walk_at "up")
  (case fc => (rw [sizeLine_eq]; simp [strValues]; omega))
  (clear S; intro h' S)
  repeat (walk_at "A")
  walk_at "cw"
  refine wpAny_call (reset_spec (hb := g) (by simp [Around.deeper]; omega) X T S.F.keep (S.own (by k_mem)) (S.own (by k_mem)) ne (by rw [itemsOf_size]; exact hz') ?_)
  intro h' tk'' n' u₄ e' P
  walk_at "post"
  repeat (walk_at "A")
  have ea : (strValues ls).toArray.push (.str (catOf (l₀ ++ [q'])) u₃) = (strValues (ls ++ [(catOf (l₀ ++ [q]), u₃)])).toArray := by rw [ec]; simp [strValues]
  rw [ea] at S
  rw [show (#[] : Array Value) = itemsOf [] from rfl] at S
  refine k _ _ _ (nl + 1) n' u₄ u₃ e' o1'' o2'' ho1'' ho2'' (Post.of hL back S ?_ (by simp) (by simp) ?_) (G.trans (G₂.trans G₃))
  · simp only [List.forall_mem_cons]
    refine ⟨?_, ?_, ?_, ?_, ?_, ?_, ?_, List.forall_mem_nil _⟩ <;> k_mem
  · intro p hp
    rcases List.mem_append.mp hp with hp | hp
    · left
      simp only [List.mem_cons, List.not_mem_nil, or_false] at hp
      rcases hp with rfl | rfl | rfl | rfl | rfl | rfl | rfl <;> simp
    · right
      exact ⟨by simp only [List.mem_cons]; simp [hp], (M.own p (List.mem_append_right _ hp)).1⟩
end

-- Q9
section
variable {w : World} {mg mb : Str → Option Value} {h hb : Heap} {s : MS} {A : Around}
   {gg : Array GenState} {d : Drawn} {tk : Nat} {os : OsState} {R : Result → Shared → Prop}
theorem append_spec {fa fb : Str} {ta tb : Tok}
   (hA : A.depth + 3 < recursionLimit) (hh : A.handled = none) (X : (KK w).In hb) (T : Tr mg mb hb) (hk : ∀ b o, hb.get? b = some o → h.get? b = some o)
   (M : MOk h hb s) (hla : fa.length ≤ 1000) (hlb : fb.length ≤ 1000) (hi : 0 ≤ s.i ∧ s.i ≤ 1) (hm : s.i + ((sizeAll s.l + (fa.length + fb.length) : Nat) : Int) ≤ s.I.ml)
   (k : ∀ h' gg' tk' u o1', TabOk o1' → Post h h' (MS.seven { s with l := s.l ++ [⟨u, fa, ta, fb, tb⟩], nc := s.nc + 1, o1 := o1' }) [(u, Pt.obj ⟨u, fa, ta, fb, tb⟩)] → GK gg gg' → R (.ok (.ret .none)) ⟨h', gg', d, tk', os⟩) :
   codeAny (model Prg w) A (.call (.ref 91) ⟨[.ref s.fm, .str fa ta, .str fb tb], []⟩) R ⟨h, gg, d, tk, os⟩ := by
  obtain ⟨fm, dmk, ln, cu, dcu, I, ls, nl, l, nc, hs, t, i, ti, e, o1, o2⟩ := s
  dsimp only at k hm hi ⊢
  have hpts := M.pts
  have hnd := M.nd
  have ho1 := M.tk1
  have hz := M.hz
  dsimp only at hpts ho1 hz
  refine enter2 (own := _) (binds := [Str.ofString "self", Str.ofString "fws", Str.ofString "string"].zip [Value.ref fm, .str fa ta, .str fb tb]) X T hk M.own M.nd rfl (by kernel_rfl) (by omega) (BindsTo.of_eq (by kernel_rfl)) (by decide) (locs0 (by decide)) ?_
  clear X T hk
  intro g L h₁ tk' X T S back hL
  dsimp only [MS.own, MS.seven, List.cons_append, List.nil_append] at S
  have ne : cu ≠ dcu := by
    intro e
    simp [MS.own, MS.seven, e] at hnd
  repeat (walk_at "A")
  walk_at "cw"
  repeat (walk_at "A")
  refine ⟨S.K X, ?_⟩
  dsimp only [List.cons_append, List.nil_append]
  refine wpAny_call (push_spec (hb := g) (by simp [Around.deeper]; omega) X T S.F.keep (S.own (by k_mem)) (S.own (by k_mem)) ne (by rw [itemsOf_size]; omega) ?_)
  intro h' tk'' u P
  have hu := (P.hn _ (.head _)).2
  have hLu : L < u := Nat.lt_of_lt_of_le S.lt hu
  walk_at "post"
  let q' : Pt := ⟨u, fa, ta, fb, tb⟩
  have ei : itemsOf (l ++ [q']) = (itemsOf l).push (.ref u) := itemsOf_snoc _ _
  have hlen' : ∀ p ∈ l ++ [q'], p.a.length ≤ 1000 ∧ p.b.length ≤ 1000 := fun p hp => by
    rcases List.mem_append.mp hp with hp | hp
    · exact (hpts p hp).2
    · rw [List.mem_singleton.mp hp]; exact ⟨hla, hlb⟩
  rw [← ei] at S
  have hPn : Pts h' (l ++ [q']) := fun p hpm => ⟨by
    rcases List.mem_append.mp hpm with hpm | hpm
    · exact S.get (by have : (p.u, p.obj) ∈ parts l := List.mem_map.mpr ⟨p, hpm, rfl⟩
                      simp only [List.mem_cons]; simp [this])
    · rw [List.mem_singleton.mp hpm]; exact S.get (.head _), hlen' p hpm⟩
  repeat (walk_at "A")
  refine wpAny_isTrue_Compare1 ?_
  walk_at "A"
  walk_at "A"
  walk_at "N"
  repeat (walk_at "A")
  dsimp only [List.cons_append, List.nil_append]
  refine len_K S.F X (inst178 S (by k_mem) (by k_mem)) (f178_len w) (isf145 w) ?_
  refine wpAny_call (len_spec (hb := g) (by simp [Around.deeper]; omega) hh X T S.F.keep (S.own (by k_mem)) (S.own (by k_mem)) ne (S.own (by k_mem)) ho1 hPn ?_)
  intro h' gg₂ tk'' u₂ o1' ho1' P G
  walk_at "post"
  have hsz := sizeAll_le hPn
  have hsn : sizeAll (l ++ [q']) = sizeAll l + (fa.length + fb.length) := sizeAll_snoc l q'
  refine ⟨by simp at hsz; omega, ?_⟩
  repeat (walk_at "A")
  refine gt_int (wpAny_truthy_bool ?_)
  rw [if_neg (by simp; omega)]
  repeat (walk_at "A")
  refine k _ _ _ u o1' ho1' (Post.of hL back S ?_ ?_ (by simp) ?_) G
  · simp only [List.forall_mem_cons]
    refine ⟨?_, ?_, ?_, ?_, ?_, ?_, ?_, List.forall_mem_nil _⟩ <;> k_mem
  · intro p hp
    rw [List.mem_singleton.mp hp]
    exact ⟨.head _, hLu⟩
  · intro p hp
    rcases List.mem_append.mp hp with hp | hp
    · left
      simp only [List.mem_cons, List.not_mem_nil, or_false] at hp
      rcases hp with rfl | rfl | rfl | rfl | rfl | rfl | rfl <;> simp
    · right
      exact ⟨by simp only [List.mem_cons]; simp [hp], (M.own p (List.mem_append_right _ hp)).1⟩
end

-- Q17
abbrev mlM (fm : Addr) : Str → Option Value := fun x => ([Str.ofString "self"].zip [Value.ref fm]).reverse.lookup x
/-- what the generator needs where it goes on -/
structure MLC (hb : Heap) (C : Addr) (s : MS) (t : Shared) : Prop where
  keep : ∀ b o, hb.get? b = some o → t.heap.get? b = some o
  fm : t.heap.get? s.fm = some (instObj 94 s.dmk)
  dmk : t.heap.get? s.dmk = some (mkD s.I s.ln s.cu)
  ns : t.heap.Ns C (mlM s.fm)
  tab : ∃ o, TabOk o ∧ t.heap.get? 140 = some o
def MLY (hb : Heap) (C : Addr) (s : MS) (N : Nat) (X1 X2 : Int) : Protocol := fun n s₀ v s₁ kap =>
  (∃ t h' gg' tk o, v = .int (if n = N then X1 else X2) t ∧ s₁ = ⟨h', gg', s₀.drawn, tk, s₀.os⟩ ∧ TabOk o ∧ Post s₀.heap h' [(140, o)] [] ∧ GK s₀.gens gg') ∧ (n ≠ 0 → ∀ t, MLC hb C s t → kap (.send .none) t)
/-- the generator, not yet begun -/
def MLGen (w : World) (mg mb : Str → Option Value) (C : Addr) (fm : Addr) (gs : GenState) : Prop :=
  ∀ (A : Around) (hb : Heap) (s : MS) (N : Nat) (s₀ : Shared), A.depth + 2 < recursionLimit → A.handled = none → (KK w).In hb → Tr mg mb hb → (∀ b o, hb.get? b = some o → s₀.heap.get? b = some o) → hb.objs.size ≤ C → MOk s₀.heap hb s → s.fm = fm →
    s₀.heap.Ns C (mlM fm) → (∀ q ∈ s.own, q.1 ≠ C) → 0 ≤ s.i ∧ s.i ≤ 1 →
    gs.Goes (model Prg w) A (fun _ _ _ _ => False) (MLY hb C s N (s.I.ml - (s.i + sizeAll s.l)) (s.I.ml - s.I.wl)) (N + 1) (.send .none) s₀
section
variable {w : World} {mg mb : Str → Option Value} {h hb : Heap} {s : MS} {A : Around}
   {gg : Array GenState} {d : Drawn} {tk : Nat} {os : OsState} {R : Result → Shared → Prop}
theorem ml_spec {fm : Addr} (hA : A.depth < recursionLimit) (X : (KK w).In hb) (T : Tr mg mb hb) (hk : ∀ b o, hb.get? b = some o → h.get? b = some o)
   (k : ∀ h' tk' a C oC nm qn gs, Post h h' [] [(a, genO gg.size nm qn), (C, oC)] → NsObj oC (mlM fm) → C < a → C = h.objs.size → MLGen w mg mb C fm gs → gs.bare = true → R (.ok (.ret (.ref a))) ⟨h', gg.push gs, d, tk', os⟩) :
   codeAny (model Prg w) A (.call (.ref 77) ⟨[.ref fm], []⟩) R ⟨h, gg, d, tk, os⟩ := by
  refine make_gen (binds := [Str.ofString "self"].zip [Value.ref fm]) X T hk rfl (by kernel_rfl) hA (BindsTo.of_eq (by kernel_rfl)) (by decide) (locs0 (by decide)) ?_
  intro h' tk' a C oC nm qn P nC lt eC
  refine k _ _ a C oC nm qn _ P nC lt eC ?_ rfl
  clear X T hk k P nC lt eC
  intro A hb s N s₀ hA hh X T hk hz M hfm hns hoC hi
  obtain ⟨h₀, gg₀, d₀, tk₀, os₀⟩ := s₀
  obtain ⟨fm', dmk, ln, cu, dcu, I, ls, nl, l, nc, hs, tt, i, ti, e, o1, o2⟩ := s
  dsimp only at hfm hi hk hns
  subst hfm
  have S : St hb C (mlM fm') h₀ _ := ⟨⟨hns, hk, hz⟩, fun q hq => ⟨(M.own q hq).1, hoC q hq, (M.own q hq).2⟩, M.nd⟩
  refine ⟨rfl, ?_⟩
  refine seg_func (seg_execs_cons (seg_Expr_Yield rfl rfl rfl ?_))
  have hpts := M.pts
  have ho1 := M.tk1
  have hzl := M.hz
  have hnd := M.nd
  dsimp only at hpts ho1 hzl
  have ne : cu ≠ dcu := by
    intro e
    simp [MS.own, MS.seven, e] at hnd
  dsimp only [MS.own, MS.seven, List.cons_append, List.nil_append] at S
  repeat (walk_at "A")
  walk_at "N"
  repeat (walk_at "A")
  dsimp only [List.cons_append, List.nil_append]
  refine len_K S.F X (inst178 S (by k_mem) (by k_mem)) (f178_len w) (isf145 w) ?_
  refine wpAny_call (len_spec (hb := hb) (by show A.depth + 0 + 1 + 1 < recursionLimit; omega) hh X T S.F.keep (S.own (by k_mem)) (S.own (by k_mem)) ne (S.own (by k_mem)) ho1 hpts ?_)
  intro h' gg₂ tk'' u₂ o1' ho1' P G
  have hsz := sizeAll_le hpts
  refine ⟨by omega, ?_⟩
  refine sub_int ?_
  intro kap hkap
  refine ⟨⟨_, _, _, _, o1', by rw [if_pos rfl], rfl, ho1', P, G⟩, ?_⟩
  intro hn t Ct
  refine hkap .none t ?_
  dsimp only
  refine seg_execs_cons (seg_While fun p => ?_)
  generalize hfs : ([Frame.ret _ _ _ _ _ _ _] : List Frame) = fs
  have f1 : splitAtGen fs = none := by subst hfs; rfl
  have f2 : fs.any Frame.guarded = false := by subst hfs; rfl
  have fh : ∀ c, (A.over c fs).handled = none := by subst hfs; intro c; exact hh
  clear hfs
  obtain ⟨m, rfl⟩ : ∃ m, N = m + 1 := ⟨N - 1, by omega⟩
  have nds : ([(fm', instObj 94 dmk), (dmk, mkD I ln cu)].map (·.1)).Nodup := by
    simp only [MS.own, MS.seven, List.cons_append, List.map_cons, List.nodup_cons, List.mem_cons, not_or] at hnd
    simp [hnd.1.1]
  clear hn
  refine (?_ : ∀ n, n < m + 1 → ∀ t, MLC hb C ⟨fm', dmk, ln, cu, dcu, I, ls, nl, l, nc, hs, tt, i, ti, e, o1, o2⟩ t → Seg (model Prg w) A _ _ (n + 1) t (.whileLoop _ _ _ _) ((model Prg w).den (.whileLoop _ _ _ _)) fs t) m (Nat.lt_succ_self m) t Ct
  clear Ct t hkap kap G P S hpts
  intro n
  induction n with
  | zero =>
    intro hn t Ct
    obtain ⟨h', gg', d', tk', os'⟩ := t
    obtain ⟨c1, c2, c3, c4, o, ho, c5⟩ := Ct
    dsimp only at c1 c2 c3 c4 c5
    have S : St hb C (mlM fm') h' [(fm', instObj 94 dmk), (dmk, mkD I ln cu)] := ⟨⟨c4, c1, hz⟩, List.forall_mem_cons.2 ⟨⟨c2, hoC _ (.head _), (M.own _ (.head _)).2⟩, List.forall_mem_cons.2 ⟨⟨c3, hoC _ (.tail _ (.head _)), (M.own _ (.tail _ (.head _))).2⟩, List.forall_mem_nil _⟩⟩, nds⟩
    refine seg_whileLoop (isTrue_plain ?_)
    refine Constant_bool ?_
    refine wpAny_truthy_bool ?_
    rw [if_pos rfl]
    refine seg_execs_cons (seg_Expr_Yield f1 rfl f2 ?_)
    repeat (walk_at "A")
    refine sub_int ?_
    intro kap hkap
    refine ⟨⟨_, _, _, _, o, by rw [if_neg (by omega)], rfl, ho, ⟨by simp [c5], by simp, by simp, fun b ob e nb => e⟩, GK.refl _⟩, fun q => absurd rfl q⟩
  | succ n ih =>
    intro hn t Ct
    obtain ⟨h', gg', d', tk', os'⟩ := t
    obtain ⟨c1, c2, c3, c4, o, ho, c5⟩ := Ct
    dsimp only at c1 c2 c3 c4 c5
    have S : St hb C (mlM fm') h' [(fm', instObj 94 dmk), (dmk, mkD I ln cu)] := ⟨⟨c4, c1, hz⟩, List.forall_mem_cons.2 ⟨⟨c2, hoC _ (.head _), (M.own _ (.head _)).2⟩, List.forall_mem_cons.2 ⟨⟨c3, hoC _ (.tail _ (.head _)), (M.own _ (.tail _ (.head _))).2⟩, List.forall_mem_nil _⟩⟩, nds⟩
    refine seg_whileLoop (isTrue_plain ?_)
    refine Constant_bool ?_
    refine wpAny_truthy_bool ?_
    rw [if_pos rfl]
    refine seg_execs_cons (seg_Expr_Yield f1 rfl f2 ?_)
    repeat (walk_at "A")
    refine sub_int ?_
    intro kap hkap
    refine ⟨⟨_, _, _, _, o, by rw [if_neg (by omega)], rfl, ho, ⟨by simp [c5], by simp, by simp, fun b ob e nb => e⟩, GK.refl _⟩, fun _ t Ct => hkap .none t ?_⟩
    exact seg_execs_nil (seg_again rfl (ih (by omega) t Ct))
end

-- Q11
section
variable {w : World} {mg mb : Str → Option Value} {h hb : Heap} {A : Around}
   {gg : Array GenState} {d : Drawn} {tk : Nat} {os : OsState} {R : Result → Shared → Prop}
theorem kb1 (w : World) : kitOne (KK w) (.type "bytes") (.type "bytes") = some true := by kernel_rfl
theorem kb2 (w : World) : kitOne (KK w) (.type "str") (.type "bytes") = some false := by kernel_rfl
theorem kb3 (w : World) : kitOne (KK w) (.type "bytes") (.type "str") = some false := by kernel_rfl
theorem kb4 (w : World) : kitOne (KK w) (.type "str") (.type "str") = some true := by kernel_rfl
theorem sepS_spec {x : Str} {t : Tok} (hA : A.depth < recursionLimit) (X : (KK w).In hb) (T : Tr mg mb hb) (hk : ∀ b o, hb.get? b = some o → h.get? b = some o)
   (k : ∀ h' tk' u, Post h h' [] [] → R (.ok (.ret (.str (Str.ofString "/") u))) ⟨h', gg, d, tk', os⟩) :
   codeAny (model Prg w) A (.call (.ref 197) ⟨[.str x t], []⟩) R ⟨h, gg, d, tk, os⟩ := by
  refine enter2 (own := []) (binds := [Str.ofString "path"].zip [Value.str x t]) X T hk (by simp) (by simp) rfl (by kernel_rfl) hA (BindsTo.of_eq (by kernel_rfl)) (by decide) (locs0 (by decide)) ?_
  clear X T hk
  intro g L h₁ tk' X T S back hL
  walk_at "A"
  walk_at "A"
  refine isTrue_plain ?_
  walk_at "A"
  walk_at "A"
  walk_at "N"
  walk_at "A"
  walk_at "A"
  walk_at "A"
  walk_at "A"
  walk_at "A"
  walk_at "A"
  walk_at "N"
  walk_at "A"
  dsimp only [List.cons_append, List.nil_append]
  refine kia_one kitx_str (S.K X) trivial (kb2 w) (fun e => nomatch e) ?_
  intro tk₂
  refine wpAny_truthy_bool ?_
  rw [if_neg (by decide)]
  repeat (walk_at "A")
  exact k _ _ _ (Post.of hL back S (by simp) (by simp) (by simp) (by simp))
theorem sepB_spec {x : Array UInt8} {t : Tok} (hA : A.depth < recursionLimit) (X : (KK w).In hb) (T : Tr mg mb hb) (hk : ∀ b o, hb.get? b = some o → h.get? b = some o)
   (k : ∀ h' tk' u, Post h h' [] [] → R (.ok (.ret (.bytes #[47] u))) ⟨h', gg, d, tk', os⟩) :
   codeAny (model Prg w) A (.call (.ref 197) ⟨[.bytes x t], []⟩) R ⟨h, gg, d, tk, os⟩ := by
  refine enter2 (own := []) (binds := [Str.ofString "path"].zip [Value.bytes x t]) X T hk (by simp) (by simp) rfl (by kernel_rfl) hA (BindsTo.of_eq (by kernel_rfl)) (by decide) (locs0 (by decide)) ?_
  clear X T hk
  intro g L h₁ tk' X T S back hL
  walk_at "A"
  walk_at "A"
  refine isTrue_plain ?_
  walk_at "A"
  walk_at "A"
  walk_at "N"
  walk_at "A"
  walk_at "A"
  walk_at "A"
  walk_at "A"
  walk_at "A"
  walk_at "A"
  walk_at "N"
  walk_at "A"
  dsimp only [List.cons_append, List.nil_append]
  refine kia_one kitx_bytes (S.K X) trivial (kb1 w) (fun e => nomatch e) ?_
  intro tk₂
  refine wpAny_truthy_bool ?_
  rw [if_pos (by decide)]
  repeat (walk_at "A")
  refine Constant_bytes ?_
  exact k _ _ _ (Post.of hL back S (by simp) (by simp) (by simp) (by simp))
end

-- Q12
open PySem.Builtin._codecs in
theorem encode_asc (x : Str) (t u : Tok) : Builtin.«str.encode» ⟨[.str x t, .str (Str.ofString "ascii") u], []⟩ = (do ret (← encodeRoad "str.encode" (.str x t) x (Str.ofString "ascii") none)) := by kernel_rfl
open PySem.Builtin._codecs in
theorem road_asc (self : Value) (x : Str) : encodeRoad "str.encode" self x (Str.ofString "ascii") none = (do mkBytes (← encodeNarrow "str.encode" asciiCodec none self x)) := by kernel_rfl
theorem enc_gm {M : Model} {A : Around} {E : Value → Shared → Prop} {s : Shared} {x : Str} {t : Tok} {pl : Sem Bool} {Q : Value × List Value → Shared → Prop} (h : Q (.builtin "str.encode", [.str x t]) s) : wpAny M A (getMethod (.str x t) "encode" pl) Q E s :=
  GM.of (.str x t) (typeIs_str _ _ _) F.slot_str_encode F.type_str_encode GM.noRef h
section
variable {w : World} {mg mb : Str → Option Value} {h hb : Heap} {A : Around}
   {gg : Array GenState} {d : Drawn} {tk : Nat} {os : OsState} {R : Result → Shared → Prop}
theorem tup183 (w : World) : ∃ n, (KK w).lookup 183 = some ⟨.type "tuple", none, .seq [.type "bytes", .type "bytearray"].toArray n, #[]⟩ := ⟨_, rfl⟩
theorem kb5 (w : World) : kitAny (KK w) (.type "bytes") [.type "bytes", .type "bytearray"] = some true := by kernel_rfl
theorem bfdB_spec {x : Array UInt8} {t : Tok} (hA : A.depth < recursionLimit) (X : (KK w).In hb) (T : Tr mg mb hb) (hk : ∀ b o, hb.get? b = some o → h.get? b = some o)
   (k : ∀ h' tk', Post h h' [] [] → R (.ok (.ret (.bytes x t))) ⟨h', gg, d, tk', os⟩) :
   codeAny (model Prg w) A (.call (.ref 190) ⟨[.bytes x t], []⟩) R ⟨h, gg, d, tk, os⟩ := by
  obtain ⟨n8, h8⟩ := tup183 w
  refine enter2 (own := []) (binds := [Str.ofString "s"].zip [Value.bytes x t]) X T hk (by simp) (by simp) rfl (by kernel_rfl) hA (BindsTo.of_eq (by kernel_rfl)) (by decide) (locs0 (by decide)) ?_
  clear X T hk
  intro g L h₁ tk' X T S back hL
  walk_at "A"
  walk_at "A"
  refine isTrue_plain ?_
  walk_at "A"
  walk_at "A"
  walk_at "N"
  walk_at "A"
  walk_at "A"
  walk_at "A"
  walk_at "A"
  walk_at "A"
  walk_at "A"
  walk_at "N"
  walk_at "A"
  dsimp only [List.cons_append, List.nil_append]
  refine kia_one kitx_bytes (S.K X) trivial (kb3 w) (fun e => nomatch e) ?_
  intro tk₂
  refine wpAny_truthy_bool ?_
  rw [if_neg (by decide)]
  walk_at "A"
  walk_at "A"
  walk_at "A"
  refine isTrue_plain ?_
  walk_at "A"
  walk_at "A"
  walk_at "N"
  walk_at "A"
  walk_at "A"
  walk_at "A"
  walk_at "A"
  walk_at "A"
  walk_at "A"
  walk_at "N"
  walk_at "A"
  dsimp only [List.cons_append, List.nil_append]
  refine kia_tup kitx_bytes (S.K X) trivial (S.base X h8) (kb5 w) (fun e => nomatch e) ?_
  intro tk₃
  refine wpAny_truthy_bool ?_
  rw [if_pos (by decide)]
  repeat (walk_at "A")
  exact k _ _ (Post.of hL back S (by simp) (by simp) (by simp) (by simp))
theorem bfdS_spec {x : Str} {t : Tok} (hA : A.depth < recursionLimit) (X : (KK w).In hb) (T : Tr mg mb hb) (hk : ∀ b o, hb.get? b = some o → h.get? b = some o)
   (hx : ∀ c ∈ x.cps.toList, c < 128) (hz : x.length ≤ 1000)
   (k : ∀ h' tk' u, Post h h' [] [] → R (.ok (.ret (.bytes (octs x) u))) ⟨h', gg, d, tk', os⟩) :
   codeAny (model Prg w) A (.call (.ref 190) ⟨[.str x t], []⟩) R ⟨h, gg, d, tk, os⟩ := by
  refine enter2 (own := []) (binds := [Str.ofString "s"].zip [Value.str x t]) X T hk (by simp) (by simp) rfl (by kernel_rfl) hA (BindsTo.of_eq (by kernel_rfl)) (by decide) (locs0 (by decide)) ?_
  clear X T hk
  intro g L h₁ tk' X T S back hL
  walk_at "A"
  walk_at "A"
  refine isTrue_plain ?_
  walk_at "A"
  walk_at "A"
  walk_at "N"
  walk_at "A"
  walk_at "A"
  walk_at "A"
  walk_at "A"
  walk_at "A"
  walk_at "A"
  walk_at "N"
  walk_at "A"
  dsimp only [List.cons_append, List.nil_append]
  refine kia_one kitx_str (S.K X) trivial (kb4 w) (fun e => nomatch e) ?_
  intro tk₂
  refine wpAny_truthy_bool ?_
  rw [if_pos (by decide)]
  walk_at "A"
  refine wpAny_Try_except ?_
  walk_at "A"
  walk_at "A"
  walk_at "A"
  walk_at "A"
  walk_at "A"
  refine enc_gm ?_
  repeat (walk_at "A")
  dsimp only [List.cons_append, List.nil_append]
  refine wpAny_call (codeAny_call_builtin F.slot_str_encode.plain F.entry_str_encode (F.slot_str_encode.check _ _ _ _ _ _ _ _ (typeIs_str _ _ _) (F.args_str_encode_2 _ _) ?_))
  rw [encode_asc, road_asc, enc_ascii _ _ hx hz]
  refine wpAny_bind (wpAny_bind (wpAny_pure (wpAny_mkBytes ?_ (by simp only [octs, Array.size_map, sizeLine_eq]; have : x.cps.size ≤ 1000 := hz; omega))))
  refine wpAny_pure ?_
  exact k _ _ _ (Post.of hL back S (by simp) (by simp) (by simp) (by simp))
end

-- Q18
/-- a thing whose signs are x -/
inductive Octs (x : Str) : Value → Prop
  | bytes (b : Array UInt8) (t : Tok) (e : cp x = b.toList.map UInt8.toNat) : Octs x (.bytes b t)
  | text (t : Tok) (e : ∀ c ∈ cp x, c < 128) : Octs x (.str x t)
theorem sumOnes (l : List Nat) : (l.map fun _ => 1).sum = l.length := by
  rw [List.map_const', List.sum_replicate_nat]; omega
theorem octs_cp {x : Str} (hx : ∀ c ∈ cp x, c < 128) : (octs x).toList.map UInt8.toNat = cp x := by
  show (Array.map _ x.cps).toList.map _ = x.cps.toList
  rw [Array.toList_map, List.map_map]
  conv => rhs; rw [← List.map_id x.cps.toList]
  refine List.map_congr_left fun c hc => ?_
  have := hx c hc
  simp only [Function.comp, id]
  show (c % 256 : Nat) = c
  omega
theorem strsAt {f : Nat → Str} : ∀ (l : List Value) (n : Nat), (∀ j y, l[j]? = some y → ∃ t, y = Value.str (f (n + j)) t) → StrsAre l ((List.range' n l.length).map f)
  | [], _, _ => .nil
  | v :: r, n, hy => by
    obtain ⟨t, rfl⟩ := hy 0 v rfl
    rw [List.length_cons, List.range'_succ, List.map_cons]
    exact .cons _ _ (strsAt r (n + 1) fun j y e => by
      obtain ⟨t, e'⟩ := hy (j + 1) y (by simpa using e)
      exact ⟨t, by rw [e', show n + (j + 1) = n + 1 + j by omega]⟩)
theorem joinOcts {b : Array UInt8} {x : Str} (hb : b.toList.map UInt8.toNat = cp x) : Txt.join (Str.ofString "") ((List.range' 0 b.size).map fun j : Nat => (⟨#[((b[j]?).getD (0 : UInt8)).toNat]⟩ : Str)) = x := by
  refine cp_inj ?_
  rw [cp_join cp_nil, ← hb, List.map_map]
  have : ((cp ∘ fun j : Nat => (⟨#[((b[j]?).getD (0 : UInt8)).toNat]⟩ : Str)) : Nat → List Nat) = fun j => [((b[j]?).getD (0 : UInt8)).toNat] := rfl
  rw [this]
  have e2 : ∀ l : List Nat, (l.map fun j => [((b[j]?).getD (0 : UInt8)).toNat]).flatten = l.map fun j => ((b[j]?).getD (0 : UInt8)).toNat := fun l => by induction l <;> simp_all
  rw [e2]
  refine List.ext_getElem (by simp) fun i h1 h2 => ?_
  simp at h1 h2
  simp [h1]
section
variable {w : World} {mg mb : Str → Option Value} {h hb : Heap} {A : Around}
   {gg : Array GenState} {d : Drawn} {tk : Nat} {os : OsState} {R : Result → Shared → Prop}
/-- _bytes_from_decode_data upon such a thing -/
theorem bfd_spec {x : Str} {v : Value} (hA : A.depth < recursionLimit) (X : (KK w).In hb) (T : Tr mg mb hb) (hk : ∀ b o, hb.get? b = some o → h.get? b = some o)
   (hv : Octs x v) (hz : x.length ≤ 1000)
   (k : ∀ h' tk' b u, Post h h' [] [] → b.toList.map UInt8.toNat = cp x → R (.ok (.ret (.bytes b u))) ⟨h', gg, d, tk', os⟩) :
   codeAny (model Prg w) A (.call (.ref 190) ⟨[v], []⟩) R ⟨h, gg, d, tk, os⟩ := by
  cases hv with
  | bytes b t e => exact bfdB_spec hA X T hk fun h' tk' P => k _ _ _ _ P e.symm
  | text t e => exact bfdS_spec hA X T hk e hz fun h' tk' u P => k _ _ _ _ P (octs_cp e)
end
/-- the state of the lines' loop, n turns ahead of its end at most -/
structure LInv (w : World) (A : Around) (g hb : Heap) (L : Addr) (gg₀ : Array GenState) (d : Drawn) (os : OsState) (s : MS) (gs : GenState) (oC : Obj) (a C : Addr) (nm qn : Value) (r1 r : Nat) (x : Str) (n : Nat) (D : Addr) (t : Shared) (m : Str → Option Value) (xs : List (Str × Tok)) (nn : Nat) (o1 : Obj) (x' : Str) (tx : Tok) (gsn : GenState) : Prop where
  sh : t = ⟨t.heap, t.gens, d, t.toks, os⟩
  S : St g L m t.heap ((D, lstO (strValues xs).toArray nn) :: (a, genO gg₀.size nm qn) :: (C, oC) :: ({ s with o1 := o1 } : MS).own)
  ok : TabOk o1
  m1 : m (Str.ofString "signs") = some (.str x' tx)
  m2 : m (Str.ofString "lines") = some (.ref D)
  m3 : m (Str.ofString "rooms") = some (.ref a)
  gen : t.gens[gg₀.size]? = some gsn
  gk : GK gg₀ t.gens
  gb : gsn.bare = true
  len : x'.length ≤ 1000
  cnt : xs.length + n = 20
  go : (n = 20 ∧ xs = [] ∧ o1 = s.o1 ∧ gsn = gs ∧ x' = x) ∨
    (n < 20 ∧ (n ≠ 0 → ∀ t, MLC hb C s t → gsn.Goes (model Prg w) A (fun _ _ _ _ => False) (MLY hb C s 19 r1 r) n (.send .none) t) ∧ xs.map (fun p => cp p.1) ++ chunks r n (cp x') = cutL r1 r (cp x))
theorem mem_setIf {α : Type} {a : Array α} {i : Nat} {x y : α} (h : y ∈ a.setIfInBounds i x) : y ∈ a ∨ y = x := by
  obtain ⟨j, hj, e⟩ := Array.mem_iff_getElem.mp h
  rw [Array.getElem_setIfInBounds] at e
  · split at e
    · exact .inr e.symm
    · exact .inl (e ▸ Array.getElem_mem _)
  · simpa using hj
theorem bareSet {a : Array GenState} {i : Nat} {x : GenState} (h : AllBare a) (hx : x.bare = true) : AllBare (a.setIfInBounds i x) := fun y hy => by
  rcases mem_setIf hy with hy | rfl
  · exact h y hy
  · exact hx
theorem GK.step {a b c : Array GenState} {x y : GenState} (g1 : GK a b) (g2 : GK (b.setIfInBounds a.size x) c) (hx : x.bare = true) (hy : y.bare = true) : GK a (c.setIfInBounds a.size y) := by
  refine ⟨fun i hi => ?_, ?_, fun h => bareSet (g2.2.2 (bareSet (g1.2.2 h) hx)) hy⟩
  · have hb : i < b.size := Nat.lt_of_lt_of_le hi g1.2.1
    rw [Array.getElem?_setIfInBounds_ne (Nat.ne_of_gt hi), g2.1 i (by simpa using hb), Array.getElem?_setIfInBounds_ne (Nat.ne_of_gt hi), g1.1 i hi]
  · have := g2.2.1
    simp at this ⊢
    exact Nat.le_trans g1.2.1 this
section
variable {w : World} {mg mb : Str → Option Value} {h hb : Heap} {s : MS} {A : Around}
   {d : Drawn} {tk : Nat} {os : OsState} {R : Result → Shared → Prop}
theorem lines_spec {gg₀ : Array GenState} {gs : GenState} {x : Str} {v : Value} {a C : Addr} {nm qn : Value} {oC : Obj} {r1 r : Nat}
   (hA : A.depth + 4 < recursionLimit) (hh : A.handled = none) (X : (KK w).In hb) (T : Tr mg mb hb) (hk : ∀ b o, hb.get? b = some o → h.get? b = some o)
   (M : MOk h hb s) (hown : ∀ q ∈ (a, genO gg₀.size nm qn) :: (C, oC) :: s.own, h.get? q.1 = some q.2 ∧ hb.get? q.1 = none) (nd : (((a, genO gg₀.size nm qn) :: (C, oC) :: s.own).map (·.1)).Nodup)
   (hC : hb.objs.size ≤ C) (nC : NsObj oC (mlM s.fm)) (hgen : MLGen w mg mb C s.fm gs) (hgb : gs.bare = true)
   (hi : 0 ≤ s.i ∧ s.i ≤ 1) (hr1 : (r1 : Int) = s.I.ml - (s.i + sizeAll s.l)) (hr : (r : Int) = s.I.ml - s.I.wl)
   (hv : Octs x v) (hz : x.length ≤ 1000)
   (k : ∀ h' gg' tk' D xs nn o1', TabOk o1' → Post h h' [(140, o1')] [(D, lstO (strValues xs).toArray nn)] → GK gg₀ gg' → xs.map (fun p => cp p.1) = cutL r1 r (cp x) → R (.ok (.ret (.ref D))) ⟨h', gg', d, tk', os⟩) :
   codeAny (model Prg w) A (.call (.ref 202) ⟨[v, .ref a], []⟩) R ⟨h, gg₀.push gs, d, tk, os⟩ := by
  refine enter2 (own := _) (binds := [Str.ofString "thing", Str.ofString "rooms"].zip [v, Value.ref a]) X T hk hown nd rfl (by kernel_rfl) (by omega) (BindsTo.of_eq (by kernel_rfl)) (by decide) (locs0 (by decide)) ?_
  have X0 := X
  have T0 := T
  have hbg : ∀ g : Heap, (∀ b o, h.get? b = some o → b ∉ ((a, genO gg₀.size nm qn) :: (C, oC) :: s.own).map (·.1) → g.get? b = some o) → ∀ b o, hb.get? b = some o → g.get? b = some o := fun g hg b o e => hg b o (hk b o e) fun q => by
    obtain ⟨p, hp, rfl⟩ := List.mem_map.mp q
    rw [(hown p hp).2] at e; cases e
  clear X T hk
  intro g L h₁ tk' X T S back hL
  have hbg := hbg g back
  walk_at "A"
  walk_at "A"
  walk_at "A"
  walk_at "A"
  refine GM.join ?_
  walk_at "A"
  walk_at "A"
  refine r_comp (cl := []) (g := g) (L := L) (news := (a, genO gg₀.size nm qn) :: (C, oC) :: s.own) (m := fun x => ([Str.ofString "thing", Str.ofString "rooms"].zip [v, Value.ref a]).reverse.lookup x) (fun u y => ∃ c t t', u = .int c t ∧ y = .str ⟨#[c.toNat]⟩ t') (closureFor_none (by decide)) (by decide) rfl (by decide) rfl ?_
  walk_at "A"
  walk_at "A"
  walk_at "N"
  repeat (walk_at "A")
  walk_at "cw"
  repeat (walk_at "A")
  refine ⟨S.K X, ?_⟩
  dsimp only [List.cons_append, List.nil_append]
  refine wpAny_call (bfd_spec (hb := g) (by simp [Around.deeper]; omega) X T S.F.keep hv hz ?_)
  intro h' tk'' b u P hby
  walk_at "post"
  have hbz : b.size ≤ 1000 := by
    have := congrArg List.length hby
    rw [List.length_map, Array.length_toList, cp_len] at this
    omega
  refine KBw.pyIter_bytes ?_
  refine ⟨_, _, _, _, _, _, _, _, _, _, _, rfl, rfl, S.push rfl, KBw.walks (A := A.deeper _) hh _ b u, ?_, ?_, ?_, ?_, ?_⟩
  · rw [sizeLine_eq]; omega
  · exact ⟨_, Heap.get?_push_size _ rfl, rfl, rfl⟩
  · simp [Heap.size_push]
  · intro C' i v' s₃ m₃ E' hC' hP hns hmx hg hn
    obtain ⟨c, u', hc, rfl⟩ := hP
    obtain ⟨th, tg, td, tt, to⟩ := s₃
    repeat (walk_at "A")
    have X3 := X.keeps hg
    have T3 := T.keeps hg
    refine ldB X3 T3 rfl rfl rfl rfl (nb_chr w) bb_chr (by decide) ?_
    repeat (walk_at "A")
    refine wpAny_loadName_local rfl rfl hns hmx ?_
    repeat (walk_at "A")
    dsimp only [List.cons_append, List.nil_append]
    have hcl := c.toNat_lt
    refine P.chr_of_int (by simp; omega) ?_
    exact ⟨⟨_, _, _, rfl, rfl⟩, _, _, rfl, fun _ _ e => e⟩
  clear S
  intro D₀ h' tk'' ys nn S hys hF
  dsimp only [List.cons_append, List.nil_append]
  repeat (walk_at "A")
  refine join_list (ys := (List.range' 0 b.size).map fun j : Nat => (⟨#[((b[j]?).getD (0 : UInt8)).toNat]⟩ : Str)) ⟨_, S.get (.head _), rfl, _, rfl⟩ ?_ ?_ ?_
  · rw [← hys, ← Array.length_toList]
    refine strsAt _ 0 fun j y e => ?_
    obtain ⟨v, ⟨c, u', hc, rfl⟩, c', t, t', e1, rfl⟩ := hF j y (by simpa using e)
    injection e1 with e1 _
    exact ⟨t', by rw [← e1, Nat.zero_add, show b[j]? = some c from hc]; rfl⟩
  · have e1 : (((List.range' 0 b.size).map fun j : Nat => (⟨#[((b[j]?).getD (0 : UInt8)).toNat]⟩ : Str)).map (·.length)).sum = b.size := by
      rw [List.map_map]
      have : ((fun x : Str => x.length) ∘ fun j : Nat => (⟨#[((b[j]?).getD (0 : UInt8)).toNat]⟩ : Str)) = fun _ => 1 := rfl
      rw [this]
      rw [sumOnes, List.length_range']
    rw [e1, List.length_map, List.length_range', show (Str.ofString "").length = 0 from rfl]
    omega
  intro t₁ tk₁
  rw [joinOcts hby]
  have S' := S.drop
  clear S
  have S := S'
  clear S' hF hys
  repeat (walk_at "A")
  generalize hB : A.deeper _ = B
  have Bh : B.handled = none := by subst hB; exact hh
  have Bd : B.depth = A.depth + 1 := by subst hB; rfl
  clear hB
  refine wpAny_While (codeAny_whileLoop (fun n t => ∃ D m xs nn o1 x' tx gsn, L < D ∧ LInv w B.in1.in1 g hb L gg₀ d os s gs oC a C nm qn r1 r x n D t m xs nn o1 x' tx gsn) ?turn 20 ?init)
  case init =>
    refine ⟨_, _, [], 0, s.o1, x, _, gs, l', ⟨rfl, S, M.tk1, rfl, rfl, rfl, ?_, ?_, hgb, hz, rfl, .inl ⟨rfl, rfl, rfl, rfl, rfl⟩⟩⟩
    · exact Array.getElem?_push_size
    · exact ⟨fun i hi => (Array.getElem?_push_lt hi).trans (Array.getElem?_eq_getElem hi).symm, by simp, fun q => q.push hgb⟩
  case turn =>
    clear S
    rintro n ⟨h', gg', d', tk', os'⟩ ⟨D, m, xs, nn, o1, x', tx, gsn, lD, I⟩
    obtain ⟨sh, S, ok, m1, m2, m3, gen, gk, gb, len, cnt, go⟩ := I
    dsimp only at S gen gk
    injection sh with _ _ e3 _ e5
    subst e3 e5
    refine isTrue_and ?_
    refine wpAny_isTrue_Compare1 ?_
    walk_at "A"
    refine r_ld S rfl rfl rfl m1 ?_
    repeat (walk_at "A")
    dsimp only [MS.own, MS.seven, List.cons_append, List.nil_append] at S
    refine ne_str (wpAny_truthy_bool ?_)
    by_cases hx : cp x' = []
    · have e : (x' != Str.ofString "") = false := by rw [cp_empty hx]; exact bne_self_eq_false _
      rw [e, if_neg (by decide), if_neg (by decide)]
      refine wpAny_execs_nil ?_
      walk_at "A"
      walk_at "A"
      walk_at "A"
      refine r_ld S rfl rfl rfl m2 ?_
      refine k _ _ _ D xs nn o1 ok (Post.of hL back S ?_ ?_ (by simp) ?_) gk ?_
      · simp only [List.forall_mem_cons]
        refine ⟨?_, List.forall_mem_nil _⟩; k_mem
      · exact List.forall_mem_cons.2 ⟨⟨.head _, lD⟩, List.forall_mem_nil _⟩
      · intro p hp
        have hh0 := (hown p hp).1
        simp only [List.mem_cons, List.mem_append] at hp
        rcases hp with rfl | rfl | (rfl | rfl | rfl | rfl | rfl | rfl | rfl | hp) | hp
        all_goals first | (left; simp; done) | skip
        all_goals first | (cases hp; done) | skip
        all_goals (right; refine ⟨?_, hh0⟩)
        all_goals first | k_mem | (simp only [List.mem_cons]; simp [hp])
      · rcases go with ⟨hn, rfl, _, _, rfl⟩ | ⟨_, _, hg⟩
        · rw [cutL, if_pos hx]; rfl
        · rw [← hg, hx]
          cases n <;> simp [chunks]
    · have e : (x' != Str.ofString "") = true := bne_iff_ne.2 fun q => hx (q ▸ cp_nil)
      rw [e, if_pos rfl]
      refine isTrue_and ?_
      refine wpAny_isTrue_Compare1 ?_
      walk_at "A"
      walk_at "A"
      walk_at "N"
      walk_at "A"
      walk_at "A"
      walk_at "A"
      refine r_ld S rfl rfl rfl m2 ?_
      walk_at "A"
      dsimp only [List.cons_append, List.nil_append]
      refine len_list ⟨_, S.get (.head _), rfl, _, rfl⟩ ?_ ?_
      · simp [strValues]; omega
      walk_at "A"
      refine lt_int (wpAny_truthy_bool ?_)
      by_cases hn0 : n = 0
      · rw [if_neg (by simp [strValues]; omega), if_neg (by decide)]
        refine wpAny_execs_nil ?_
        walk_at "A"
        walk_at "A"
        walk_at "A"
        refine r_ld S rfl rfl rfl m2 ?_
        refine k _ _ _ D xs nn o1 ok (Post.of hL back S ?_ ?_ (by simp) ?_) gk ?_
        · simp only [List.forall_mem_cons]
          refine ⟨?_, List.forall_mem_nil _⟩; k_mem
        · exact List.forall_mem_cons.2 ⟨⟨.head _, lD⟩, List.forall_mem_nil _⟩
        · intro p hp
          have hh0 := (hown p hp).1
          simp only [List.mem_cons, List.mem_append] at hp
          rcases hp with rfl | rfl | (rfl | rfl | rfl | rfl | rfl | rfl | rfl | hp) | hp
          all_goals first | (left; simp; done) | skip
          all_goals first | (cases hp; done) | skip
          all_goals (right; refine ⟨?_, hh0⟩)
          all_goals first | k_mem | (simp only [List.mem_cons]; simp [hp])
        · rcases go with ⟨hn, rfl, _, _, rfl⟩ | ⟨_, _, hg⟩
          · omega
          · rw [← hg, hn0]
            simp [chunks]
      rw [if_pos (by simp [strValues]; omega)]
      refine isTrue_and_nil ?_
      rw [if_pos rfl]
      obtain ⟨n, rfl⟩ : ∃ n', n = n' + 1 := ⟨n - 1, by omega⟩
      have hgo : ∀ tk : Nat, gsn.Goes (model Prg w) B.in1.in1 (fun _ _ _ _ => False) (MLY hb C s 19 r1 r) (n + 1) (.send .none) (Shared.setGen ⟨h', gg', d', tk, os'⟩ gg₀.size .running) := by
        intro tk
        rcases go with ⟨hn, _, rfl, rfl, _⟩ | ⟨_, hg, _⟩
        · obtain rfl : n = 19 := by omega
          rw [hr1, hr]
          refine hgen _ hb s 19 _ (by show B.depth + 2 < _; omega) Bh X0 T0 (fun b o e => S.F.keep b o (hbg b o e)) hC ?_ rfl (nC.ns (S.get (by k_mem))) ?_ hi
          · refine ⟨fun q hq => ⟨S.get ?_, (M.own q hq).2⟩, M.nd, M.tk1, M.tk2, M.lens, M.hz, M.lz⟩
            exact List.mem_cons_of_mem _ (List.mem_cons_of_mem _ (List.mem_cons_of_mem _ hq))
          · intro q hq e
            rw [List.map_cons, List.map_cons, List.nodup_cons, List.nodup_cons] at nd
            exact nd.2.1 (List.mem_map.mpr ⟨q, hq, e⟩)
        · refine hg (by omega) _ ⟨fun b o e => S.F.keep b o (hbg b o e), S.get (by k_mem), S.get (by k_mem), nC.ns (S.get (by k_mem)), _, ok, S.get (by k_mem)⟩
      walk_at "A"
      walk_at "A"
      walk_at "A"
      walk_at "A"
      walk_at "N"
      repeat (walk_at "A")
      walk_at "N"
      repeat (walk_at "A")
      refine r_ld S rfl rfl rfl m3 ?_
      repeat (walk_at "A")
      dsimp only [List.cons_append, List.nil_append]
      refine r_next (T.nolimit.keeps S.F.keep) (by omega) ?_ gen (hgo _) ?_
      · exact ⟨_, nm, qn, S.get (by k_mem), rfl, rfl, rfl⟩
      intro v₁ s₁ gs' hgb' hY
      obtain ⟨⟨tv, h'', gg'', tk₂, o, rfl, rfl, ho, P, G⟩, kp⟩ := hY
      walk_at "post"
      show wpAny _ _ _ _ _ ⟨h'', gg''.setIfInBounds gg₀.size gs', d', tk₂, os'⟩
      obtain ⟨rr, hrr⟩ : ∃ rr : Nat, (if n = 19 then (r1 : Int) else r) = rr ∧ rr = if n = 19 then r1 else r := by
        refine ⟨if n = 19 then r1 else r, ?_, rfl⟩
        split <;> rfl
      rw [hrr.1]
      repeat (walk_at "A")
      refine max_two_ints Bh fun h₃ tk₃ k₃ => ?_
      have S' := S.keeps k₃
      clear S
      have S := S'
      clear S'
      have ett : ∀ t0 : Tok, (if (rr : Int) > 0 then Value.int rr tv else Value.int 0 t0) = Value.int rr (if (rr : Int) > 0 then tv else t0) := by
        intro t0
        by_cases q : (rr : Int) > 0
        · rw [if_pos q, if_pos q]
        · rw [if_neg q, if_neg q]; congr 1; omega
      rw [ett]
      repeat (walk_at "A")
      refine r_ld S rfl rfl rfl m2 ?_
      repeat (walk_at "A")
      refine getMethod_list_append (S.get (by k_mem)) rfl rfl ?_
      repeat (walk_at "A")
      refine Subscript_ ?_
      walk_at "A"
      refine r_ld S rfl rfl rfl m1 ?_
      refine wpAny_Slice (evalPart_none_step (evalPart_some_step ?_))
      repeat (walk_at "A")
      refine evalPart_none_step ?_
      refine slice_strN_ns (hsz := by rw [sizeLine_eq]; omega) (s := ⟨_, _, _, _, _⟩) S.F S.N ?_
      intro h₄ t₄ tk₄ F4 N4
      have S' : St g L _ h₄ _ := ⟨F4, N4, S.nd⟩
      clear S F4 N4
      have S := S'
      clear S'
      walk_at "A"
      dsimp only [List.cons_append, List.nil_append]
      refine' r_append S ?fa ?fb ?fc ?_
      (case fa => exact isInstT (S.get (by k_mem)) rfl)
      (case fb => walk_at "up")
      (case fc => (rw [sizeLine_eq]; simp [strValues]; omega))
      (clear S; intro h₅ S)
      repeat (walk_at "A")
      refine Subscript_ ?_
      walk_at "A"
      refine r_ld S rfl rfl rfl m1 ?_
      refine wpAny_Slice (evalPart_some_step ?_)
      repeat (walk_at "A")
      refine evalPart_none_step (evalPart_none_step ?_)
      refine slice_strN_sn (hsz := by rw [sizeLine_eq]; omega) (s := ⟨_, _, _, _, _⟩) S.F S.N ?_
      intro h₆ t₆ tk₆ F4 N4
      have S' : St g L _ h₆ _ := ⟨F4, N4, S.nd⟩
      clear S F4 N4
      have S := S'
      clear S'
      repeat (walk_at "A")
      have gsz : gg₀.size < gg''.size := by
        have h1 := (Array.getElem?_eq_some_iff.mp gen).1
        have h2 := G.2.1
        simp [Shared.setGen] at h2
        omega
      have ea : (strValues xs).toArray.push (.str (Txt.slice x' none (some (rr : Int))) t₄) = (strValues (xs ++ [(Txt.slice x' none (some (rr : Int)), t₄)])).toArray := by simp [strValues]
      rw [ea] at S
      refine ⟨n, Nat.lt_succ_self n, D, _, xs ++ [(Txt.slice x' none (some (rr : Int)), t₄)], nn + 1, o, Txt.slice x' (some (rr : Int)) none, t₆, gs', lD, ⟨rfl, S, ho, rfl, m2, m3, ?_, GK.step gk G rfl hgb', hgb', Nat.le_trans (Txt.slice_le x' _ _) len, by rw [List.length_append, List.length_singleton]; omega, .inr ⟨by omega, kp, ?_⟩⟩⟩
      · exact Array.getElem?_setIfInBounds_self_of_lt gsz
      · rw [List.map_append, List.map_cons, List.map_nil, slice_to, slice_from, List.append_assoc]
        rcases go with ⟨hn, rfl, _, _, rfl⟩ | ⟨hn, _, hg⟩
        · obtain rfl : n = 19 := by omega
          rw [hrr.2, if_pos rfl, cutL, if_neg hx]; rfl
        · rw [← hg, hrr.2, if_neg (by omega), chunks, if_neg hx]; rfl
end

-- Q16
def frs (outer : List Env) : List Addr := outer.filterMap (·.frame)
/-- an exception that left all but the frames as it was -/
structure Thrown (outer : List Env) (h h' : Heap) (e t : Addr) (cls : String) (vs : List Value) : Prop where
  fly : Heap.FlyingW (hideAll h (frs outer)) outer e (.type cls) (.ref t) h'
  tup : h'.TupAt t vs
  nt : (hideAll h (frs outer)).get? t = none
  slots : h.UpToSlots h'
abbrev words : Str := Str.ofString "string argument should contain only ASCII characters"
section
variable {w : World} {mg mb : Str → Option Value} {h hb : Heap} {A : Around}
   {gg : Array GenState} {d : Drawn} {tk : Nat} {os : OsState} {R : Result → Shared → Prop}
theorem bfdX_spec {x : Str} {t : Tok} {outer : List Env} {i : Nat} (hA : A.depth < recursionLimit) (hh : A.handled = none) (hfr : A.frames = some outer) (FF : h.FunFrames (hideAll h (frs outer)) outer)
   (X : (KK w).In hb) (T : Tr mg mb hb) (hk : ∀ b o, hb.get? b = some o → h.get? b = some o) (hbf : ∀ a ∈ frs outer, hb.get? a = none)
   (hx : x.cps.findIdx? PySem.Builtin._codecs.asciiCodec.bad = some i) (hz : x.length ≤ 1000)
   (k : ∀ h' tk' e t u, Thrown outer h h' e t "ValueError" [.str words u] → R (.error (.ref e)) ⟨h', gg, d, tk', os⟩) :
   codeAny (model Prg w) A (.call (.ref 190) ⟨[.str x t], []⟩) R ⟨h, gg, d, tk, os⟩ := by
  have hkB : ∀ b o, hb.get? b = some o → (hideAll h (frs outer)).get? b = some o := fun b o e => hideAll_get _ (hk b o e) fun q => by rw [hbf b q] at e; cases e
  refine enter2 (own := []) (binds := [Str.ofString "s"].zip [Value.str x t]) X T hk (by simp) (by simp) rfl (by kernel_rfl) hA (BindsTo.of_eq (by kernel_rfl)) (by decide) (locs0 (by decide)) ?_
  have XB := X.keeps hkB
  have TB := T.keeps hkB
  clear X T hk hkB hbf
  intro g L h₁ tk' X T S back hL
  have hgh : ∀ b o, h.get? b = some o → g.get? b = some o := fun b o e => back b o e (by simp)
  walk_at "A"
  walk_at "A"
  refine isTrue_plain ?_
  walk_at "A"
  walk_at "A"
  walk_at "N"
  walk_at "A"
  walk_at "A"
  walk_at "A"
  walk_at "A"
  walk_at "A"
  walk_at "A"
  walk_at "N"
  walk_at "A"
  dsimp only [List.cons_append, List.nil_append]
  refine kia_one kitx_str (S.K X) trivial (kb4 w) (fun e => nomatch e) ?_
  intro tk₂
  refine wpAny_truthy_bool ?_
  rw [if_pos (by decide)]
  walk_at "A"
  refine wpAny_Try_except ?_
  walk_at "A"
  walk_at "A"
  walk_at "A"
  walk_at "A"
  walk_at "A"
  refine enc_gm ?_
  repeat (walk_at "A")
  dsimp only [List.cons_append, List.nil_append]
  refine wpAny_call (codeAny_call_builtin F.slot_str_encode.plain F.entry_str_encode (F.slot_str_encode.check _ _ _ _ _ _ _ _ (typeIs_str _ _ _) (F.args_str_encode_2 _ _) ?_))
  rw [encode_asc, road_asc]
  refine wpAny_bind (wpAny_bind (enc_bad hx hz ?_))
  intro β stop Q' hstop
  rw [rf_eq]
  have hiz : i < x.length := by
    obtain ⟨h, _⟩ := Array.findIdx?_eq_some_iff_getElem.mp hx
    exact h
  refine wpAny_bind ?_
  refine wpAny_bind (wpAny_mkStr ?_)
  refine wpAny_bind (wpAny_pure ?_)
  refine wpAny_bind (wpAny_mkInt ?_)
  refine wpAny_bind (wpAny_mkInt ?_)
  refine wpAny_bind (wpAny_mkStr ?_)
  refine call_uee (by omega) (by omega) (by omega) (by omega) S ?_
  clear S
  intro e1 t1 h₂ S lt1 le1
  refine wpAny_raiseNew_none hh ?_
  show wpAny _ _ (noteFrame (.ref e1) _) _ _ _
  generalize hBB : hideAll h (frs outer) = B at *
  have hB2 : B.StaysIn h₂ := fun b o e => S.F.keep b o (hgh b o (of_hideAll (frs outer) (by rw [hBB]; exact e)))
  have hBsz : B.objs.size = h.objs.size := by rw [← hBB]; exact hideAll_size _ _
  have fresh : ∀ a, L ≤ a → B.get? a = none := fun a ha => Heap.get?_none_of_le (by rw [hBsz, ← hL]; exact ha)
  have FF2 : h₂.FunFrames B outer := FF.of_keeps fun b o hb _ => ⟨o, S.F.keep b o (hgh b o hb), rfl⟩
  refine note_first (Around.frames_deeper hfr) (Heap.FunFrames.cons (by intro q; cases q) rfl S.F.ns (fresh L (Nat.le_refl _)) FF2) rfl hB2 (S.get (.tail _ (.head _))) (fresh _ (Nat.le_of_lt le1)) rfl ?_
  intro h₃ Tb oT ts kB3 FF3 he3 hTb neT hT3 hTd3 hts3 sl3
  have ne1 : B.get? e1 = none := fresh _ (Nat.le_of_lt le1)
  refine flight_none kB3 FF3 he3 (by rfl) hTb neT hT3 hTd3 (Array.getElem?_eq_some_iff.mp hts3).1 ?_
  intro h₄ oT4 ts4 kB4 FF4 he4 hT4 hTd4 hts4 sl4
  have Ls : B.objs.size ≤ L := by rw [hBsz, hL]; exact Nat.le_refl _
  have S4 : St B L _ h₄ [] := ⟨⟨sl4.ns (sl3.ns S.F.ns), kB4, Ls⟩, (fun q hq => by cases hq), by simp⟩
  clear X T
  have X := XB
  have T := TB
  have Sold := S
  clear S
  have S := S4
  refine wpAny_handleBy_builtin (X := "UnicodeEncodeError") (T := "UnicodeEncodeError") (b := true) (by rw [isSubtype_type]; kernel_rfl) (by rw [isSubtype_type]; kernel_rfl) (by rw [isSubtype_type]; kernel_rfl) ?_
  walk_at "A"
  walk_at "N"
  refine ⟨rfl, ⟨_, he4, rfl⟩, ?_⟩
  rw [if_pos rfl]
  refine flight_none kB4 FF4 he4 (by rfl) hTb neT hT4 hTd4 (Array.getElem?_eq_some_iff.mp hts4).1 ?_
  intro h₅ oT5 ts5 kB5 FF5 he5 hT5 hTd5 hts5 sl5
  have S5 : St B L _ h₅ [] := ⟨⟨sl5.ns S.F.ns, kB5, Ls⟩, (fun q hq => by cases hq), by simp⟩
  clear S S4
  have S := S5
  walk_at "A"
  rw [arm_exec_Raise]
  refine wpAny_bind (wpAny_standAt ?_)
  refine raise_in (e1 := e1) (T1 := "UnicodeEncodeError") PySem.F.excRaise_ValueError rfl ?_
  dsimp only
  refine wpAny_bind (wpAny_Call_ofName ?_)
  walk_at "A"
  walk_at "N"
  refine PyProof.Rows.callWith_type1 ?_
  repeat (walk_at "A")
  refine wpAny_call_exc PySem.F.excCall_ValueError ?_
  intro h₆ e2 hm
  refine wpAny_bind (wpAny_standAt (wpAny_pure ?_))
  obtain ⟨t2, he2, ht2, htt2⟩ := hm.there
  have n21 : e2 ≠ e1 := fun q => by have := hm.new; rw [q, he5] at this; cases this
  have n2t : t2 ≠ e2 := fun q => by (rw [q, he2] at htt2; injection (Option.some.inj htt2) with _ _ h3; cases h3)
  refine ⟨e2, t2, _, rfl, n21, he2, hm.keeps _ _ he5, by rfl, ?_⟩
  intro h₇ he7 hs7
  have k56 : ∀ b o, h₅.get? b = some o → h₇.get? b = some o := fun b o e => hs7.extBut b o (fun q => by have := hm.new; rw [← q, e] at this; cases this) (hm.keeps b o e)
  have nB : ∀ a, h₅.get? a = none → B.get? a = none := fun a ha => by
    cases q : B.get? a with
    | none => rfl
    | some o => have := kB5 a o q; rw [ha] at this; cases this
  refine note_first (B := B) (outer := outer) (Around.frames_deeper hfr) (FF5.of_keeps fun b o e _ => ⟨o, k56 b o e, rfl⟩) rfl (fun b o e => k56 b o (kB5 b o e)) he7 (nB _ hm.new) rfl ?_
  intro h₈ Tb2 oT2 ts2 kB8 FF8 he8 hTb2 neT2 hT8 hTd8 hts8 sl8
  have he8' : h₈.get? e2 = some (exO "ValueError" #[.ref t2, .ref Tb2, .ref e1, .none, .bool false, .none]) := he8
  show cameBackBy (model Prg w) _ _ (fun x s' => wpAny _ _ (leaving _ x) (fun _ s'' => R (.error x) s'') (fun e' s'' => R (.error e') s'') s') (.ref e2) _
  refine leave_by (Q := fun x _ s'' => R (.error x) s'') (E' := fun _ e' s'' => R (.error e') s'') (s := ⟨h₈, gg, d, _, os⟩) (B := B) (outer := outer) (vs := #[.ref t2, .ref Tb2, .ref e1, .none, .bool false, .none]) (a0 := .ref t2) kB8 FF8 rfl he8' (by rfl) (by rfl) (nB _ hm.new) hTb2 neT2 hT8 hTd8 hts8 ?_
  intro h₉ fly sl9
  have tup8 : h₇.TupAt t2 [.str words _] := ⟨_, _, hs7.extBut _ _ n2t htt2, rfl, rfl⟩
  have slf : h.UpToSlots h₂ := .of_keeps fun b o e => Sold.F.keep b o (hgh b o e)
  exact k _ _ e2 t2 _ ⟨hBB ▸ fly, (tup8.of_slots sl8).of_slots sl9, hBB ▸ nB _ ht2, slf.trans (sl3.trans (sl4.trans (sl5.trans ((Heap.UpToSlots.of_keeps k56).trans (sl8.trans sl9)))))⟩
end

-- Q19
theorem hide_sub {h h₁ : Heap} {outer : List Env} {L : Addr} (hL : L = h.objs.size) (hh : ∀ b o, h.get? b = some o → h₁.get? b = some o) : ∀ b o, (hideAll h (frs outer)).get? b = some o → (hideAll h₁ (L :: frs outer)).get? b = some o := fun b o e => by
  have e1 := of_hideAll _ e
  refine hideAll_get _ (hh b o e1) fun q => ?_
  rcases List.mem_cons.mp q with rfl | q
  · exact Nat.lt_irrefl _ (hL ▸ Heap.lt_size e1)
  · rw [hideAll_none _ q] at e; cases e
theorem ff_mono {h B B' : Heap} (k : ∀ b, B.get? b = none → B'.get? b = none) : ∀ {l : List Env}, h.FunFrames B l → h.FunFrames B' l
  | [], _ => trivial
  | env :: r, ⟨a, ⟨L, o, hf, hn, ho⟩, hr⟩ => ⟨a, ⟨L, o, hf, k _ hn, ho⟩, ff_mono k hr⟩
theorem fly_mono {B B' h : Heap} {l : List Env} {e : Addr} {c a0 : Value} (k : ∀ b o, B'.get? b = some o → B.get? b = some o) (x : Heap.FlyingW B l e c a0 h) : Heap.FlyingW B' l e c a0 h := by
  have n : ∀ b, B.get? b = none → B'.get? b = none := fun b q => by
    cases e : B'.get? b with
    | none => rfl
    | some o => rw [k b o e] at q; cases q
  obtain ⟨x1, x2, x3, oe, vs, T, oT, ts, y1, y2, y3, y4, y5, y6⟩ := x
  exact ⟨fun b o e => x1 b o (k b o e), n _ x2, ff_mono n x3, oe, vs, T, oT, ts, y1, y2, y3, y4, n _ y5, y6⟩
/-- an exception from a callee leaves the frame -/
theorem thrown_pass {M : Model} {A : Around} {env : Env} {outer : List Env} {L : Addr} {h h₁ : Heap} {e t : Addr} {cls : String} {vs : List Value} {s : Shared} {Q : Unit → Shared → Prop} {E : Value → Shared → Prop} (hfr : A.frames = some (env :: outer)) (hf : env.frame = some L) (hL : L = h.objs.size) (hh : ∀ b o, h.get? b = some o → h₁.get? b = some o)
    (Th : Thrown (env :: outer) h₁ s.heap e t cls vs) (k : ∀ h', Thrown outer h h' e t cls vs → Q () { s with heap := h' }) : wpAny M A (leaving env (.ref e)) Q E s := by
  have ef : frs (env :: outer) = L :: frs outer := by simp [frs, hf]
  have sub := hide_sub (outer := outer) hL hh
  obtain ⟨fly, tup, nt, sl⟩ := Th
  rw [ef] at fly nt
  refine wpAny_leaves_onW hfr hf fly fun h' fl sl' => k h' ⟨fly_mono sub fl, tup.of_slots sl', ?_, (Heap.UpToSlots.of_keeps hh).trans (sl.trans sl')⟩
  cases q : (hideAll h (frs outer)).get? t with
  | none => rfl
  | some o => rw [sub _ _ q] at nt; cases nt
theorem hb_frs {h hb : Heap} {outer : List Env} {env : Env} {L : Addr} (hf : env.frame = some L) (hL : L = h.objs.size) (hk : ∀ b o, hb.get? b = some o → h.get? b = some o) (hbf : ∀ a ∈ frs outer, hb.get? a = none) : ∀ a ∈ frs (env :: outer), hb.get? a = none := fun a ha => by
  have ef : frs (env :: outer) = L :: frs outer := by simp [frs, hf]
  rw [ef] at ha
  rcases List.mem_cons.mp ha with rfl | ha
  · cases q : hb.get? a with
    | none => rfl
    | some o => exact absurd (Heap.lt_size (hk _ _ q)) (by rw [hL]; exact Nat.lt_irrefl _)
  · exact hbf a ha
theorem ff_in {h h₁ : Heap} {outer : List Env} {env : Env} {L : Addr} {m : Str → Option Value} (hkind : env.scope.kind ≠ .module) (hf : env.frame = some L) (hL : L = h.objs.size) (hn : h₁.Ns L m) (hh : ∀ b o, h.get? b = some o → h₁.get? b = some o) (FF : h.FunFrames (hideAll h (frs outer)) outer) :
    h₁.FunFrames (hideAll h₁ (frs (env :: outer))) (env :: outer) := by
  have ef : frs (env :: outer) = L :: frs outer := by simp [frs, hf]
  rw [ef]
  refine Heap.FunFrames.cons hkind hf hn (hideAll_none _ (.head _)) ?_
  have h1 : h₁.FunFrames (hideAll h (frs outer)) outer := FF.of_keeps fun b o e _ => ⟨o, hh b o e, rfl⟩
  refine (?_ : ∀ l : List Env, (∀ a ∈ frs l, a ∈ frs outer) → h₁.FunFrames (hideAll h (frs outer)) l → h₁.FunFrames (hideAll h₁ (L :: frs outer)) l) outer (fun _ x => x) h1
  intro l
  induction l with
  | nil => exact fun _ _ => trivial
  | cons e r ih =>
    rintro hs ⟨a, ⟨L', o, hf', hn', ho⟩, hr⟩
    have er : frs (e :: r) = L' :: frs r := by simp [frs, hf']
    rw [er] at hs
    exact ⟨a, ⟨L', o, hf', hideAll_none _ (List.mem_cons_of_mem _ (hs _ (.head _))), ho⟩, ih (fun a ha => hs a (List.mem_cons_of_mem _ ha)) hr⟩
theorem kp77 (w : World) : keepIn (KK w) (.ref 77) = true := by kernel_rfl
theorem GK.pushed {gg : Array GenState} {gs : GenState} (hb : gs.bare = true) : GK gg (gg.push gs) := ⟨fun i hi => (Array.getElem?_push_lt hi).trans (Array.getElem?_eq_getElem hi).symm, by simp, fun q => q.push hb⟩
section
variable {w : World} {mg mb : Str → Option Value} {h hb : Heap} {s : MS} {A : Around}
   {gg : Array GenState} {d : Drawn} {tk : Nat} {os : OsState} {R : Result → Shared → Prop}
theorem linesX_spec {x : Str} {t : Tok} {v : Value} {outer : List Env} {i : Nat} (hA : A.depth + 1 < recursionLimit) (hh : A.handled = none) (hfr : A.frames = some outer) (FF : h.FunFrames (hideAll h (frs outer)) outer)
   (X : (KK w).In hb) (T : Tr mg mb hb) (hk : ∀ b o, hb.get? b = some o → h.get? b = some o) (hbf : ∀ a ∈ frs outer, hb.get? a = none)
   (hx : x.cps.findIdx? PySem.Builtin._codecs.asciiCodec.bad = some i) (hz : x.length ≤ 1000)
   (k : ∀ h' tk' e t u, Thrown outer h h' e t "ValueError" [.str words u] → R (.error (.ref e)) ⟨h', gg, d, tk', os⟩) :
   codeAny (model Prg w) A (.call (.ref 202) ⟨[.str x t, v], []⟩) R ⟨h, gg, d, tk, os⟩ := by
  refine enter2 (own := []) (binds := [Str.ofString "thing", Str.ofString "rooms"].zip [.str x t, v]) X T hk (by simp) (by simp) rfl (by kernel_rfl) (by omega) (BindsTo.of_eq (by kernel_rfl)) (by decide) (locs0 (by decide)) ?_
  have X0 := X
  have T0 := T
  clear X T
  intro g L h₁ tk' X T S back hL
  have hgh : ∀ b o, h.get? b = some o → h₁.get? b = some o := fun b o e => S.F.keep b o (back b o e (by simp))
  walk_at "A"
  walk_at "A"
  walk_at "A"
  walk_at "A"
  refine GM.join ?_
  walk_at "A"
  walk_at "A"
  refine r_comp (cl := []) (g := g) (L := L) (news := []) (m := fun y => ([Str.ofString "thing", Str.ofString "rooms"].zip [.str x t, v]).reverse.lookup y) (fun u y => True) (closureFor_none (by decide)) (by decide) rfl (by decide) rfl ?_
  walk_at "A"
  walk_at "A"
  walk_at "N"
  repeat (walk_at "A")
  walk_at "cw"
  repeat (walk_at "A")
  refine ⟨S.K X, ?_⟩
  dsimp only [List.cons_append, List.nil_append]
  refine wpAny_call (bfdX_spec (hb := hb) (by simp [Around.deeper]; omega) hh (Around.frames_deeper hfr) (ff_in (by intro q; cases q) rfl hL S.F.ns hgh FF) X0 T0 (fun b o e => hgh b o (hk b o e)) (hb_frs rfl hL hk hbf) hx hz ?_)
  intro h' tk'' e t' u Th
  refine thrown_pass (s := ⟨h', gg, d, tk'', os⟩) (Around.frames_deeper hfr) rfl hL hgh Th fun h₂ Th' => ?_
  exact k _ _ _ _ _ Th'
theorem layX_spec {x : Str} {t : Tok} {outer : List Env} {i : Nat} (hA : A.depth + 2 < recursionLimit) (hh : A.handled = none) (hfr : A.frames = some outer) (FF : h.FunFrames (hideAll h (frs outer)) outer)
   (X : (KK w).In hb) (T : Tr mg mb hb) (hk : ∀ b o, hb.get? b = some o → h.get? b = some o) (hbf : ∀ a ∈ frs outer, hb.get? a = none)
   (M : MOk h hb s) (hx : x.cps.findIdx? PySem.Builtin._codecs.asciiCodec.bad = some i) (hz : x.length ≤ 1000)
   (k : ∀ h' gg' tk' e t u, GK gg gg' → Thrown outer h h' e t "ValueError" [.str words u] → R (.error (.ref e)) ⟨h', gg', d, tk', os⟩) :
   codeAny (model Prg w) A (.call (.ref 209) ⟨[.ref s.fm, .str x t], []⟩) R ⟨h, gg, d, tk, os⟩ := by
  have o1 := M.own (s.fm, instObj 94 s.dmk) (.head _)
  have o2 := M.own (s.dmk, mkD s.I s.ln s.cu) (.tail _ (.head _))
  have nd : ([(s.fm, instObj 94 s.dmk), (s.dmk, mkD s.I s.ln s.cu)].map (·.1)).Nodup := by
    have hnd := M.nd
    simp only [MS.own, MS.seven, List.cons_append, List.map_cons, List.nodup_cons, List.mem_cons, not_or] at hnd
    simp [hnd.1.1]
  refine enter2 (own := [(s.fm, instObj 94 s.dmk), (s.dmk, mkD s.I s.ln s.cu)]) (binds := [Str.ofString "maker", Str.ofString "thing"].zip [.ref s.fm, .str x t]) X T hk (List.forall_mem_cons.2 ⟨o1, List.forall_mem_cons.2 ⟨o2, List.forall_mem_nil _⟩⟩) nd rfl (by kernel_rfl) (by omega) (BindsTo.of_eq (by kernel_rfl)) (by decide) (locs0 (by decide)) ?_
  have X0 := X
  have T0 := T
  clear X T
  intro g L h₁ tk' X T S back hL
  have hgh : ∀ b o, h.get? b = some o → h₁.get? b = some o := fun b o e => by
    by_cases hb : b ∈ [(s.fm, instObj 94 s.dmk), (s.dmk, mkD s.I s.ln s.cu)].map (·.1)
    · simp only [List.map_cons, List.map_nil, List.mem_cons, List.not_mem_nil, or_false] at hb
      rcases hb with rfl | rfl
      · rw [o1.1] at e; cases e; exact S.get (.head _)
      · rw [o2.1] at e; cases e; exact S.get (.tail _ (.head _))
    · exact S.F.keep b o (back b o e hb)
  walk_at "A"
  walk_at "A"
  walk_at "A"
  walk_at "A"
  walk_at "N"
  repeat (walk_at "A")
  walk_at "cw"
  repeat (walk_at "A")
  refine callWith_K0 (St.K S X) (kp77 w) ?_
  dsimp only [List.cons_append, List.nil_append, List.append_nil]
  refine wpAny_call (ml_spec (hb := g) (by simp [Around.deeper]; omega) X T S.F.keep ?_)
  intro h₂ tk₂ a C oC nm qn gs P nC lt eC hgen hgb
  have k12 : ∀ b o, h₁.get? b = some o → h₂.get? b = some o := fun b o e => P.keep b o e (by simp)
  walk_at "post"
  repeat (walk_at "A")
  refine ⟨S.K X, ?_⟩
  have hgh2 : ∀ b o, h.get? b = some o → h₂.get? b = some o := fun b o e => k12 b o (hgh b o e)
  refine wpAny_call (linesX_spec (hb := hb) (by simp [Around.deeper]; omega) hh (Around.frames_deeper hfr) (ff_in (by intro q; cases q) rfl hL S.F.ns hgh2 FF) X0 T0 (fun b o e => hgh2 b o (hk b o e)) (hb_frs rfl hL hk hbf) hx hz ?_)
  intro h' tk'' e t' u Th
  refine thrown_pass (s := ⟨h', gg.push gs, d, tk'', os⟩) (Around.frames_deeper hfr) rfl hL hgh2 Th fun h₂ Th' => ?_
  exact k _ _ _ _ _ _ (GK.pushed hgb) Th'
end

-- Q20
section
variable {w : World} {mg mb : Str → Option Value} {h hb : Heap} {s : MS} {A : Around}
   {gg : Array GenState} {d : Drawn} {tk : Nat} {os : OsState} {R : Result → Shared → Prop}
theorem refused_spec {x : Str} {t : Tok} {outer : List Env} {i : Nat} (hA : A.depth + 3 < recursionLimit) (hU : A.units + 200 < cLine) (hh : A.handled = none) (hfr : A.frames = some outer) (FF : h.FunFrames (hideAll h (frs outer)) outer)
   (X : (KK w).In hb) (T : Tr mg mb hb) (hk : ∀ b o, hb.get? b = some o → h.get? b = some o) (hbf : ∀ a ∈ frs outer, hb.get? a = none)
   (M : MOk h hb s) (hx : x.cps.findIdx? PySem.Builtin._codecs.asciiCodec.bad = some i) (hz : x.length ≤ 1000)
   (k : ∀ h' gg' tk', GK gg gg' → (∀ b o, h.get? b = some o → b ∉ frs outer → h'.get? b = some o) → h.UpToSlots h' → R (.ok (.ret (.bool true))) ⟨h', gg', d, tk', os⟩) :
   codeAny (model Prg w) A (.call (.ref 216) ⟨[.ref s.fm, .str x t], []⟩) R ⟨h, gg, d, tk, os⟩ := by
  have hkB : ∀ b o, hb.get? b = some o → (hideAll h (frs outer)).get? b = some o := fun b o e => hideAll_get _ (hk b o e) fun q => by rw [hbf b q] at e; cases e
  refine enter2 (own := []) (binds := [Str.ofString "maker", Str.ofString "thing"].zip [.ref s.fm, .str x t]) X T hk (by simp) (by simp) rfl (by kernel_rfl) (by omega) (BindsTo.of_eq (by kernel_rfl)) (by decide) (locs0 (by decide)) ?_
  have X0 := X
  have T0 := T
  have XB := X.keeps hkB
  have TB := T.keeps hkB
  clear X T
  intro g L h₁ tk' X T S back hL
  have hgh : ∀ b o, h.get? b = some o → h₁.get? b = some o := fun b o e => S.F.keep b o (back b o e (by simp))
  walk_at "A"
  refine wpAny_Try_except ?_
  walk_at "A"
  walk_at "A"
  walk_at "A"
  walk_at "A"
  walk_at "N"
  walk_at "cw"
  repeat (walk_at "A")
  refine ⟨S.K X, ?_⟩
  refine wpAny_call (layX_spec (hb := hb) (s := s) (by simp [Around.deeper]; omega) hh (Around.frames_deeper hfr) (ff_in (by intro q; cases q) rfl hL S.F.ns hgh FF) X0 T0 (fun b o e => hgh b o (hk b o e)) (hb_frs rfl hL hk hbf) ⟨fun q hq => ⟨hgh _ _ (M.own q hq).1, (M.own q hq).2⟩, M.nd, M.tk1, M.tk2, M.lens, M.hz, M.lz⟩ hx hz ?_)
  intro h' gg' tk'' e t' u G Th
  obtain ⟨fly, tup, nt, sl⟩ := Th
  have ef : ∀ env : Env, env.frame = some L → frs (env :: outer) = L :: frs outer := fun env hf => by simp [frs, hf]
  rw [ef _ rfl] at fly nt
  have sub := hide_sub (outer := outer) hL hgh
  have hfl := fly_mono sub fly
  have hBsz : (hideAll h (frs outer)).objs.size = h.objs.size := hideAll_size _ _
  have F0 : Fr (hideAll h (frs outer)) L h₁ _ := ⟨S.F.ns, fun b o e => hgh b o (of_hideAll _ e), by rw [hBsz, hL]; exact Nat.le_refl _⟩
  have hnew : (hideAll h (frs outer)).get? t' = none := by
    cases q : (hideAll h (frs outer)).get? t' with
    | none => rfl
    | some o => rw [sub _ _ q] at nt; cases nt
  clear S X T
  refine wpAny_looks_onW (Around.frames_deeper hfr) rfl hfl fun h₄ hheld₄ hsm₄ => ?_
  refine wpAny_landsW hheld₄ fun h₅ hheld hsm₅' => ?_
  have hsm₅ := hsm₄.trans hsm₅'
  have F₅ := F0.of_stays hheld.1 (sl.trans hsm₅)
  obtain ⟨ob, hob, hobc⟩ := hheld.there
  refine wpAny_handleBy_builtin_as (X := "ValueError") (T := "ValueError") (b := true) (by rw [isSubtype_type]; kernel_rfl) (by rw [isSubtype_type]; kernel_rfl) (by rw [isSubtype_type]; kernel_rfl) ?_
  have S : St (hideAll h (frs outer)) L _ h₅ [] := ⟨F₅, (fun q hq => by cases hq), by simp⟩
  have X := XB
  have T := TB
  walk_at "A"
  walk_at "N"
  refine ⟨rfl, ⟨_, hob, hobc⟩, ?_⟩
  rw [if_pos rfl]
  refine lands_againW hheld fun h₆ hfl₆ hsm₆ => ?_
  have F₆ := F0.of_stays hfl₆.1 ((sl.trans hsm₅).trans hsm₆)
  obtain ⟨oe, ws, hoe, hoec, hoed, hoe0⟩ := hfl₆.first
  obtain ⟨ot, nt', hot, hotc, hotd⟩ := (tup.of_slots hsm₅).of_slots hsm₆
  have N₆ := News.more F₆ (News.more F₆ News.nil hot (fun es n q => by rw [hotd] at q; cases q) hnew) hoe (fun es n q => by rw [hoed] at q; cases q) hfl₆.2.1
  refine wpAny_storeName_local rfl F₆.ns (fun h₇ hn₇ hs₇ => ?_) rfl
  have G7 : Got [(e, oe), (t', ot)] e t' (.type "ValueError") [.str words u] := ⟨oe, ot, ws, nt', .head _, .tail _ (.head _), hoec, hoed, hoe0, hotc, hotd⟩
  have N7 : News (hideAll h (frs outer)) L h₇ [(e, oe), (t', ot)] := fun p hp => ⟨(hs₇.2 _ (N₆ p hp).2.1).trans (N₆ p hp).1, (N₆ p hp).2⟩
  clear S F₅
  have S : St (hideAll h (frs outer)) L _ h₇ [] := ⟨F₆.set hn₇ hs₇, (fun q hq => by cases hq), by simp⟩
  walk_at "A"
  walk_at "A"
  walk_at "A"
  walk_at "A"
  walk_at "A"
  walk_at "N"
  refine PyProof.Rows.callWith_type1 ?_
  dsimp only
  repeat (walk_at "A")
  refine str_got_one PySem.F.excStr_ValueError N7 G7 (by simp [Around.deeper, Around.mark]; omega) ?_
  walk_at "A"
  refine eq_str ?_
  refine wpAny_nameGoes rfl S.F.ns rfl fun h₈ m₈ hn₈ hs₈ => ?_
  have nL : ∀ b o, h.get? b = some o → b ≠ L := fun b o e q => Nat.lt_irrefl _ (hL ▸ q ▸ Heap.lt_size e)
  have h68 : ∀ b o, h.get? b = some o → h₈.get? b = h₆.get? b := fun b o e => (hs₈.2 _ (nL b o e)).trans (hs₇.2 _ (nL b o e))
  have ev : (words == Str.ofString "string argument should contain only ASCII characters") = true := beq_self_eq_true _
  rw [ev]
  refine k _ _ _ G (fun b o e n => (h68 b o e).trans (hfl₆.1 _ _ (hideAll_get _ e n))) ?_
  intro b o e hnf
  have sl6 : h.UpToSlots h₆ := ((Heap.UpToSlots.of_keeps hgh).trans (sl.trans hsm₅)).trans hsm₆
  obtain ⟨q, hq⟩ := sl6 b o e hnf
  exact ⟨q, (h68 b o e).trans hq⟩
end

-- Q10
section
variable {w : World} {mg mb : Str → Option Value} {h hb : Heap} {s : MS} {A : Around}
   {gg : Array GenState} {d : Drawn} {tk : Nat} {os : OsState} {R : Result → Shared → Prop}
theorem mstr_spec {l₀ : List Pt} {q : Pt} {sep : Str} {tsep : Tok}
   (hA : A.depth + 4 < recursionLimit) (hU : A.units + 300 < cLine) (hh : A.handled = none) (X : (KK w).In hb) (T : Tr mg mb hb) (hk : ∀ b o, hb.get? b = some o → h.get? b = some o)
   (M : MOk h hb s) (hl : s.l = l₀ ++ [q]) (hso : PyData.strOk q.a = true ∧ PyData.strOk q.b = true) (hq : ¬ (q.a = Str.ofString " " ∧ q.b = Str.ofString ""))
   (hc : (s.i = 1) ∨ (s.i = 0 ∧ 0 < sizeAll s.l ∧ Txt.isspace (catOf s.l) = false))
   (hj : ((s.ls.map (·.1) ++ [catOf s.l]).map (·.length)).sum + (s.ls.map (·.1) ++ [catOf s.l]).length * sep.length ≤ 16777216)
   (k : ∀ h' gg' tk' nl' nc' ti' u₀ e' o1' o2' u, TabOk o1' → TabOk o2' → Post h h' (MS.seven { s with ls := s.ls ++ [(catOf s.l, u₀)], nl := nl', l := [], nc := nc', i := 0, ti := ti', e := e', o1 := o1', o2 := o2' }) [] → GK gg gg' → R (.ok (.ret (.str (Txt.join sep (s.ls.map (·.1) ++ [catOf s.l])) u))) ⟨h', gg', d, tk', os⟩) :
   codeAny (model Prg w) A (.call (.ref 42) ⟨[.ref s.fm, .str sep tsep], []⟩) R ⟨h, gg, d, tk, os⟩ := by
  have M₀ := M
  obtain ⟨fm, dmk, ln, cu, dcu, I, ls, nl, l, nc, hs, t, i, ti, e, o1, o2⟩ := s
  dsimp only at hl hc hj k ⊢
  refine enter2 (own := _) (binds := [Str.ofString "self", Str.ofString "linesep"].zip [Value.ref fm, .str sep tsep]) X T hk M.own M.nd rfl (by kernel_rfl) (by omega) (BindsTo.of_eq (by kernel_rfl)) (by decide) (locs0 (by decide)) ?_
  clear X T hk
  intro g L h₁ tk' X T S back hL
  have M₁ : MOk h₁ g ⟨fm, dmk, ln, cu, dcu, I, ls, nl, l, nc, hs, t, i, ti, e, o1, o2⟩ := ⟨fun p hp => S.own hp, M.nd, M.tk1, M.tk2, M.lens, M.hz, M.lz⟩
  dsimp only [MS.own, MS.seven, List.cons_append, List.nil_append] at S
  repeat (walk_at "A")
  walk_at "cw"
  refine wpAny_call (newline_spec (hb := g) (s := ⟨fm, dmk, ln, cu, dcu, I, ls, nl, l, nc, hs, t, i, ti, e, o1, o2⟩) (by simp [Around.deeper]; omega) (by simp [Around.deeper]; omega) hh X T S.F.keep M₁ hl hso hq hc ?_)
  intro h' gg₂ tk'' nl' nc' ti' u e' o1' o2' ho1' ho2' P G
  dsimp only [MS.seven] at P
  walk_at "post"
  repeat (walk_at "A")
  refine GM.join ?_
  repeat (walk_at "A")
  dsimp only [List.cons_append, List.nil_append]
  have hi : ∀ l : List (Str × Tok), StrsAre (strValues l) (l.map (·.1)) := fun l => by
    induction l with
    | nil => exact .nil
    | cons p r ih => exact .cons _ _ ih
  have em : (ls ++ [(catOf l, u)]).map (·.1) = ls.map (·.1) ++ [catOf l] := by simp
  refine join_list (ys := ls.map (·.1) ++ [catOf l]) ⟨_, S.get (by k_mem), rfl, _, rfl⟩ (em ▸ hi _) hj ?_
  intro t' k'
  refine k _ _ _ nl' nc' ti' u e' o1' o2' _ ho1' ho2' (Post.of hL back S ?_ (by simp) (by simp) ?_) G
  · simp only [List.forall_mem_cons]
    refine ⟨?_, ?_, ?_, ?_, ?_, ?_, ?_, List.forall_mem_nil _⟩ <;> k_mem
  · intro p hp
    rcases List.mem_append.mp hp with hp | hp
    · left
      simp only [List.mem_cons, List.not_mem_nil, or_false] at hp
      rcases hp with rfl | rfl | rfl | rfl | rfl | rfl | rfl <;> simp
    · right
      exact ⟨by simp only [List.mem_cons]; simp [hp], (M.own p (List.mem_append_right _ hp)).1⟩
end

-- Q21
abbrev sl : Str := Str.ofString "/"
abbrev em : Str := Str.ofString ""
theorem cp_sl : cp sl = [47] := by rfl
theorem catOf_cp (l : List Pt) : cp (catOf l) = (l.map fun q => cp q.a ++ cp q.b).flatten := by
  unfold catOf
  rw [cp_join cp_nil, List.map_map]
  congr 1
  refine List.map_congr_left fun q _ => ?_
  show cp (Txt.join (Str.ofString "") [q.a, q.b]) = _
  rw [cp_join cp_nil]
  simp
theorem sizeAll_cp (l : List Pt) : sizeAll l = (cp (catOf l)).length := by
  rw [catOf_cp]
  induction l with
  | nil => rfl
  | cons q r ih =>
    rw [List.map_cons, List.flatten_cons, List.length_append, ← ih, List.length_append, cp_len, cp_len]
    simp [sizeAll]
/-- what is laid: the first piece onto the line, each further one on its own -/
def layT : List (List Nat) → List Nat
  | [] => []
  | c :: r => c ++ (r.map (47 :: ·)).flatten
def fillR : Nat → List (List Nat) → Nat
  | f, [] => f
  | _, c :: r => fillR (1 + c.length) r
def fillL : Nat → List (List Nat) → Nat
  | f, [] => f
  | f, c :: r => fillR (f + c.length) r
structure Lay (sz : Nat) (s : MS) (f : Nat) (y : List Nat) : Prop where
  ml : s.I.ml = sz + 1
  wl : s.I.wl = 1
  fill : s.i + (sizeAll s.l : Nat) = (f : Int)
  kind : s.i = 1 ∨ (s.i = 0 ∧ ∃ q r, s.l = q :: r ∧ q.a = sl)
  pt : ∀ q ∈ s.l, (q.a = em ∨ q.a = sl) ∧ ∀ c ∈ cp q.b, c < 128
  txt : y = (s.ls.map fun p => cp p.1).flatten ++ cp (catOf s.l)
theorem strOk_of {x : Str} (h : ∀ c ∈ cp x, c < 128) : PyData.strOk x = true := by
  unfold PyData.strOk
  rw [← Array.all_toList, List.all_eq_true]
  intro c hc
  have := h c hc
  simp; omega
theorem Lay.i01 {sz : Nat} {s : MS} {f : Nat} {y : List Nat} (La : Lay sz s f y) : 0 ≤ s.i ∧ s.i ≤ 1 := by
  rcases La.kind with e | ⟨e, _⟩ <;> omega
theorem Lay.last {sz : Nat} {s : MS} {f : Nat} {y : List Nat} (La : Lay sz s f y) {q : Pt} (hq : q ∈ s.l) : (PyData.strOk q.a = true ∧ PyData.strOk q.b = true) ∧ ¬ (q.a = Str.ofString " " ∧ q.b = Str.ofString "") := by
  obtain ⟨ha, hb⟩ := La.pt q hq
  refine ⟨⟨?_, strOk_of hb⟩, fun e => ?_⟩
  · rcases ha with ha | ha <;> (rw [ha]; decide +kernel)
  · rcases ha with ha | ha
    · rw [ha] at e; exact absurd e.1 (by decide +kernel)
    · rw [ha] at e; exact absurd e.1 (by decide +kernel)
theorem Lay.line {sz : Nat} {s : MS} {f : Nat} {y : List Nat} (La : Lay sz s f y) : (s.i = 1) ∨ (s.i = 0 ∧ 0 < sizeAll s.l ∧ Txt.isspace (catOf s.l) = false) := by
  rcases La.kind with e | ⟨e, q, r, hl, hq⟩
  · exact .inl e
  · refine .inr ⟨e, ?_, ?_⟩
    · rw [hl]
      have : q.a.length = 1 := by rw [hq]; rfl
      simp [sizeAll]; omega
    · have h1 : (47 : Nat) ∈ cp (catOf s.l) := by rw [catOf_cp, hl, List.map_cons, List.flatten_cons, hq, cp_sl]; simp
      unfold Txt.isspace
      rw [Bool.and_eq_false_iff]
      right
      rw [Array.all_eq_false]
      obtain ⟨i, hi, e⟩ := List.mem_iff_getElem.mp h1
      refine ⟨i, by simpa using hi, ?_⟩
      have e' : (catOf s.l).cps[i]'(by simpa using hi) = 47 := by rw [← e]; simp
      rw [e']
      decide +kernel
theorem Lay.first {sz : Nat} {s : MS} {f : Nat} {y : List Nat} (La : Lay sz s f y) {u : Addr} {ta tb : Tok} {c : Str} (hc : ∀ d ∈ cp c, d < 128) {nc : Nat} {o1 : Obj} :
    Lay sz { s with l := s.l ++ [⟨u, em, ta, c, tb⟩], nc := nc, o1 := o1 } (f + c.length) (y ++ cp c) := by
  refine ⟨La.ml, La.wl, ?_, ?_, ?_, ?_⟩
  · show s.i + ((sizeAll (s.l ++ [_]) : Nat) : Int) = _
    rw [sizeAll_snoc]
    have := La.fill
    have e0 : em.length = 0 := rfl
    simp only [e0]
    omega
  · rcases La.kind with e | ⟨e, q, r, hl, hq⟩
    · exact .inl e
    · exact .inr ⟨e, q, _, by show s.l ++ _ = _; rw [hl, List.cons_append], hq⟩
  · intro q hq
    rcases List.mem_append.mp hq with hq | hq
    · exact La.pt q hq
    · rw [List.mem_singleton.mp hq]; exact ⟨.inl rfl, hc⟩
  · show _ = _ ++ cp (catOf (s.l ++ [_]))
    rw [catOf_cp, List.map_append, List.flatten_append, ← catOf_cp, La.txt]
    simp [cp_nil]
theorem Lay.next {sz : Nat} {s : MS} {f : Nat} {y : List Nat} (La : Lay sz s f y) {u v : Addr} {ta tb : Tok} {c : Str} (hc : ∀ d ∈ cp c, d < 128) {nl nc e : Nat} {ti : Tok} {o1 o2 : Obj} :
    Lay sz { s with ls := s.ls ++ [(catOf s.l, u)], nl := nl, l := [⟨v, sl, ta, c, tb⟩], nc := nc, i := 0, ti := ti, e := e, o1 := o1, o2 := o2 } (1 + c.length) (y ++ 47 :: cp c) := by
  refine ⟨La.ml, La.wl, ?_, .inr ⟨rfl, _, _, rfl, rfl⟩, ?_, ?_⟩
  · have e0 : sl.length = 1 := rfl
    show (0 : Int) + ((sizeAll [_] : Nat) : Int) = _
    simp [sizeAll, e0]
  · intro q hq
    rw [List.mem_singleton.mp hq]; exact ⟨.inr rfl, hc⟩
  · show _ = _ ++ cp (catOf [_])
    have e1 : cp (catOf [(⟨v, sl, ta, c, tb⟩ : Pt)]) = 47 :: cp c := by
      rw [catOf_cp]
      show (cp sl ++ cp c) ++ [] = _
      rw [cp_sl, List.append_nil]; rfl
    rw [e1, La.txt]
    simp
/-- from one state of the formatter to another -/
structure MStep (h h' hb : Heap) (s s' : MS) : Prop where
  keep : ∀ b o, h.get? b = some o → b ∉ s.seven.map (·.1) → h'.get? b = some o
  ok : MOk h' hb s'
  adr : s'.seven.map (·.1) = s.seven.map (·.1)
  pts : ∀ q ∈ s'.l, q ∈ s.l ∨ h.get? q.u = none
theorem MStep.st {g h h' : Heap} {L : Addr} {m : Str → Option Value} {s s' : MS} {rest : List (Addr × Obj)} (S : St g L m h (s.own ++ rest)) (P : MStep h h' g s s') : St g L m h' (s'.own ++ rest) := by
  have mem7 : ∀ b, b ∈ s.seven.map (·.1) → ∃ q ∈ s.own ++ rest, q.1 = b := fun b hb => by
    obtain ⟨q, hq, e⟩ := List.mem_map.mp hb
    exact ⟨q, List.mem_append_left _ (List.mem_append_left _ hq), e⟩
  have nL : L ∉ s.seven.map (·.1) := fun q => by
    obtain ⟨p, hp, e⟩ := mem7 _ q
    exact (S.N p hp).2.1 e
  have ng : ∀ b o, g.get? b = some o → b ∉ s.seven.map (·.1) := fun b o e q => by
    obtain ⟨p, hp, e'⟩ := mem7 _ q
    have := (S.N p hp).2.2
    rw [e', e] at this; cases this
  obtain ⟨oL, es, ep, eL, r⟩ := S.F.ns
  have ndr : ∀ q ∈ rest, q.1 ∉ s.own.map (·.1) := fun q hq hm => by
    have := S.nd
    rw [List.map_append, List.nodup_append] at this
    exact this.2.2 _ hm _ (List.mem_map.mpr ⟨q, hq, rfl⟩) rfl
  have nd7 : ∀ q ∈ rest, q.1 ∉ s.seven.map (·.1) := fun q hq hm => ndr q hq (by rw [List.map_append]; exact List.mem_append_left _ hm)
  have lives : ∀ q ∈ rest, h'.get? q.1 = some q.2 := fun q hq => P.keep _ _ (S.N q (List.mem_append_right _ hq)).1 (nd7 q hq)
  refine ⟨⟨⟨oL, es, ep, P.keep _ _ eL nL, r⟩, fun b o e => P.keep b o (S.F.keep b o e) (ng b o e), S.F.above⟩, fun q hq => ?_, ?_⟩
  · rcases List.mem_append.mp hq with hq | hq
    · refine ⟨(P.ok.own q hq).1, ?_, (P.ok.own q hq).2⟩
      rcases List.mem_append.mp hq with hq | hq
      · intro e
        have : q.1 ∈ s.seven.map (·.1) := by rw [← P.adr]; exact List.mem_map.mpr ⟨q, hq, rfl⟩
        exact nL (e ▸ this)
      · obtain ⟨p, hp, rfl⟩ := List.mem_map.mp hq
        rcases P.pts p hp with hp | hp
        · exact (S.N (p.u, p.obj) (List.mem_append_left _ (List.mem_append_right _ (List.mem_map.mpr ⟨p, hp, rfl⟩)))).2.1
        · intro e
          rw [show p.u = L from e, eL] at hp; cases hp
    · exact ⟨lives q hq, (S.N q (List.mem_append_right _ hq)).2⟩
  · rw [List.map_append, List.nodup_append]
    refine ⟨P.ok.nd, ?_, fun a ha b hb e => ?_⟩
    · have := S.nd
      rw [List.map_append, List.nodup_append] at this
      exact this.2.1
    · obtain ⟨q, hq, rfl⟩ := List.mem_map.mp hb
      rw [List.map_append, List.mem_append, P.adr] at ha
      rcases ha with ha | ha
      · exact nd7 q hq (e ▸ ha)
      · obtain ⟨p', hp', rfl⟩ := List.mem_map.mp ha
        obtain ⟨p, hp, rfl⟩ := List.mem_map.mp hp'
        rcases P.pts p hp with hp | hp
        · refine ndr q hq (e ▸ ?_)
          rw [List.map_append]
          exact List.mem_append_right _ (List.mem_map.mpr ⟨_, List.mem_map.mpr ⟨p, hp, rfl⟩, rfl⟩)
        · have := (S.N q (List.mem_append_right _ hq)).1
          rw [← e, show h.get? p.u = none from hp] at this; cases this
theorem MStep.trans {h h' h'' hb : Heap} {s s' s'' : MS} (P : MStep h h' hb s s') (P' : MStep h' h'' hb s' s'') : MStep h h'' hb s s'' := by
  refine ⟨fun b o e n => P'.keep b o (P.keep b o e n) (by rw [P.adr]; exact n), P'.ok, P'.adr.trans P.adr, fun q hq => ?_⟩
  rcases P'.pts q hq with hq | hq
  · exact P.pts q hq
  · right
    cases e : h.get? q.u with
    | none => rfl
    | some o =>
      by_cases n : q.u ∈ s.seven.map (·.1)
      · rw [← P.adr] at n
        obtain ⟨p, hp, e'⟩ := List.mem_map.mp n
        have := (P.ok.own p (List.mem_append_left _ hp)).1
        rw [e', hq] at this; cases this
      · rw [P.keep _ _ e n] at hq; cases hq
theorem MStep.refl {h hb : Heap} {s : MS} (M : MOk h hb s) : MStep h h hb s s := ⟨fun b o e _ => e, M, rfl, fun q hq => .inl hq⟩
/-- a step that is told by its changes -/
theorem MStep.of {h h' hb : Heap} {s s' : MS} {nw : List (Addr × Obj)} (M : MOk h hb s) (hk : ∀ b o, hb.get? b = some o → h.get? b = some o) (P : Post h h' s'.seven nw) (adr : s'.seven.map (·.1) = s.seven.map (·.1))
    (pts : ∀ q ∈ s'.l, q ∈ s.l ∨ (q.u, q.obj) ∈ nw) (ndl : (s'.l.map (·.u)).Nodup) (t1 : TabOk s'.o1) (t2 : TabOk s'.o2) (lens : ∀ q ∈ s'.l, q.a.length ≤ 1000 ∧ q.b.length ≤ 1000) (hz : s'.l.length ≤ 900) (lz : s'.ls.length ≤ 900) : MStep h h' hb s s' := by
  have fresh : ∀ a, h.objs.size ≤ a → h.get? a = none := fun a ha => by
    cases e : h.get? a with
    | none => rfl
    | some o => exact absurd (Heap.lt_size e) (Nat.not_lt.mpr ha)
  have nn : ∀ q ∈ nw, h.get? q.1 = none := fun q hq => fresh _ (P.hn q hq).2
  have hbn : ∀ a, h.get? a = none → hb.get? a = none := fun a ha => by
    cases e : hb.get? a with
    | none => rfl
    | some o => rw [hk _ _ e] at ha; cases ha
  have ok7 : ∀ b, b ∈ s.seven.map (·.1) → hb.get? b = none ∧ ∃ o, h.get? b = some o := fun b hb' => by
    obtain ⟨q, hq, e⟩ := List.mem_map.mp hb'
    have := M.own q (List.mem_append_left _ hq)
    exact ⟨e ▸ this.2, _, e ▸ this.1⟩
  have n7 : ∀ p ∈ s.l, p.u ∉ s.seven.map (·.1) := fun p hp hm => by
    have := M.nd
    rw [List.map_append, List.nodup_append] at this
    exact this.2.2 _ hm _ (List.mem_map.mpr ⟨_, List.mem_map.mpr ⟨p, hp, rfl⟩, rfl⟩) rfl
  have pl : ∀ p ∈ s.l, h.get? p.u = some p.obj ∧ hb.get? p.u = none := fun p hp => M.own _ (List.mem_append_right _ (List.mem_map.mpr ⟨p, hp, rfl⟩))
  refine ⟨fun b o e n => P.keep b o e (by rw [adr]; exact n), ⟨fun q hq => ?_, ?_, t1, t2, lens, hz, lz⟩, adr, fun q hq => (pts q hq).imp id fun hq => nn _ hq⟩
  · rcases List.mem_append.mp hq with hq | hq
    · exact ⟨P.hc q hq, (ok7 q.1 (by rw [← adr]; exact List.mem_map.mpr ⟨q, hq, rfl⟩)).1⟩
    · obtain ⟨p, hp, rfl⟩ := List.mem_map.mp hq
      rcases pts p hp with hp | hp
      · exact ⟨P.keep _ _ (pl p hp).1 (by rw [adr]; exact n7 p hp), (pl p hp).2⟩
      · exact ⟨(P.hn _ hp).1, hbn _ (nn _ hp)⟩
  · rw [List.map_append, List.nodup_append, adr]
    refine ⟨?_, ?_, fun a ha b hb' e => ?_⟩
    · have := M.nd
      rw [List.map_append, List.nodup_append] at this
      exact this.1
    · show ((s'.l.map _).map _).Nodup
      rw [List.map_map]; exact ndl
    · obtain ⟨q', hq', rfl⟩ := List.mem_map.mp hb'
      obtain ⟨p, hp, rfl⟩ := List.mem_map.mp hq'
      rcases pts p hp with hp | hp
      · exact n7 p hp (by rw [show p.u = a from e.symm]; exact ha)
      · obtain ⟨_, o, eo⟩ := ok7 a ha
        rw [show a = p.u from e, nn _ hp] at eo; cases eo

-- Q22
theorem St.rot3 {g h : Heap} {L : Addr} {m : Str → Option Value} {a b c : Addr × Obj} {l : List (Addr × Obj)} (S : St g L m h (a :: b :: c :: l)) : St g L m h (l ++ [a]) := by
  refine ⟨S.F, fun q hq => S.N q ?_, ?_⟩
  · rcases List.mem_append.mp hq with hq | hq
    · exact .tail _ (.tail _ (.tail _ hq))
    · rw [List.mem_singleton.mp hq]; exact .head _
  · have := S.nd
    simp only [List.map_cons, List.nodup_cons, List.mem_cons, not_or] at this
    rw [List.map_append, List.nodup_append]
    refine ⟨this.2.2.2, by simp, fun x hx y hy e => ?_⟩
    rw [List.map_cons, List.map_nil, List.mem_singleton] at hy
    rw [e, hy] at hx
    exact this.1.2.2 hx
theorem St.rot2 {g h : Heap} {L : Addr} {m : Str → Option Value} {a b : Addr × Obj} {l r : List (Addr × Obj)} (S : St g L m h (a :: b :: (l ++ r))) : St g L m h (l ++ a :: r) := by
  refine ⟨S.F, fun q hq => S.N q ?_, ?_⟩
  · rcases List.mem_append.mp hq with hq | hq
    · exact .tail _ (.tail _ (List.mem_append_left _ hq))
    · rcases List.mem_cons.mp hq with rfl | hq
      · exact .head _
      · exact .tail _ (.tail _ (List.mem_append_right _ hq))
  · have := S.nd
    simp only [List.map_cons, List.nodup_cons, List.mem_cons, not_or, List.map_append] at this
    have h2 := this.1.2
    have h3 := this.2.2
    rw [List.map_append, List.map_cons, (List.perm_middle (a := a.1) (l₁ := l.map (·.1)) (l₂ := r.map (·.1))).nodup_iff, List.nodup_cons]
    exact ⟨h2, h3⟩
theorem layT_snoc {cs : List (List Nat)} (hc : cs ≠ []) (c : List Nat) : layT (cs ++ [c]) = layT cs ++ 47 :: c := by
  cases cs with
  | nil => exact absurd rfl hc
  | cons d r => simp [layT]
theorem fillR_snoc (cs : List (List Nat)) (f : Nat) (c : List Nat) : fillR f (cs ++ [c]) = 1 + c.length := by
  induction cs generalizing f with
  | nil => rfl
  | cons d r ih => exact ih _
theorem fillL_snoc {cs : List (List Nat)} (hc : cs ≠ []) (f : Nat) (c : List Nat) : fillL f (cs ++ [c]) = 1 + c.length := by
  cases cs with
  | nil => exact absurd rfl hc
  | cons d r => exact fillR_snoc _ _ _
theorem chunks_of (r : Nat) : ∀ (n : Nat) (l : List Nat), (chunks r n l).length ≤ n ∧ ∀ c ∈ chunks r n l, c.length ≤ r ∧ ∀ d ∈ c, d ∈ l
  | 0, _ => ⟨Nat.le_refl _, fun c hc => nomatch hc⟩
  | n + 1, l => by
    unfold chunks
    split
    · exact ⟨Nat.zero_le _, fun c hc => nomatch hc⟩
    · obtain ⟨h1, h2⟩ := chunks_of r n (l.drop r)
      refine ⟨by rw [List.length_cons]; omega, fun c hc => ?_⟩
      rcases List.mem_cons.mp hc with rfl | hc
      · exact ⟨by rw [List.length_take]; omega, fun d hd => List.mem_of_mem_take hd⟩
      · exact ⟨(h2 c hc).1, fun d hd => List.mem_of_mem_drop ((h2 c hc).2 d hd)⟩
theorem cutL_of {r1 r : Nat} {l : List Nat} : (cutL r1 r l).length ≤ 20 ∧ (∀ c ∈ cutL r1 r l, ∀ d ∈ c, d ∈ l) ∧ (∀ j c, (cutL r1 r l)[j]? = some c → (j = 0 → c.length ≤ r1) ∧ (j ≠ 0 → c.length ≤ r)) := by
  unfold cutL
  split
  · exact ⟨Nat.zero_le _, (fun c hc => nomatch hc), fun j c e => by simp at e⟩
  · obtain ⟨h1, h2⟩ := chunks_of r 19 (l.drop r1)
    refine ⟨by rw [List.length_cons]; omega, fun c hc => ?_, fun j c e => ?_⟩
    · rcases List.mem_cons.mp hc with rfl | hc
      · exact fun d hd => List.mem_of_mem_take hd
      · exact fun d hd => List.mem_of_mem_drop ((h2 c hc).2 d hd)
    · cases j with
      | zero => simp at e; rw [← e]; exact ⟨fun _ => by rw [List.length_take]; omega, fun q => absurd rfl q⟩
      | succ j =>
        rw [List.getElem?_cons_succ] at e
        exact ⟨fun q => absurd q (by omega), fun _ => (h2 c (List.mem_of_getElem? e)).1⟩
theorem MStep.tab {h h' hb : Heap} {s : MS} {o : Obj} {nw : List (Addr × Obj)} (M : MOk h hb s) (hk : ∀ b o, hb.get? b = some o → h.get? b = some o) (P : Post h h' [(140, o)] nw) (ok : TabOk o) : MStep h h' hb s { s with o1 := o } := by
  have hnd := M.nd
  obtain ⟨fm, dmk, ln, cu, dcu, I, ls, nl, l, nc, hs, t, i, ti, e, o1, o2⟩ := s
  have hne : ∀ q ∈ [(fm, instObj 94 dmk), (dmk, mkD I ln cu), (ln, lstO (strValues ls).toArray nl), (cu, accO dcu (itemsOf l) nc), (dcu, accD hs t (.int i ti) e), (147, o2)], q.1 ≠ 140 := by
    have h7 : (([(fm, instObj 94 dmk), (dmk, mkD I ln cu), (ln, lstO (strValues ls).toArray nl), (cu, accO dcu (itemsOf l) nc), (dcu, accD hs t (.int i ti) e), (140, o1), (147, o2)] : List (Addr × Obj)).map (·.1)).Nodup := by
      rw [MS.own, List.map_append, List.nodup_append] at hnd
      exact hnd.1
    simp only [List.map_cons, List.map_nil, List.nodup_cons, List.mem_cons, List.not_mem_nil, or_false, not_or] at h7
    intro q hq
    simp only [List.mem_cons, List.not_mem_nil, or_false] at hq
    rcases hq with rfl | rfl | rfl | rfl | rfl | rfl <;> first | exact h7.1.2.2.2.2.1 | exact h7.2.1.2.2.2.1 | exact h7.2.2.1.2.2.1 | exact h7.2.2.2.1.2.1 | exact h7.2.2.2.2.1.1 | exact fun q => h7.2.2.2.2.2.1 q.symm
  have kp : ∀ q ∈ [(fm, instObj 94 dmk), (dmk, mkD I ln cu), (ln, lstO (strValues ls).toArray nl), (cu, accO dcu (itemsOf l) nc), (dcu, accD hs t (.int i ti) e), (147, o2)], h'.get? q.1 = some q.2 := fun q hq => P.keep _ _ (M.own q (List.mem_append_left _ (by
    simp only [List.mem_cons, List.not_mem_nil, or_false] at hq ⊢
    rcases hq with rfl | rfl | rfl | rfl | rfl | rfl <;> simp))).1 (by simpa using hne q hq)
  refine MStep.of M hk (nw := nw) ⟨?_, P.hn, P.nd, fun b o' e' n => P.keep b o' e' (fun q => n ?_)⟩ rfl (fun q hq => .inl hq) ?_ ok M.tk2 M.lens M.hz M.lz
  · simp only [List.forall_mem_cons] at kp ⊢
    exact ⟨kp.1, kp.2.1, kp.2.2.1, kp.2.2.2.1, kp.2.2.2.2.1, P.hc _ (.head _), kp.2.2.2.2.2.1, List.forall_mem_nil _⟩
  · rw [show b = 140 by simpa using q]
    simp
  · rw [MS.own, List.map_append, List.nodup_append] at hnd
    have := hnd.2.1
    rw [parts, List.map_map] at this
    exact this
theorem MStep.base {h h' hb g : Heap} {s s' : MS} (k : ∀ b o, hb.get? b = some o → g.get? b = some o) (P : MStep h h' g s s') : MStep h h' hb s s' := by
  refine ⟨P.keep, ⟨fun q hq => ⟨(P.ok.own q hq).1, ?_⟩, P.ok.nd, P.ok.tk1, P.ok.tk2, P.ok.lens, P.ok.hz, P.ok.lz⟩, P.adr, P.pts⟩
  cases e : hb.get? q.1 with
  | none => rfl
  | some o => have := (P.ok.own q hq).2; rw [k _ _ e] at this; cases this
theorem MStep.keeps {h h' hb : Heap} {s : MS} (M : MOk h hb s) (k : ∀ b o, h.get? b = some o → h'.get? b = some o) : MStep h h' hb s s :=
  ⟨fun b o e _ => k b o e, ⟨fun q hq => ⟨k _ _ (M.own q hq).1, (M.own q hq).2⟩, M.nd, M.tk1, M.tk2, M.lens, M.hz, M.lz⟩, rfl, fun q hq => .inl hq⟩
theorem MStep.after {h h' h'' hb : Heap} {s s' : MS} (P : MStep h h' hb s s') (k : ∀ b o, h'.get? b = some o → h''.get? b = some o) : MStep h h'' hb s s' := P.trans (.keeps P.ok k)
abbrev rngO (a b c : Int) (t u v : Tok) : Obj := ⟨.type "range", none, .fields #[.int a t, .int b u, .int c v], #[]⟩
abbrev ritO (x left step : Int) : Obj := ⟨.type "range_iterator", none, .fields #[rawInt x, rawInt left, rawInt step], #[]⟩
section
variable {prog : Program} {w : World} {A : Around} {E : Value → Shared → Prop} {gg : Array GenState} {d : Drawn} {tk : Nat} {os : OsState} {g h : Heap} {L : Addr} {m : Str → Option Value} {news : List (Addr × Obj)}
theorem r_range1 {n : Int} {t : Tok} {Q : Value → Shared → Prop} (S : St g L m h news)
    (k : ∀ a h' tk' t' u', St g L m h' ((a, rngO 0 n 1 t' t u') :: news) → (∀ b o, h.get? b = some o → h'.get? b = some o) → Q (.ref a) ⟨h', gg, d, tk', os⟩) : wpAny (model prog w) A (call (.type "range") [.int n t]) Q E ⟨h, gg, d, tk, os⟩ :=
  call_range_1 (k _ _ _ _ _ (S.push rfl) fun b o e => Heap.get?_push_of_some _ e)
theorem r_riter {r : Addr} {a b c : Int} {t u v : Tok} {Q : Value → Shared → Prop} (S : St g L m h news) (hm : (r, rngO a b c t u v) ∈ news) (hs : Builtin.Range.small a b c = true)
    (k : ∀ It h', St g L m h' ((It, ritO a (Builtin.Range.rangeSize a b c) c) :: news) → (∀ b o, h.get? b = some o → h'.get? b = some o) → Q (.ref It) ⟨h', gg, d, tk, os⟩) : wpAny (model prog w) A (pyIter (.ref r)) Q E ⟨h, gg, d, tk, os⟩ :=
  wpAny_pyIter_range (S.get hm) hs (k _ _ (S.push rfl) fun b o e => Heap.get?_push_of_some _ e)
theorem r_rnext {It : Addr} {x left step : Int} {news' : List (Addr × Obj)} {Q : Option Value → Shared → Prop} (S : St g L m h news) (U : Up It (ritO x left step) (ritO (x + step) (left - 1) step) news news') (hl : 0 < left)
    (k : ∀ h' tk' t, St g L m h' news' → (∀ b o, b ≠ It → h.get? b = some o → h'.get? b = some o) → Q (some (.int x t)) ⟨h', gg, d, tk', os⟩) : wpAny (model prog w) A (pyNext (.ref It)) Q E ⟨h, gg, d, tk, os⟩ :=
  wpAny_pyNext_range_item (S.get U.mem) hl fun h' hi hs => k h' _ _ (S.ext U hs.extBut hi) fun b o n e => hs.extBut b o n e
theorem r_rend {It : Addr} {x left step : Int} {Q : Option Value → Shared → Prop} (hh : A.handled = none) (S : St g L m h ((It, ritO x left step) :: news)) (hl : left ≤ 0)
    (k : ∀ h', St g L m h' news → (∀ b o, b ≠ It → h.get? b = some o → h'.get? b = some o) → Q none ⟨h', gg, d, tk, os⟩) : wpAny (model prog w) A (pyNext (.ref It)) Q E ⟨h, gg, d, tk, os⟩ :=
  wpAny_pyNext_range_end hh (S.get (.head _)) hl fun h' hx => k h' (S.moved (C := h.objs.size) (Heap.get?_none_of_le (Nat.le_refl _)) fun b ob nI _ e => hx b ob nI e) fun b o n e => hx b o n e
end
theorem St.front {g h : Heap} {L : Addr} {m : Str → Option Value} {a : Addr × Obj} {l r : List (Addr × Obj)} (S : St g L m h (l ++ a :: r)) : St g L m h (a :: (l ++ r)) := by
  refine ⟨S.F, fun q hq => S.N q ?_, ?_⟩
  · rcases List.mem_cons.mp hq with rfl | hq
    · exact List.mem_append_right _ (.head _)
    · rcases List.mem_append.mp hq with hq | hq
      · exact List.mem_append_left _ hq
      · exact List.mem_append_right _ (.tail _ hq)
  · have := S.nd
    rw [List.map_append, List.map_cons, (List.perm_middle (a := a.1) (l₁ := l.map (·.1)) (l₂ := r.map (·.1))).nodup_iff] at this
    rw [List.map_cons, List.map_append]; exact this

-- Q24
structure LayN (sz : Nat) (s : MS) (y : List Nat) : Prop where
  ml : s.I.ml = sz + 1
  wl : s.I.wl = 1
  i0 : s.i = 0
  l0 : s.l = []
  txt : y = (s.ls.map fun p => cp p.1).flatten
theorem Up.app {a : Addr} {o o' : Obj} {l l' : List (Addr × Obj)} (U : Up a o o' l l') : ∀ p : List (Addr × Obj), Up a o o' (p ++ l) (p ++ l')
  | [] => U
  | _ :: r => .tail (Up.app U r)
theorem ndU {h hb : Heap} {s : MS} (M : MOk h hb s) : (s.l.map (·.u)).Nodup := by
  have hnd := M.nd
  rw [MS.own, List.map_append, List.nodup_append] at hnd
  have := hnd.2.1
  rw [parts, List.map_map] at this
  exact this
theorem snoc_of {α : Type} : ∀ (l : List α), l ≠ [] → ∃ r q, l = r ++ [q]
  | [], h => absurd rfl h
  | [x], _ => ⟨[], x, rfl⟩
  | x :: y :: r, _ => let ⟨r', q, e⟩ := snoc_of (y :: r) (by simp); ⟨x :: r', q, by rw [e]; rfl⟩
section
variable {w : World} {mg mb : Str → Option Value} {h hb : Heap} {s : MS} {A : Around}
   {gg : Array GenState} {d : Drawn} {tk : Nat} {os : OsState} {R : Result → Shared → Prop} {sz f : Nat} {y : List Nat} {c : Str} {ta tb : Tok}
theorem append_step (hA : A.depth + 3 < recursionLimit) (hh : A.handled = none) (X : (KK w).In hb) (T : Tr mg mb hb) (hk : ∀ b o, hb.get? b = some o → h.get? b = some o)
   (M : MOk h hb s) (La : Lay sz s f y) (hc : ∀ d ∈ cp c, d < 128) (hlc : c.length ≤ 1000) (hf : f + c.length ≤ sz + 1) (hn : s.ls.length + s.l.length ≤ 850)
   (k : ∀ h' gg' tk' s', MStep h h' hb s s' → Lay sz s' (f + c.length) (y ++ cp c) → s'.ls.length + s'.l.length = s.ls.length + s.l.length + 1 → s'.l ≠ [] → (∀ q ∈ s.l, q ∈ s'.l) → GK gg gg' → R (.ok (.ret .none)) ⟨h', gg', d, tk', os⟩) :
   codeAny (model Prg w) A (.call (.ref 91) ⟨[.ref s.fm, .str em ta, .str c tb], []⟩) R ⟨h, gg, d, tk, os⟩ := by
  refine append_spec hA hh X T hk M (by show (0 : Nat) ≤ 1000; omega) hlc La.i01 ?_ ?_
  · have h1 := La.fill
    have h2 := La.ml
    have e0 : em.length = 0 := rfl
    rw [e0]
    push_cast
    omega
  intro h' gg' tk' u o1' ok P G
  refine k _ _ _ _ (MStep.of M hk P rfl ?_ ?_ ok M.tk2 ?_ ?_ ?_) (La.first hc) ?_ (by simp) (fun q hq => List.mem_append_left _ hq) G
  · intro q hq
    rcases List.mem_append.mp hq with hq | hq
    · exact .inl hq
    · rw [List.mem_singleton.mp hq]; exact .inr (.head _)
  · show ((s.l ++ [_]).map _).Nodup
    rw [List.map_append, List.nodup_append]
    refine ⟨ndU M, by simp, fun a ha b hb' e => ?_⟩
    rw [List.map_cons, List.map_nil, List.mem_singleton] at hb'
    obtain ⟨p, hp, rfl⟩ := List.mem_map.mp ha
    have h1 := (P.hn _ (.head _)).2
    have h2 := Heap.lt_size (M.own _ (List.mem_append_right _ (List.mem_map.mpr ⟨p, hp, rfl⟩))).1
    have e' : p.u = u := e.trans hb'
    exact Nat.lt_irrefl _ (Nat.lt_of_lt_of_le (e' ▸ h2) h1)
  · intro q hq
    rcases List.mem_append.mp hq with hq | hq
    · exact M.lens q hq
    · rw [List.mem_singleton.mp hq]; exact ⟨by show (0 : Nat) ≤ 1000; omega, hlc⟩
  · show (s.l ++ [_]).length ≤ 900
    rw [List.length_append, List.length_singleton]; omega
  · show s.ls.length ≤ 900
    omega
  · show s.ls.length + (s.l ++ [_]).length = _
    rw [List.length_append, List.length_singleton]; omega
theorem newline_step (hA : A.depth + 3 < recursionLimit) (hU : A.units + 200 < cLine) (hh : A.handled = none) (X : (KK w).In hb) (T : Tr mg mb hb) (hk : ∀ b o, hb.get? b = some o → h.get? b = some o)
   (M : MOk h hb s) (La : Lay sz s f y) (hl : s.l ≠ []) (hn : s.ls.length + s.l.length ≤ 850)
   (k : ∀ h' gg' tk' s', MStep h h' hb s s' → LayN sz s' y → s'.ls.length = s.ls.length + 1 → GK gg gg' → R (.ok (.ret .none)) ⟨h', gg', d, tk', os⟩) :
   codeAny (model Prg w) A (.call (.ref 56) ⟨[.ref s.fm], []⟩) R ⟨h, gg, d, tk, os⟩ := by
  obtain ⟨l₀, q, e⟩ := snoc_of s.l hl
  have hq := La.last (q := q) (by rw [e]; simp)
  refine newline_spec hA hU hh X T hk M e hq.1 hq.2 La.line ?_
  intro h' gg' tk' nl' nc' ti' u e' o1' o2' ok1 ok2 P G
  refine k _ _ _ _ (MStep.of M hk P rfl (fun q hq => nomatch hq) (by simp) ok1 ok2 (fun q hq => nomatch hq) (by simp) ?_) ⟨La.ml, La.wl, rfl, rfl, ?_⟩ ?_ G
  · show (s.ls ++ [_]).length ≤ 900
    rw [List.length_append, List.length_singleton]; omega
  · show y = ((s.ls ++ [_]).map _).flatten
    rw [La.txt]; simp
  · show (s.ls ++ [_]).length = _
    simp
theorem append_step2 (hA : A.depth + 3 < recursionLimit) (hh : A.handled = none) (X : (KK w).In hb) (T : Tr mg mb hb) (hk : ∀ b o, hb.get? b = some o → h.get? b = some o)
   (M : MOk h hb s) (La : LayN sz s y) (hc : ∀ d ∈ cp c, d < 128) (hlc : c.length ≤ 1000) (hf : c.length ≤ sz) (hn : s.ls.length ≤ 850)
   (k : ∀ h' gg' tk' s', MStep h h' hb s s' → Lay sz s' (1 + c.length) (y ++ 47 :: cp c) → s'.ls.length + s'.l.length = s.ls.length + 1 → s'.l ≠ [] → GK gg gg' → R (.ok (.ret .none)) ⟨h', gg', d, tk', os⟩) :
   codeAny (model Prg w) A (.call (.ref 91) ⟨[.ref s.fm, .str sl ta, .str c tb], []⟩) R ⟨h, gg, d, tk, os⟩ := by
  have e1 : sl.length = 1 := rfl
  refine append_spec hA hh X T hk M (by rw [e1]; omega) hlc (by rw [La.i0]; omega) ?_ ?_
  · have h2 := La.ml
    rw [e1, La.i0, La.l0]
    have : sizeAll [] = 0 := rfl
    rw [this]
    push_cast
    omega
  intro h' gg' tk' u o1' ok P G
  have el : s.l ++ [(⟨u, sl, ta, c, tb⟩ : Pt)] = [⟨u, sl, ta, c, tb⟩] := by rw [La.l0]; rfl
  refine k _ _ _ _ (MStep.of M hk P rfl ?_ ?_ ok M.tk2 ?_ ?_ ?_) ⟨La.ml, La.wl, ?_, .inr ⟨La.i0, _, _, el, rfl⟩, ?_, ?_⟩ ?_ (by simp) G
  · intro q hq
    rcases List.mem_append.mp hq with hq | hq
    · exact .inl hq
    · rw [List.mem_singleton.mp hq]; exact .inr (.head _)
  · show ((s.l ++ [_]).map _).Nodup
    rw [el]; simp
  · show ∀ q ∈ s.l ++ [_], _
    rw [el]
    intro q hq
    rw [List.mem_singleton.mp hq]; exact ⟨by rw [e1]; omega, hlc⟩
  · show (s.l ++ [_]).length ≤ 900
    rw [el]; simp
  · show s.ls.length ≤ 900
    omega
  · show s.i + ((sizeAll (s.l ++ [_]) : Nat) : Int) = _
    rw [el, La.i0]
    simp [sizeAll, e1]
  · show ∀ q ∈ s.l ++ [_], _
    rw [el]
    intro q hq
    rw [List.mem_singleton.mp hq]; exact ⟨.inr rfl, hc⟩
  · show y ++ 47 :: cp c = (s.ls.map _).flatten ++ cp (catOf (s.l ++ [_]))
    rw [el, ← La.txt, catOf_cp]
    show _ = y ++ ((cp sl ++ cp c) ++ [])
    rw [cp_sl, List.append_nil]; rfl
  · show s.ls.length + (s.l ++ [_]).length = _
    rw [el]; simp
end
theorem MOk.at {g h h' : Heap} {L : Addr} {m : Str → Option Value} {s : MS} {rest : List (Addr × Obj)} (M : MOk h g s) (S : St g L m h' (s.own ++ rest)) : MOk h' g s :=
  ⟨fun q hq => S.own (List.mem_append_left _ hq), M.nd, M.tk1, M.tk2, M.lens, M.hz, M.lz⟩
/-- a step by which the parts are let go, but stay in the ledger -/
theorem MStep.st_drop {g h h' : Heap} {L : Addr} {m : Str → Option Value} {s s' : MS} {rest : List (Addr × Obj)} (S : St g L m h (s.own ++ rest)) (P : MStep h h' g s s') (hl : s'.l = []) : St g L m h' (s'.own ++ (parts s.l ++ rest)) := by
  have S' := MStep.st S P
  have nd := S.nd
  have own' : s'.own = s'.seven := by rw [MS.own, hl]; exact List.append_nil _
  rw [own']
  have n7 : ∀ q ∈ parts s.l, q.1 ∉ s.seven.map (·.1) := fun q hq hm => by
    have h1 := nd
    rw [List.map_append, MS.own, List.map_append, List.append_assoc, List.nodup_append] at h1
    exact h1.2.2 _ hm _ (List.mem_append_left _ (List.mem_map.mpr ⟨q, hq, rfl⟩)) rfl
  refine ⟨S'.F, fun q hq => ?_, ?_⟩
  · rcases List.mem_append.mp hq with hq | hq
    · exact S'.N q (List.mem_append_left _ (own' ▸ hq))
    · rcases List.mem_append.mp hq with hq | hq
      · have := S.N q (List.mem_append_left _ (List.mem_append_right _ hq))
        exact ⟨P.keep _ _ this.1 (n7 q hq), this.2⟩
      · exact S'.N q (List.mem_append_right _ hq)
  · rw [List.map_append, P.adr, ← List.map_append, ← List.append_assoc]
    exact nd
/-- a step told by a frame's ledger at its end -/
theorem MStep.ofSt {g h hb h' h'' : Heap} {L : Addr} {m : Str → Option Value} {s s' : MS} {rest : List (Addr × Obj)} (hbg : ∀ b o, hb.get? b = some o → g.get? b = some o) (M : MOk h hb s) (back : ∀ b o, h.get? b = some o → b ∉ s.own.map (·.1) → g.get? b = some o)
    (S : St g L m h' (s'.own ++ rest)) (M' : MOk h'' g s') (adr : s'.seven.map (·.1) = s.seven.map (·.1)) (pts : ∀ q ∈ s'.l, q ∈ s.l ∨ h.get? q.u = none) (old : ∀ p ∈ parts s.l, p ∈ s'.own ++ rest) : MStep h h' hb s s' := by
  have M2 := M'.at S
  refine MStep.base hbg ⟨fun b o e n => ?_, M2, adr, pts⟩
  by_cases hm : b ∈ s.own.map (·.1)
  · rw [MS.own, List.map_append, List.mem_append] at hm
    rcases hm with hm | hm
    · exact absurd hm n
    · obtain ⟨q, hq, rfl⟩ := List.mem_map.mp hm
      have h1 := (M.own q (List.mem_append_right _ hq)).1
      rw [h1] at e; cases e
      exact S.get (old q hq)
  · exact S.F.keep _ _ (back b o e hm)
/-- what is new behind is new at the start -/
theorem fresh_back {g h h' : Heap} {L : Addr} {m : Str → Option Value} {s s' : MS} {hb : Heap} {rest : List (Addr × Obj)} (M : MOk h hb s) (back : ∀ b o, h.get? b = some o → b ∉ s.own.map (·.1) → g.get? b = some o)
    (S : St g L m h' (s'.own ++ rest)) (adr : s'.seven.map (·.1) = s.seven.map (·.1)) (old : ∀ p ∈ parts s.l, p ∈ s'.own ++ rest) {a : Addr} (ha : h'.get? a = none) : h.get? a = none := by
  cases e : h.get? a with
  | none => rfl
  | some o =>
    by_cases hm : a ∈ s.own.map (·.1)
    · rw [MS.own, List.map_append, List.mem_append] at hm
      rcases hm with hm | hm
      · rw [← adr] at hm
        obtain ⟨q, hq, rfl⟩ := List.mem_map.mp hm
        rw [S.get (List.mem_append_left _ (List.mem_append_left _ hq))] at ha; cases ha
      · obtain ⟨q, hq, rfl⟩ := List.mem_map.mp hm
        rw [S.get (old q hq)] at ha; cases ha
    · rw [S.F.keep _ _ (back a o e hm)] at ha; cases ha
theorem St.perm {g h : Heap} {L : Addr} {m : Str → Option Value} {l l' : List (Addr × Obj)} (S : St g L m h l) (p : l.Perm l') : St g L m h l' :=
  ⟨S.F, fun q hq => S.N q (p.mem_iff.mpr hq), (p.map _).nodup_iff.mp S.nd⟩
theorem St.mid {g h : Heap} {L : Addr} {m : Str → Option Value} {a b r : List (Addr × Obj)} {i d : Addr × Obj} (S : St g L m h (a ++ (b ++ i :: d :: r))) : St g L m h (a ++ i :: d :: (b ++ r)) :=
  S.perm (List.Perm.append_left a (List.perm_middle.trans (List.Perm.cons i List.perm_middle)))
theorem MStep.fm {h h' hb : Heap} {s s' : MS} (P : MStep h h' hb s s') : s'.fm = s.fm := (List.cons.inj P.adr).1

-- Q25
open PySem.Builtin
theorem round_pure {l : List Nat} (hl : l.length = 12) {sz p : Nat} (hs : sz = 2 ∨ sz = 3 ∨ sz = 4 ∨ sz = 6) (hp : p ≤ 12) :
    fillL 1 (cutL sz sz (l.take p)) ≤ sz + 1 ∧ 2 ≤ fillL (fillL 1 (cutL sz sz (l.take p))) (cutL (sz + 1 - fillL 1 (cutL sz sz (l.take p))) sz (l.drop p)) ∧
      layT (cutL sz sz (l.take p)) ++ layT (cutL (sz + 1 - fillL 1 (cutL sz sz (l.take p))) sz (l.drop p)) = layT (chunks sz 20 l) := by
  match l, hl with
  | [a0, a1, a2, a3, a4, a5, a6, a7, a8, a9, a10, a11], _ =>
    have hp' : p = 0 ∨ p = 1 ∨ p = 2 ∨ p = 3 ∨ p = 4 ∨ p = 5 ∨ p = 6 ∨ p = 7 ∨ p = 8 ∨ p = 9 ∨ p = 10 ∨ p = 11 ∨ p = 12 := by omega
    rcases hs with rfl | rfl | rfl | rfl <;> rcases hp' with rfl | rfl | rfl | rfl | rfl | rfl | rfl | rfl | rfl | rfl | rfl | rfl | rfl <;>
      refine ⟨Nat.le_of_ble_eq_true ?_, Nat.le_of_ble_eq_true ?_, ?_⟩ <;> kernel_rfl
/-- the names of a row -/
def namesOf (sz : Nat) (rb : Array UInt8) : List (Array UInt8) := (List.range (12 / sz)).map fun j => rb.extract (j * sz) (j * sz + sz)
theorem split_pure {rb b : Array UInt8} {sz : Nat} (hr : rb.size = 12) (ho : ∀ c ∈ ob rb, c ≠ 47) (hs : sz = 2 ∨ sz = 3 ∨ sz = 4 ∨ sz = 6) (hb : ob b = layT (chunks sz 20 (ob rb))) :
    ((List.range b.size).filter fun i => b[i]? == some 47) ≠ [] ∧ Bytes.between b 1 ((List.range b.size).filter fun i => b[i]? == some 47) = namesOf sz rb ∧ b.size ≤ 20 := by
  obtain ⟨l⟩ := rb
  match l, hr with
  | [a0, a1, a2, a3, a4, a5, a6, a7, a8, a9, a10, a11], _ =>
    have ne : ∀ a : UInt8, a.toNat ≠ 47 → (a == 47) = false := fun a h => by
      simp only [beq_eq_false_iff_ne, ne_eq]
      rintro rfl
      exact h rfl
    simp only [ob, List.map_cons, List.map_nil, List.forall_mem_cons] at ho
    obtain ⟨h0, h1, h2, h3, h4, h5, h6, h7, h8, h9, h10, h11, _⟩ := ho
    have n0 := ne _ h0
    have n1 := ne _ h1
    have n2 := ne _ h2
    have n3 := ne _ h3
    have n4 := ne _ h4
    have n5 := ne _ h5
    have n6 := ne _ h6
    have n7 := ne _ h7
    have n8 := ne _ h8
    have n9 := ne _ h9
    have n10 := ne _ h10
    have n11 := ne _ h11
    rcases hs with rfl | rfl | rfl | rfl
    · obtain rfl : b = #[a0, a1, 47, a2, a3, 47, a4, a5, 47, a6, a7, 47, a8, a9, 47, a10, a11] := ob_inj (hb.trans rfl)
      have e : ((List.range 17).filter fun i => (#[a0, a1, 47, a2, a3, 47, a4, a5, 47, a6, a7, 47, a8, a9, 47, a10, a11] : Array UInt8)[i]? == some 47) = [2, 5, 8, 11, 14] := by
        simp [List.range_succ, n0, n1, n2, n3, n4, n5, n6, n7, n8, n9, n10, n11]
      exact ⟨by rw [show (#[a0, a1, 47, a2, a3, 47, a4, a5, 47, a6, a7, 47, a8, a9, 47, a10, a11] : Array UInt8).size = 17 from rfl, e]; simp, by rw [show (#[a0, a1, 47, a2, a3, 47, a4, a5, 47, a6, a7, 47, a8, a9, 47, a10, a11] : Array UInt8).size = 17 from rfl, e]; rfl, Nat.le_of_ble_eq_true rfl⟩
    · obtain rfl : b = #[a0, a1, a2, 47, a3, a4, a5, 47, a6, a7, a8, 47, a9, a10, a11] := ob_inj (hb.trans rfl)
      have e : ((List.range 15).filter fun i => (#[a0, a1, a2, 47, a3, a4, a5, 47, a6, a7, a8, 47, a9, a10, a11] : Array UInt8)[i]? == some 47) = [3, 7, 11] := by
        simp [List.range_succ, n0, n1, n2, n3, n4, n5, n6, n7, n8, n9, n10, n11]
      exact ⟨by rw [show (#[a0, a1, a2, 47, a3, a4, a5, 47, a6, a7, a8, 47, a9, a10, a11] : Array UInt8).size = 15 from rfl, e]; simp, by rw [show (#[a0, a1, a2, 47, a3, a4, a5, 47, a6, a7, a8, 47, a9, a10, a11] : Array UInt8).size = 15 from rfl, e]; rfl, Nat.le_of_ble_eq_true rfl⟩
    · obtain rfl : b = #[a0, a1, a2, a3, 47, a4, a5, a6, a7, 47, a8, a9, a10, a11] := ob_inj (hb.trans rfl)
      have e : ((List.range 14).filter fun i => (#[a0, a1, a2, a3, 47, a4, a5, a6, a7, 47, a8, a9, a10, a11] : Array UInt8)[i]? == some 47) = [4, 9] := by
        simp [List.range_succ, n0, n1, n2, n3, n4, n5, n6, n7, n8, n9, n10, n11]
      exact ⟨by rw [show (#[a0, a1, a2, a3, 47, a4, a5, a6, a7, 47, a8, a9, a10, a11] : Array UInt8).size = 14 from rfl, e]; simp, by rw [show (#[a0, a1, a2, a3, 47, a4, a5, a6, a7, 47, a8, a9, a10, a11] : Array UInt8).size = 14 from rfl, e]; rfl, Nat.le_of_ble_eq_true rfl⟩
    · obtain rfl : b = #[a0, a1, a2, a3, a4, a5, 47, a6, a7, a8, a9, a10, a11] := ob_inj (hb.trans rfl)
      have e : ((List.range 13).filter fun i => (#[a0, a1, a2, a3, a4, a5, 47, a6, a7, a8, a9, a10, a11] : Array UInt8)[i]? == some 47) = [6] := by
        simp [List.range_succ, n0, n1, n2, n3, n4, n5, n6, n7, n8, n9, n10, n11]
      exact ⟨by rw [show (#[a0, a1, a2, a3, a4, a5, 47, a6, a7, a8, a9, a10, a11] : Array UInt8).size = 13 from rfl, e]; simp, by rw [show (#[a0, a1, a2, a3, a4, a5, 47, a6, a7, a8, a9, a10, a11] : Array UInt8).size = 13 from rfl, e]; rfl, Nat.le_of_ble_eq_true rfl⟩

-- Q23
section
variable {w : World} {mg mb : Str → Option Value} {h hb : Heap} {s : MS} {A : Around}
   {gg : Array GenState} {d : Drawn} {tk : Nat} {os : OsState} {R : Result → Shared → Prop}
/-- the state of the laying loop behind j turns -/
structure YInv (g h : Heap) (L : Addr) (gg : Array GenState) (d : Drawn) (os : OsState) (s : MS) (sz f : Nat) (y : List Nat) (xs : List (Str × Tok)) (D It : Addr) (nn : Nat) (j : Nat) (t : Shared) (m : Str → Option Value) (s' : MS) (rest : List (Addr × Obj)) : Prop where
  sh : t = ⟨t.heap, t.gens, d, t.toks, os⟩
  S : St g L m t.heap (s'.own ++ ((It, ritO (j : Int) ((xs.length : Int) - j) 1) :: (D, lstO (strValues xs).toArray nn) :: rest))
  M : MOk t.heap g s'
  adr : s'.seven.map (·.1) = s.seven.map (·.1)
  pts : ∀ q ∈ s'.l, q ∈ s.l ∨ h.get? q.u = none
  old : ∀ p ∈ parts s.l, p ∈ parts s'.l ∨ p ∈ rest
  La : Lay sz s' (fillL f ((xs.map fun p => cp p.1).take j)) (y ++ layT ((xs.map fun p => cp p.1).take j))
  m1 : m (Str.ofString "lines") = some (.ref D)
  m2 : m (Str.ofString "maker") = some (.ref s'.fm)
  gk : GK gg t.gens
  cnt : s'.ls.length + s'.l.length ≤ s.ls.length + s.l.length + j
  pos : j ≠ 0 → s'.l ≠ []
theorem lay_spec {x : Str} {v : Value} {sz f : Nat} {y : List Nat}
   (hA : A.depth + 5 < recursionLimit) (hU : A.units + 300 < cLine) (hh : A.handled = none) (X : (KK w).In hb) (T : Tr mg mb hb) (hk : ∀ b o, hb.get? b = some o → h.get? b = some o)
   (M : MOk h hb s) (La : Lay sz s f y) (hf : f ≤ sz + 1) (hsz : sz ≤ 900) (hv : Octs x v) (hx : ∀ c ∈ cp x, c < 128) (hz : x.length ≤ 1000) (hn : s.ls.length + s.l.length ≤ 800)
   (k : ∀ h' gg' tk' s', MStep h h' hb s s' → Lay sz s' (fillL f (cutL (sz + 1 - f) sz (cp x))) (y ++ layT (cutL (sz + 1 - f) sz (cp x))) → s'.ls.length + s'.l.length ≤ s.ls.length + s.l.length + 20 → GK gg gg' → R (.ok (.ret .none)) ⟨h', gg', d, tk', os⟩) :
   codeAny (model Prg w) A (.call (.ref 209) ⟨[.ref s.fm, v], []⟩) R ⟨h, gg, d, tk, os⟩ := by
  refine enter2 (own := s.own) (binds := [Str.ofString "maker", Str.ofString "thing"].zip [.ref s.fm, v]) X T hk M.own M.nd rfl (by kernel_rfl) (by omega) (BindsTo.of_eq (by kernel_rfl)) (by decide) (locs0 (by decide)) ?_
  have hbg : ∀ g : Heap, (∀ b o, h.get? b = some o → b ∉ s.own.map (·.1) → g.get? b = some o) → ∀ b o, hb.get? b = some o → g.get? b = some o := fun g hg b o e => hg b o (hk b o e) fun q => by
    obtain ⟨p, hp, rfl⟩ := List.mem_map.mp q
    rw [(M.own p hp).2] at e; cases e
  clear X T hk
  intro g L h₁ tk' X T S back hL
  have hbg := hbg g back
  have hgh : ∀ b o, h.get? b = some o → h₁.get? b = some o := fun b o e => by
    by_cases hb : b ∈ s.own.map (·.1)
    · obtain ⟨p, hp, rfl⟩ := List.mem_map.mp hb
      rw [(M.own p hp).1] at e; cases e
      exact S.get hp
    · exact S.F.keep b o (back b o e hb)
  have P0 : MStep h h₁ hb s s := .keeps M hgh
  have M1 : MOk h₁ g s := ⟨fun q hq => S.own hq, M.nd, M.tk1, M.tk2, M.lens, M.hz, M.lz⟩
  walk_at "A"
  walk_at "A"
  walk_at "A"
  walk_at "A"
  walk_at "N"
  repeat (walk_at "A")
  walk_at "cw"
  repeat (walk_at "A")
  refine callWith_K0 (St.K S X) (kp77 w) ?_
  dsimp only [List.cons_append, List.nil_append, List.append_nil]
  refine wpAny_call (ml_spec (hb := g) (by simp [Around.deeper]; omega) X T S.F.keep ?_)
  intro h₂ tk₂ a C oC nm qn gs P nC lt eC hgen hgb
  have k12 : ∀ b o, h₁.get? b = some o → h₂.get? b = some o := fun b o e => P.keep b o e (by simp)
  have hgC : g.objs.size ≤ C := by rw [eC]; exact Nat.le_of_lt (Nat.lt_of_le_of_lt S.F.above S.lt)
  have S' := St.post S P .nil
  clear S P
  have S := S'
  clear S'
  dsimp only [List.nil_append, List.cons_append] at S
  repeat (walk_at "A")
  refine ⟨S.K X, ?_⟩
  have M2 : MOk h₂ g s := ⟨fun q hq => S.own (.tail _ (.tail _ hq)), M.nd, M.tk1, M.tk2, M.lens, M.hz, M.lz⟩
  refine wpAny_call (lines_spec (hb := g) (s := s) (gg₀ := gg) (r1 := sz + 1 - f) (r := sz) (by simp [Around.deeper]; omega) hh X T S.F.keep M2 (fun q hq => S.own hq) S.nd hgC nC hgen hgb La.i01 ?_ ?_ hv hz ?_)
  · have h1 := La.ml
    have h2 := La.fill
    omega
  · have h1 := La.ml
    have h2 := La.wl
    omega
  intro h₃ gg₃ tk₃ D xs nn o1' ok1 P G hxs
  walk_at "post"
  have S1 : St g L _ h₃ (({ s with o1 := o1' } : MS).own ++ [(D, lstO (strValues xs).toArray nn)]) := St.rot3 S
  clear S
  have S := S1
  clear S1
  have La1 : Lay sz { s with o1 := o1' } f y := ⟨La.ml, La.wl, La.fill, La.kind, La.pt, La.txt⟩
  repeat (walk_at "A")
  have Sd : ∀ {h : Heap} {m}, St g L m h (({ s with o1 := o1' } : MS).own ++ [(D, lstO (strValues xs).toArray nn)]) → h.get? D = some (lstO (strValues xs).toArray nn) := fun S => S.get (List.mem_append_right _ (.head _))
  have hxl : xs.length ≤ 20 := by
    have := (cutL_of (r1 := sz + 1 - f) (r := sz) (l := cp x)).1
    rw [← hxs, List.length_map] at this
    exact this
  refine wpAny_For ?_
  walk_at "A"
  walk_at "A"
  walk_at "N"
  refine PyProof.Rows.callWith_type1 ?_
  (try dsimp only)
  walk_at "A"
  walk_at "A"
  walk_at "A"
  walk_at "N"
  repeat (walk_at "A")
  (try dsimp only [List.cons_append, List.nil_append])
  refine len_list ⟨_, Sd S, rfl, _, rfl⟩ ?_ ?_
  · simp [strValues]; omega
  have exz : (strValues xs).toArray.size = xs.length := by simp [strValues]
  rw [exz]
  repeat (walk_at "A")
  (try dsimp only [List.cons_append, List.nil_append])
  refine r_range1 S ?_
  intro Rg h₅ tk₅ t₅ u₅ S2 k45
  clear S
  refine r_riter S2 (.head _) (small_one (by omega) (by omega) (by omega) (by omega)) ?_
  intro It h₆ S3 k56
  have ers : Builtin.Range.rangeSize 0 (xs.length : Int) 1 = (xs.length : Int) := by
    rw [rangeSize_one]
    split <;> omega
  rw [ers] at S3
  have S := St.rot2 S3
  clear S2 S3
  generalize hB : A.deeper _ = B
  have Bh : B.handled = none := by subst hB; exact hh
  have Bd : B.depth = A.depth + 1 := by subst hB; rfl
  have Bu : B.units + 200 < cLine := by subst hB; simp [Around.deeper]; omega
  clear hB
  have M1' : MOk h₆ g { s with o1 := o1' } := ⟨fun q hq => S.own (List.mem_append_left _ hq), M.nd, ok1, M.tk2, M.lens, M.hz, M.lz⟩
  refine codeAny_forLoop (fun n t => ∃ j m s' rest, j + n = xs.length ∧ YInv g h L gg d os s sz f y xs D It nn j t m s' rest) ?turn xs.length ?init
  case init =>
    have e0 : (xs.length : Int) - ((0 : Nat) : Int) = xs.length := by omega
    have key : ∀ m, St g L m h₆ (({ s with o1 := o1' } : MS).own ++ ((It, ritO ((0 : Nat) : Int) ((xs.length : Int) - ((0 : Nat) : Int)) 1) :: (D, lstO (strValues xs).toArray nn) :: [])) → m (Str.ofString "lines") = some (.ref D) → m (Str.ofString "maker") = some (.ref s.fm) →
        ∃ m s' rest, YInv g h L gg d os s sz f y xs D It nn 0 ⟨h₆, gg₃, d, tk₅, os⟩ m s' rest := fun m S e1 e2 =>
      ⟨m, { s with o1 := o1' }, [], ⟨rfl, S, M1', rfl, fun q hq => .inl hq, fun p hp => .inl hp, by simp only [List.take_zero, layT, fillL, List.append_nil]; exact La1, e1, e2, G, Nat.le_refl _, fun q => absurd rfl q⟩⟩
    rw [e0] at key
    obtain ⟨m, s', rest, Y⟩ := key _ S rfl rfl
    exact ⟨0, m, s', rest, Nat.zero_add _, Y⟩
  case turn =>
    clear S M1'
    rintro n ⟨h', gg', d', tk', os'⟩ ⟨j, m, s', rest, hjn, I⟩
    obtain ⟨sh, S, M', adr, pts, old, La', m1, m2, gk, cnt, pos⟩ := I
    dsimp only at S M' gk
    injection sh with _ _ e3 _ e5
    subst e3 e5
    cases n with
    | zero =>
      refine r_rend Bh (St.front S) (by omega) fun h'' S' kx => ?_
      refine wpAny_execs_nil (wpAny_execs_nil ?_)
      have ej : (xs.map fun p => cp p.1).take j = cutL (sz + 1 - f) sz (cp x) := by rw [← hxs]; exact List.take_of_length_le (by rw [List.length_map]; omega)
      rw [ej] at La'
      refine k _ _ _ s' (MStep.ofSt hbg M back S' M' adr pts (fun p hp => ?_)) La' (by omega) gk
      rcases old p hp with q | q
      · exact List.mem_append_left _ (List.mem_append_right _ q)
      · exact List.mem_append_right _ (.tail _ q)
    | succ n =>
      have hjl : j < xs.length := by omega
      rcases hcx : xs[j] with ⟨c, tc⟩
      have hxj : (strValues xs).toArray[j]? = some (.str c tc) := by simp [strValues, hjl, hcx]
      have hcm : cp c ∈ cutL (sz + 1 - f) sz (cp x) := by rw [← hxs]; exact List.mem_map.mpr ⟨_, List.getElem_mem hjl, by rw [hcx]⟩
      have hcj : (cutL (sz + 1 - f) sz (cp x))[j]? = some (cp c) := by rw [← hxs]; simp [hjl, hcx]
      obtain ⟨cu1, cu2, cu3⟩ := cutL_of (r1 := sz + 1 - f) (r := sz) (l := cp x)
      have hc128 : ∀ d ∈ cp c, d < 128 := fun d hd => hx d (cu2 _ hcm d hd)
      have hclen := cu3 j _ hcj
      rw [cp_len] at hclen
      have htk : (xs.map fun p => cp p.1).take (j + 1) = (xs.map fun p => cp p.1).take j ++ [cp c] := by rw [hxs, List.take_add_one, hcj]; rfl
      have hc1000 : c.length ≤ 1000 := by
        by_cases hj : j = 0
        · have := hclen.1 hj; omega
        · have := hclen.2 hj; omega
      refine r_rnext S (Up.app .head _) (by omega) fun h'' tk'' t'' S' kx => ?_
      have M'' := M'.at S'
      have e1 : (j : Int) + 1 = ((j + 1 : Nat) : Int) := by push_cast; rfl
      have e2 : (xs.length : Int) - j - 1 = xs.length - ((j + 1 : Nat) : Int) := by push_cast; omega
      rw [e1, e2] at S'
      have oldm : ∀ p ∈ parts s.l, p ∈ s'.own ++ ((It, ritO ((j + 1 : Nat) : Int) (xs.length - ((j + 1 : Nat) : Int)) 1) :: (D, lstO (strValues xs).toArray nn) :: rest) := fun p hp => by
        rcases old p hp with q | q
        · exact List.mem_append_left _ (List.mem_append_right _ q)
        · exact List.mem_append_right _ (.tail _ (.tail _ q))
      clear S M'
      have S := S'
      have M' := M''
      clear S' M''
      refine wpAny_assign_Name ?_
      walk_at "A"
      have M'' := M'.at S
      clear M'
      have M' := M''
      clear M''
      walk_at "A"
      walk_at "A"
      refine wpAny_isTrue_Compare1 ?_
      walk_at "A"
      walk_at "A"
      walk_at "A"
      refine gt_int (wpAny_truthy_bool ?_)
      by_cases hj : j = 0
      · rw [if_neg (by simp [hj])]
        subst hj
        have La0 : Lay sz s' f y := by
          have q := La'
          simp only [List.take_zero, layT, fillL, List.append_nil] at q
          exact q
        have SS := S
        dsimp only [MS.own, MS.seven, List.cons_append, List.nil_append] at S
        walk_at "A"
        walk_at "A"
        walk_at "A"
        walk_at "A"
        walk_at "A"
        refine r_ld S rfl rfl rfl m2 ?_
        walk_at "A"
        walk_at "cw"
        walk_at "A"
        walk_at "A"
        refine wpAny_isTrue_Compare1 ?_
        walk_at "A"
        walk_at "A"
        walk_at "A"
        refine gt_int (wpAny_truthy_bool ?_)
        rw [if_neg (by simp)]
        walk_at "A"
        walk_at "A"
        refine Subscript_ ?_
        walk_at "A"
        refine r_ld S rfl rfl rfl m1 ?_
        walk_at "A"
        walk_at "A"
        refine item_list ⟨_, SS.get (List.mem_append_right _ (.tail _ (.head _))), rfl, _, rfl⟩ (by omega) (by omega) hxj ?_
        repeat (walk_at "A")
        refine ⟨S.K X, ?_⟩
        (try dsimp only [List.cons_append, List.nil_append])
        refine wpAny_call (append_step (hb := g) (by omega) Bh X T S.F.keep M' La0 hc128 hc1000 ?_ (by omega) ?_)
        · have := hclen.1 rfl
          omega
        intro h₂ gg₂ tk₂ s'' P La'' cnt' ne hkp G2
        repeat (walk_at "A")
        have S2 := MStep.st SS P
        have ec : (xs.map fun p => cp p.1).take (0 + 1) = [cp c] := by rw [htk]; rfl
        have fin : ∀ m₂, St g L m₂ h₂ (s''.own ++ ((It, ritO ((0 + 1 : Nat) : Int) (xs.length - ((0 + 1 : Nat) : Int)) 1) :: (D, lstO (strValues xs).toArray nn) :: rest)) → m₂ (Str.ofString "lines") = some (.ref D) → m₂ (Str.ofString "maker") = some (.ref s'.fm) →
            ∃ n', n' < n + 1 ∧ ∃ j m s' rest, j + n' = xs.length ∧ YInv g h L gg d' os' s sz f y xs D It nn j ⟨h₂, gg₂, d', tk₂, os'⟩ m s' rest := fun m₂ S2 q1 q2 =>
          ⟨n, Nat.lt_succ_self n, 0 + 1, m₂, s'', rest, by omega, ⟨rfl, S2, P.ok, P.adr.trans adr, fun q hq => (P.pts q hq).elim (pts q) fun e => .inr (fresh_back M back SS adr oldm e), fun p hp => (old p hp).imp (fun q => by
            obtain ⟨z, hz, rfl⟩ := List.mem_map.mp q
            exact List.mem_map.mpr ⟨z, hkp z hz, rfl⟩) id, by
            rw [ec]
            have q := La''
            rw [← cp_len] at q
            simpa [layT, fillL, fillR] using q, q1, by rw [P.fm]; exact q2, gk.trans G2, by omega, fun _ => ne⟩⟩
        exact fin _ S2 m1 m2
      · rw [if_pos (by simp; omega)]
        have SS := S
        dsimp only [MS.own, MS.seven, List.cons_append, List.nil_append] at S
        walk_at "A"
        walk_at "A"
        walk_at "A"
        walk_at "A"
        refine r_ld S rfl rfl rfl m2 ?_
        walk_at "A"
        walk_at "cw"
        refine wpAny_call (newline_step (hb := g) (by omega) (by omega) Bh X T S.F.keep M' La' (pos hj) (by omega) ?_)
        intro h₁' gg₁' tk₁' s₁ P1 La1' cnt1 G1
        have S1 := MStep.st_drop SS P1 La1'.l0
        have N1 := P1.ok
        have q2 : m (Str.ofString "maker") = some (Value.ref s₁.fm) := by rw [P1.fm]; exact m2
        clear S
        have S := S1
        dsimp only [MS.own, MS.seven, List.cons_append, List.nil_append] at S
        repeat (walk_at "A")
        refine r_ld S rfl rfl rfl q2 ?_
        walk_at "A"
        walk_at "cw"
        walk_at "A"
        walk_at "A"
        refine wpAny_isTrue_Compare1 ?_
        walk_at "A"
        walk_at "A"
        walk_at "A"
        refine gt_int (wpAny_truthy_bool ?_)
        rw [if_pos (by simp; omega)]
        walk_at "A"
        walk_at "A"
        walk_at "N"
        walk_at "cw"
        walk_at "A"
        refine Subscript_ ?_
        walk_at "A"
        refine r_ld S rfl rfl rfl m1 ?_
        walk_at "A"
        walk_at "A"
        refine item_list ⟨_, S1.get (List.mem_append_right _ (List.mem_append_right _ (.tail _ (.head _)))), rfl, _, rfl⟩ (by omega) (by omega) hxj ?_
        repeat (walk_at "A")
        refine ⟨S.K X, ?_⟩
        (try dsimp only [List.cons_append, List.nil_append])
        refine wpAny_call (sepS_spec (hb := g) (by omega) X T S.F.keep ?_)
        intro h₂' tk₂' u₂ Ps
        have S2 := St.post S1 Ps .nil
        dsimp only [List.nil_append] at S2
        have N2 := N1.at S2
        clear S S1 N1
        have S := S2
        dsimp only [MS.own, MS.seven, List.cons_append, List.nil_append] at S
        walk_at "A"
        refine Subscript_ ?_
        walk_at "A"
        refine r_ld S rfl rfl rfl m1 ?_
        walk_at "A"
        walk_at "A"
        refine item_list ⟨_, S2.get (List.mem_append_right _ (List.mem_append_right _ (.tail _ (.head _)))), rfl, _, rfl⟩ (by omega) (by omega) hxj ?_
        repeat (walk_at "A")
        refine ⟨S.K X, ?_⟩
        (try dsimp only [List.cons_append, List.nil_append])
        refine wpAny_call (append_step2 (hb := g) (by omega) Bh X T S.F.keep N2 La1' hc128 hc1000 (hclen.2 hj) (by omega) ?_)
        intro h₃' gg₃' tk₃' s'' P3 La3 cnt3 ne3 G3
        have S3 := St.mid (MStep.st S2 P3)
        repeat (walk_at "A")
        have hne : (xs.map fun p => cp p.1).take j ≠ [] := by
          intro q
          have := congrArg List.length q
          rw [List.length_take, List.length_map] at this
          simp at this
          rcases this with q | q
          · exact hj q
          · rw [q] at hjl; simp at hjl
        have lp := List.length_pos_iff.mpr (pos hj)
        have old1 : ∀ p ∈ parts s.l, p ∈ parts s'.l ++ rest := fun p hp => by
          rcases old p hp with q | q
          · exact List.mem_append_left _ q
          · exact List.mem_append_right _ q
        have old2 : ∀ p ∈ parts s.l, p ∈ s₁.own ++ (parts s'.l ++ ((It, ritO ((j + 1 : Nat) : Int) (xs.length - ((j + 1 : Nat) : Int)) 1) :: (D, lstO (strValues xs).toArray nn) :: rest)) := fun p hp => by
          rcases old p hp with q | q
          · exact List.mem_append_right _ (List.mem_append_left _ q)
          · exact List.mem_append_right _ (List.mem_append_right _ (.tail _ (.tail _ q)))
        have fin : ∀ m₂, St g L m₂ h₃' (s''.own ++ ((It, ritO ((j + 1 : Nat) : Int) (xs.length - ((j + 1 : Nat) : Int)) 1) :: (D, lstO (strValues xs).toArray nn) :: (parts s'.l ++ rest))) → m₂ (Str.ofString "lines") = some (.ref D) → m₂ (Str.ofString "maker") = some (.ref s₁.fm) →
            ∃ n', n' < n + 1 ∧ ∃ j m s' rest, j + n' = xs.length ∧ YInv g h L gg d' os' s sz f y xs D It nn j ⟨h₃', gg₃', d', tk₃', os'⟩ m s' rest := fun m₂ S3 z1 z2 =>
          ⟨n, Nat.lt_succ_self n, j + 1, m₂, s'', _, by omega, ⟨rfl, S3, P3.ok, (P3.adr.trans P1.adr).trans adr, fun q hq => (P3.pts q hq).elim (fun q' => by rw [La1'.l0] at q'; cases q') fun e => .inr (fresh_back M back S2 (P1.adr.trans adr) old2 e), fun p hp => .inr (old1 p hp), by
            rw [htk, fillL_snoc hne, layT_snoc hne, cp_len, ← List.append_assoc]; exact La3, z1, by rw [P3.fm]; exact z2, (gk.trans G1).trans G3, by omega, fun _ => ne3⟩⟩
        exact fin _ S3 m1 q2
end

-- Q13
section
variable {w : World} {mg mb : Str → Option Value} {h hb : Heap} {cu dcu : Addr} {A : Around}
   {gg : Array GenState} {d : Drawn} {tk : Nat} {os : OsState} {R : Result → Shared → Prop}
open PySem.Builtin PySem.Builtin.List in
theorem run_init {A : Around} {E : Value → Shared → Prop} {g h : Heap} {L : Addr} {m : Str → Option Value} {news : List (Addr × Obj)} {Q : Fin → Shared → Prop} (S : St g L m h news) (hm : (cu, accO dcu #[] 0) ∈ news) (k : ∀ h', St g L m h' news → Q (.done (.ret .none)) ⟨h', gg, d, tk, os⟩) :
    wpAny (model Prg w) A (PySem.Builtin.«list.__init__» ⟨[.ref cu], []⟩) Q E ⟨h, gg, d, tk, os⟩ := by
  obtain ⟨news', U⟩ := Up.ex (accO dcu #[] 0) hm
  have e : news' = news := by
    clear S k hm
    induction U with
    | head => rfl
    | tail _ ih => rw [ih]
  subst e
  unfold PySem.Builtin.«list.__init__»
  dsimp only
  rw [if_neg (by decide), if_neg (by decide)]
  refine wpAny_bind (r_listItems S hm ?_)
  refine wpAny_bind (r_updateSeq S U (mapSeq_eq rfl rfl) (by simp) fun h' S' => wpAny_bind (wpAny_letGo (wpAny_pure (k h' S'))))
theorem d115 (w : World) : ∃ o n v, (KK w).lookup 107 = some o ∧ o.data = .seq #[v] n := ⟨_, _, _, rfl, rfl⟩
theorem ainit_spec {v : Value} (hA : A.depth < recursionLimit) (X : (KK w).In hb) (T : Tr mg mb hb) (hk : ∀ b o, hb.get? b = some o → h.get? b = some o)
   (hcu : h.get? cu = some (accO dcu #[] 0) ∧ hb.get? cu = none) (hdcu : h.get? dcu = some emptyDict ∧ hb.get? dcu = none) (ne : cu ≠ dcu)
   (k : ∀ h' tk' hs t e, Post h h' [(dcu, accD hs t v e)] [] → R (.ok (.ret .none)) ⟨h', gg, d, tk', os⟩) :
   codeAny (model Prg w) A (.call (.ref 115) ⟨[.ref cu, v], []⟩) R ⟨h, gg, d, tk, os⟩ := by
  obtain ⟨oT, nT, vT, hT, hTd⟩ := d115 w
  refine enterS (own := [(cu, accO dcu #[] 0), (dcu, emptyDict)]) (binds := [Str.ofString "self", Str.ofString "initial_size"].zip [Value.ref cu, v]) X T hk (by simp only [List.forall_mem_cons]; exact ⟨hcu, hdcu, List.forall_mem_nil _⟩) (by simp [ne]) rfl (by kernel_rfl) hA (BindsTo.of_defaults (T := 107) rfl (hk _ _ (X _ _ hT)) hTd (by rfl) (by kernel_rfl)) (by decide) (locs0 (by decide)) ?_
  clear X T hk
  intro g L h₁ tk' X T S back hL
  refine ks_wpAt_execs_cons (wpAt_of_wpAny ?_)
  repeat (walk_at "A")
  refine' r_setAttr (es := []) (n := 0) (c178 _) ?fa S X (by k_mem) (by rfl) (by rfl) (by rfl) (.tail .head) (by rfl) (by rfl) ?ff ?_
  (case fa => walk_at "fnone")
  (case ff => simp [putL])
  (clear S; intro h' S)
  repeat (walk_at "A")
  refine ks_wpAt_execs_cons (ks_wpAt_Expr_any ?_)
  refine superCall S X T (.head _) rfl rfl rfl rfl rfl (by decide) rfl rfl rfl rfl (al_init w) ty_init sl_wdget.lookup (.inr rfl) ent_init (by decide +kernel) (fun h news S hi A Q tk k => get_init S hi k) (fun h news S hm A Q E tk k => by rw [cb_init]; exact wpAny_pure k) ?_
  clear S
  intro h' tk' S
  refine run_init S (.head _) ?_
  clear S
  intro h' S
  refine ⟨_, rfl, ?_⟩
  refine wpAt_of_wpAny (wpAny_execs_nil ?_)
  exact k _ _ _ _ _ (Post.of hL back S (List.forall_mem_cons.2 ⟨.tail _ (.head _), List.forall_mem_nil _⟩) (by simp) (by simp) (by simp [hcu.1]))
end
section
variable {w : World} {mg mb : Str → Option Value} {g h : Heap} {L : Addr} {m : Str → Option Value} {news : List (Addr × Obj)} {A : Around} {E : Value → Shared → Prop}
   {gg : Array GenState} {d : Drawn} {tk : Nat} {os : OsState}
/-- _Accumulator(v) -/
theorem r_acc {v : Value} {Q : Value → Shared → Prop} (hA : A.depth + 1 < recursionLimit) (S : St g L m h news) (X : (KK w).In g) (T : Tr mg mb g)
   (k : ∀ h' tk' cu dcu hs t e, St g L m h' ((cu, accO dcu #[] 0) :: (dcu, accD hs t v e) :: news) → L < cu → L < dcu → Q (.ref cu) ⟨h', gg, d, tk', os⟩) :
   wpAny (model Prg w) A (call (.ref 178) [v]) Q E ⟨h, gg, d, tk, os⟩ := by
  have S1 := S.push (o := emptyDict) rfl
  have S2 := S1.push (o := subL 178 h.objs.size) rfl
  have es : (h.push emptyDict).objs.size = h.objs.size + 1 := Heap.size_push ..
  rw [es] at S2
  refine wpAny_call (make_L (mk178 w (S.K X)) (looks_findIn (S.K X) (f178_dinit w)) (fun self => bind_fn (S.K X) self (t115 w)) ?_)
  refine ainit_spec (hb := g) (by rw [depth_under_make]; exact hA) X T S2.F.keep (S2.own (.head _)) (S2.own (.tail _ (.head _))) (by simp) ?_
  intro h' tk' hs t e P
  have S3 := S2.post P (.cons (.tail .head) .nil)
  exact ⟨rfl, k _ _ _ _ _ _ _ S3 (Nat.lt_succ_of_lt S.lt) S.lt⟩
end

-- Q14
theorem mk94 (w : World) : makesIn (KK w) 94 = true := by kernel_rfl
theorem f94_dinit (w : World) : findIn (KK w) (.ref 94) "__init__" = some (some (.ref 35)) := by kernel_rfl
theorem t35 (w : World) : typeIn (KK w) (.ref 35) = some (.type "function") := by kernel_rfl
theorem put_f1 {x1 : Int} {t1 : Tok} {v1 : Value} {n : Nat} : (putL (Str.ofString "_maxlen") x1 (.str "_maxlen" t1) v1 ([] : List DictEntry), putN (Str.ofString "_maxlen") ([] : List DictEntry) n) = ([⟨x1, .str "_maxlen" t1, v1⟩], n + 1) := by rfl
theorem get_f1 : (getL (Str.ofString "_maxlen") ([] : List DictEntry)).isSome = true := by rfl
theorem put_f2 {x1 x2 : Int} {t1 t2 : Tok} {v1 v2 : Value} {n : Nat} : (putL (Str.ofString "_continuation_ws") x2 (.str "_continuation_ws" t2) v2 ([⟨x1, .str "_maxlen" t1, v1⟩] : List DictEntry), putN (Str.ofString "_continuation_ws") ([⟨x1, .str "_maxlen" t1, v1⟩] : List DictEntry) n) = ([⟨x1, .str "_maxlen" t1, v1⟩, ⟨x2, .str "_continuation_ws" t2, v2⟩], n + 1) := by rfl
theorem get_f2 {x1 : Int} {t1 : Tok} {v1 : Value} : (getL (Str.ofString "_continuation_ws") ([⟨x1, .str "_maxlen" t1, v1⟩] : List DictEntry)).isSome = true := by rfl
theorem put_f3 {x1 x2 x3 : Int} {t1 t2 t3 : Tok} {v1 v2 v3 : Value} {n : Nat} : (putL (Str.ofString "_continuation_ws_len") x3 (.str "_continuation_ws_len" t3) v3 ([⟨x1, .str "_maxlen" t1, v1⟩, ⟨x2, .str "_continuation_ws" t2, v2⟩] : List DictEntry), putN (Str.ofString "_continuation_ws_len") ([⟨x1, .str "_maxlen" t1, v1⟩, ⟨x2, .str "_continuation_ws" t2, v2⟩] : List DictEntry) n) = ([⟨x1, .str "_maxlen" t1, v1⟩, ⟨x2, .str "_continuation_ws" t2, v2⟩, ⟨x3, .str "_continuation_ws_len" t3, v3⟩], n + 1) := by rfl
theorem get_f3 {x1 x2 : Int} {t1 t2 : Tok} {v1 v2 : Value} : (getL (Str.ofString "_continuation_ws_len") ([⟨x1, .str "_maxlen" t1, v1⟩, ⟨x2, .str "_continuation_ws" t2, v2⟩] : List DictEntry)).isSome = true := by rfl
theorem put_f4 {x1 x2 x3 x4 : Int} {t1 t2 t3 t4 : Tok} {v1 v2 v3 v4 : Value} {n : Nat} : (putL (Str.ofString "_splitchars") x4 (.str "_splitchars" t4) v4 ([⟨x1, .str "_maxlen" t1, v1⟩, ⟨x2, .str "_continuation_ws" t2, v2⟩, ⟨x3, .str "_continuation_ws_len" t3, v3⟩] : List DictEntry), putN (Str.ofString "_splitchars") ([⟨x1, .str "_maxlen" t1, v1⟩, ⟨x2, .str "_continuation_ws" t2, v2⟩, ⟨x3, .str "_continuation_ws_len" t3, v3⟩] : List DictEntry) n) = ([⟨x1, .str "_maxlen" t1, v1⟩, ⟨x2, .str "_continuation_ws" t2, v2⟩, ⟨x3, .str "_continuation_ws_len" t3, v3⟩, ⟨x4, .str "_splitchars" t4, v4⟩], n + 1) := by rfl
theorem get_f4 {x1 x2 x3 : Int} {t1 t2 t3 : Tok} {v1 v2 v3 : Value} : (getL (Str.ofString "_splitchars") ([⟨x1, .str "_maxlen" t1, v1⟩, ⟨x2, .str "_continuation_ws" t2, v2⟩, ⟨x3, .str "_continuation_ws_len" t3, v3⟩] : List DictEntry)).isSome = true := by rfl
theorem put_f5 {x1 x2 x3 x4 x5 : Int} {t1 t2 t3 t4 t5 : Tok} {v1 v2 v3 v4 v5 : Value} {n : Nat} : (putL (Str.ofString "_lines") x5 (.str "_lines" t5) v5 ([⟨x1, .str "_maxlen" t1, v1⟩, ⟨x2, .str "_continuation_ws" t2, v2⟩, ⟨x3, .str "_continuation_ws_len" t3, v3⟩, ⟨x4, .str "_splitchars" t4, v4⟩] : List DictEntry), putN (Str.ofString "_lines") ([⟨x1, .str "_maxlen" t1, v1⟩, ⟨x2, .str "_continuation_ws" t2, v2⟩, ⟨x3, .str "_continuation_ws_len" t3, v3⟩, ⟨x4, .str "_splitchars" t4, v4⟩] : List DictEntry) n) = ([⟨x1, .str "_maxlen" t1, v1⟩, ⟨x2, .str "_continuation_ws" t2, v2⟩, ⟨x3, .str "_continuation_ws_len" t3, v3⟩, ⟨x4, .str "_splitchars" t4, v4⟩, ⟨x5, .str "_lines" t5, v5⟩], n + 1) := by rfl
theorem get_f5 {x1 x2 x3 x4 : Int} {t1 t2 t3 t4 : Tok} {v1 v2 v3 v4 : Value} : (getL (Str.ofString "_lines") ([⟨x1, .str "_maxlen" t1, v1⟩, ⟨x2, .str "_continuation_ws" t2, v2⟩, ⟨x3, .str "_continuation_ws_len" t3, v3⟩, ⟨x4, .str "_splitchars" t4, v4⟩] : List DictEntry)).isSome = true := by rfl
theorem put_f6 {x1 x2 x3 x4 x5 x6 : Int} {t1 t2 t3 t4 t5 t6 : Tok} {v1 v2 v3 v4 v5 v6 : Value} {n : Nat} : (putL (Str.ofString "_current_line") x6 (.str "_current_line" t6) v6 ([⟨x1, .str "_maxlen" t1, v1⟩, ⟨x2, .str "_continuation_ws" t2, v2⟩, ⟨x3, .str "_continuation_ws_len" t3, v3⟩, ⟨x4, .str "_splitchars" t4, v4⟩, ⟨x5, .str "_lines" t5, v5⟩] : List DictEntry), putN (Str.ofString "_current_line") ([⟨x1, .str "_maxlen" t1, v1⟩, ⟨x2, .str "_continuation_ws" t2, v2⟩, ⟨x3, .str "_continuation_ws_len" t3, v3⟩, ⟨x4, .str "_splitchars" t4, v4⟩, ⟨x5, .str "_lines" t5, v5⟩] : List DictEntry) n) = ([⟨x1, .str "_maxlen" t1, v1⟩, ⟨x2, .str "_continuation_ws" t2, v2⟩, ⟨x3, .str "_continuation_ws_len" t3, v3⟩, ⟨x4, .str "_splitchars" t4, v4⟩, ⟨x5, .str "_lines" t5, v5⟩, ⟨x6, .str "_current_line" t6, v6⟩], n + 1) := by rfl
theorem get_f6 {x1 x2 x3 x4 x5 : Int} {t1 t2 t3 t4 t5 : Tok} {v1 v2 v3 v4 v5 : Value} : (getL (Str.ofString "_current_line") ([⟨x1, .str "_maxlen" t1, v1⟩, ⟨x2, .str "_continuation_ws" t2, v2⟩, ⟨x3, .str "_continuation_ws_len" t3, v3⟩, ⟨x4, .str "_splitchars" t4, v4⟩, ⟨x5, .str "_lines" t5, v5⟩] : List DictEntry)).isSome = true := by rfl

theorem kp178 (w : World) : keepIn (KK w) (.ref 178) = true := by kernel_rfl
section
variable {w : World} {mg mb : Str → Option Value} {h hb : Heap} {fm dmk : Addr} {A : Around}
   {gg : Array GenState} {d : Drawn} {tk : Nat} {os : OsState} {R : Result → Shared → Prop}
theorem finit_spec {hl ml : Int} {tl tm tw ts : Tok} {ws sp : Str} (hA : A.depth + 2 < recursionLimit) (X : (KK w).In hb) (T : Tr mg mb hb) (hk : ∀ b o, hb.get? b = some o → h.get? b = some o)
   (hfm : h.get? fm = some (instObj 94 dmk) ∧ hb.get? fm = none) (hd : h.get? dmk = some emptyDict ∧ hb.get? dmk = none) (ne : fm ≠ dmk) (hw : ws.length ≤ 1000)
   (k : ∀ h' tk' (I : MkI) ln cu dcu hs t e, I.ml = ml → I.ws = ws → I.wl = ws.length → I.sp = sp → Post h h' [(dmk, mkD I ln cu)] [(cu, accO dcu #[] 0), (dcu, accD hs t (.int hl tl) e), (ln, lstO #[] 0)] → R (.ok (.ret .none)) ⟨h', gg, d, tk', os⟩) :
   codeAny (model Prg w) A (.call (.ref 35) ⟨[.ref fm, .int hl tl, .int ml tm, .str ws tw, .str sp ts], []⟩) R ⟨h, gg, d, tk, os⟩ := by
  refine enter2 (own := [(fm, instObj 94 dmk), (dmk, emptyDict)]) (binds := [Str.ofString "self", Str.ofString "headerlen", Str.ofString "maxlen", Str.ofString "continuation_ws", Str.ofString "splitchars"].zip [Value.ref fm, .int hl tl, .int ml tm, .str ws tw, .str sp ts]) X T hk (by simp only [List.forall_mem_cons]; exact ⟨hfm, hd, List.forall_mem_nil _⟩) (by simp [ne]) rfl (by kernel_rfl) (by omega) (BindsTo.of_eq (by kernel_rfl)) (by decide) (locs0 (by decide)) ?_
  clear X T hk
  intro g L h₁ tk' X T S back hL
  repeat (walk_at "A")
  refine' r_setAttr (es := []) (n := 0) (c94 _) ?fa S X (by k_mem) (by rfl) (by rfl) (by rfl) (.tail .head) get_f1 put_f1 ?ff ?_
  (case fa => walk_at "fnone")
  (case ff => simp)
  (clear S; intro h' S)
  repeat (walk_at "A")
  refine' r_setAttr (c94 _) ?fa S X (by k_mem) (by rfl) (by rfl) (by rfl) (.tail .head) get_f2 put_f2 ?ff ?_
  (case fa => walk_at "fnone")
  (case ff => simp)
  (clear S; intro h' S)
  walk_at "A"
  walk_at "A"
  walk_at "A"
  walk_at "A"
  walk_at "N"
  repeat (walk_at "A")
  dsimp only [List.cons_append, List.nil_append]
  refine len_str (by omega) ?_
  repeat (walk_at "A")
  refine' r_setAttr (c94 _) ?fa S X (by k_mem) (by rfl) (by rfl) (by rfl) (.tail .head) get_f3 put_f3 ?ff ?_
  (case fa => walk_at "fnone")
  (case ff => simp)
  (clear S; intro h' S)
  repeat (walk_at "A")
  refine' r_setAttr (c94 _) ?fa S X (by k_mem) (by rfl) (by rfl) (by rfl) (.tail .head) get_f4 put_f4 ?ff ?_
  (case fa => walk_at "fnone")
  (case ff => simp)
  (clear S; intro h' S)
  repeat (walk_at "A")
  refine' r_setAttr (c94 _) ?fa S X (by k_mem) (by rfl) (by rfl) (by rfl) (.tail (.tail .head)) get_f5 put_f5 ?ff ?_
  (case fa => walk_at "fnone")
  (case ff => simp)
  (clear S; intro h' S)
  walk_at "A"
  walk_at "A"
  walk_at "A"
  walk_at "A"
  walk_at "N"
  refine callWith_K X (kp178 w) ?_
  repeat (walk_at "A")
  refine ⟨S.K X, ?_⟩
  dsimp only [List.cons_append, List.nil_append]
  refine r_acc (by simp [Around.deeper]; omega) S X T ?_
  clear S
  intro h' tk₂ cu dcu hs t e S l1 l2
  repeat (walk_at "A")
  refine' r_setAttr (c94 _) ?fa S X (by k_mem) (by rfl) (by rfl) (by rfl) (.tail (.tail (.tail (.tail .head)))) get_f6 put_f6 ?ff ?_
  (case fa => walk_at "fnone")
  (case ff => simp)
  (clear S; intro h' S)
  repeat (walk_at "A")
  exact k _ _ ⟨_, _, _, _, _, _, _, _, _, _, _, _, ml, tm, ws, tw, _, _, sp, ts, _⟩ a' cu dcu hs t e rfl rfl rfl rfl (Post.of hL back S (List.forall_mem_cons.2 ⟨.tail _ (.tail _ (.tail _ (.tail _ (.head _)))), List.forall_mem_nil _⟩)
    (List.forall_mem_cons.2 ⟨⟨.head _, l1⟩, List.forall_mem_cons.2 ⟨⟨.tail _ (.head _), l2⟩, List.forall_mem_cons.2 ⟨⟨.tail _ (.tail _ (.head _)), l'⟩, List.forall_mem_nil _⟩⟩⟩) (by have := S.nd; simp at this ⊢; simp [this]) (by simp [hfm.1]))
end

-- Q15
section
variable {w : World} {mg mb : Str → Option Value} {g h : Heap} {L : Addr} {m : Str → Option Value} {news : List (Addr × Obj)} {A : Around} {E : Value → Shared → Prop}
   {gg : Array GenState} {d : Drawn} {tk : Nat} {os : OsState}
/-- _ValueFormatter(…) -/
theorem r_fmt {hl ml : Int} {tl tm tw ts : Tok} {ws sp : Str} {Q : Value → Shared → Prop} (hA : A.depth + 3 < recursionLimit) (hw : ws.length ≤ 1000) (S : St g L m h news) (X : (KK w).In g) (T : Tr mg mb g)
   (k : ∀ h' tk' fm dmk (I : MkI) ln cu dcu hs t e, I.ml = ml → I.ws = ws → I.wl = ws.length → I.sp = sp → St g L m h' ((cu, accO dcu #[] 0) :: (dcu, accD hs t (.int hl tl) e) :: (ln, lstO #[] 0) :: (fm, instObj 94 dmk) :: (dmk, mkD I ln cu) :: news) → L < fm → Q (.ref fm) ⟨h', gg, d, tk', os⟩) :
   wpAny (model Prg w) A (call (.ref 94) [.int hl tl, .int ml tm, .str ws tw, .str sp ts]) Q E ⟨h, gg, d, tk, os⟩ := by
  have S1 := S.push (o := emptyDict) rfl
  have S2 := S1.push (o := instObj 94 h.objs.size) rfl
  have es : (h.push emptyDict).objs.size = h.objs.size + 1 := Heap.size_push ..
  rw [es] at S2
  refine wpAny_call (make_core (makes_of (S.K X) (mk94 w)) (looks_findIn (S.K X) (f94_dinit w)) (fun self => bind_fn (S.K X) self (t35 w)) (.inl (by decide +kernel)) ?_)
  refine finit_spec (hb := g) (by rw [depth_under_make]; omega) X T S2.F.keep (S2.own (.head _)) (S2.own (.tail _ (.head _))) (by simp) hw ?_
  intro h' tk' I ln cu dcu hs t e i1 i2 i3 i4 P
  have S3 := S2.post P (.cons (.tail .head) .nil)
  exact ⟨rfl, k _ _ _ _ I _ _ _ _ _ _ i1 i2 i3 i4 S3 (Nat.lt_succ_of_lt S.lt)⟩
end

-- Q26
theorem kp94 (w : World) : keepIn (KK w) (.ref 94) = true := by kernel_rfl
theorem St.slots {g h h' : Heap} {L Lf : Addr} {oL : Obj} {m : Str → Option Value} {l : List (Addr × Obj)} (S : St g L m h (l ++ [(Lf, oL)])) (hk : ∀ b o, h.get? b = some o → b ≠ L → b ≠ Lf → h'.get? b = some o) (sl : h.UpToSlots h') (hd : ∀ vs, oL.data ≠ .fields vs) :
    ∃ q, St g L m h' (l ++ [(Lf, { oL with slots := q })]) := by
  have zL := S.N (Lf, oL) (List.mem_append_right _ (.head _))
  obtain ⟨q, hq⟩ := sl _ _ zL.1 hd
  have nd := S.nd
  rw [List.map_append, List.nodup_append] at nd
  refine ⟨q, ⟨sl.ns S.F.ns, fun b o e => hk b o (S.F.keep b o e) (fun z => ?_) (fun z => ?_), S.F.above⟩, fun p hp => ?_, ?_⟩
  · rw [z] at e
    exact Nat.lt_irrefl _ (Nat.lt_of_lt_of_le (Heap.lt_size e) S.F.above)
  · have := zL.2.2
    rw [← z, e] at this; cases this
  · rcases List.mem_append.mp hp with hp | hp
    · have y := S.N p (List.mem_append_left _ hp)
      exact ⟨hk _ _ y.1 y.2.1 (fun z => nd.2.2 _ (List.mem_map.mpr ⟨p, hp, rfl⟩) _ (.head _) z), y.2⟩
    · rw [List.mem_singleton.mp hp]
      exact ⟨hq, zL.2⟩
  · rw [List.map_append]
    exact List.nodup_append.mpr nd
theorem bint_ob (b : Array UInt8) : KBw.bInts b = (ob b).map (fun n : Nat => (n : Int)) := by
  unfold KBw.bInts ob
  rw [List.map_map]; rfl
theorem ob_of_ints {b : Array UInt8} {l : List Nat} (h : KBw.bInts b = l.map (fun n : Nat => (n : Int))) : ob b = l := by
  rw [bint_ob] at h
  exact (List.map_inj_right (fun _ _ e => Int.ofNat.inj e)).mp h
theorem St.maker {g h : Heap} {L fm dmk ln cu dcu Lf : Addr} {I : MkI} {hs : Int} {t e : Nat} {tl : Tok} {oL o1 o2 : Obj} {m : Str → Option Value} (t1 : TabOk o1) (t2 : TabOk o2)
    (S : St g L m h ((cu, accO dcu #[] 0) :: (dcu, accD hs t (.int 1 tl) e) :: (ln, lstO #[] 0) :: (fm, instObj 94 dmk) :: (dmk, mkD I ln cu) :: (Lf, oL) :: (140, o1) :: (147, o2) :: [])) :
    ∃ s : MS, St g L m h (s.own ++ [(Lf, oL)]) ∧ MOk h g s ∧ s.fm = fm ∧ s.I = I ∧ s.i = 1 ∧ s.l = [] ∧ s.ls = [] := by
  have p1 : List.Perm ([(cu, accO dcu #[] 0), (dcu, accD hs t (.int 1 tl) e)] ++ [(ln, lstO #[] 0)]) ([(ln, lstO #[] 0)] ++ [(cu, accO dcu #[] 0), (dcu, accD hs t (.int 1 tl) e)]) := List.perm_append_comm
  have p2 : List.Perm (([(cu, accO dcu #[] 0), (dcu, accD hs t (.int 1 tl) e)] ++ [(ln, lstO #[] 0)]) ++ [(fm, instObj 94 dmk), (dmk, mkD I ln cu)]) ([(fm, instObj 94 dmk), (dmk, mkD I ln cu)] ++ ([(ln, lstO #[] 0)] ++ [(cu, accO dcu #[] 0), (dcu, accD hs t (.int 1 tl) e)])) := List.perm_append_comm.trans (p1.append_left _)
  have p3 : List.Perm ([(Lf, oL)] ++ [((140 : Addr), o1), ((147 : Addr), o2)]) ([((140 : Addr), o1), ((147 : Addr), o2)] ++ [(Lf, oL)]) := List.perm_append_comm
  have S' : St g L m h (((⟨fm, dmk, ln, cu, dcu, I, [], 0, [], 0, hs, t, 1, tl, e, o1, o2⟩ : MS)).own ++ [(Lf, oL)]) := S.perm (p2.append p3)
  have nd := S'.nd
  rw [List.map_append, List.nodup_append] at nd
  exact ⟨_, S', ⟨fun q hq => S'.own (List.mem_append_left _ hq), nd.1, t1, t2, (fun q hq => nomatch hq), Nat.zero_le _, Nat.zero_le _⟩, rfl, rfl, rfl, rfl, rfl⟩
theorem r_fl {prog : Program} {w : World} {A : Around} {E : Value → Shared → Prop} {gg : Array GenState} {d : Drawn} {tk : Nat} {os : OsState} {h : Heap} {x b : Int} {t u : Tok} {Q : Value → Shared → Prop} (hb : b ≠ 0) (hp : Builtin.divisionGoesByPylong x b = false)
   (k : ∀ t tk, Q (.int (x.fdiv b) t) ⟨h, gg, d, tk, os⟩) : wpAny (model prog w) A (binaryOp .FloorDiv (.int x t) (.int b u)) Q E ⟨h, gg, d, tk, os⟩ :=
  floordiv_int hb (k _ _) (Or.inl hp)
theorem r_md {prog : Program} {w : World} {A : Around} {E : Value → Shared → Prop} {gg : Array GenState} {d : Drawn} {tk : Nat} {os : OsState} {h : Heap} {x : Int} {t u : Tok} {Q : Value → Shared → Prop}
   (k : ∀ t tk, Q (.int (x.fmod 50000) t) ⟨h, gg, d, tk, os⟩) : wpAny (model prog w) A (binaryOp .Mod (.int x t) (.int 50000 u)) Q E ⟨h, gg, d, tk, os⟩ := by
  refine mod_int' (by omega) ?_
  exact k _ _
theorem fm5 (x : Int) : ∃ c : Nat, (x.fdiv 4).fmod 50000 = (c : Int) ∧ c < 50000 := by
      rw [fdiv_eq _ (by omega), Int.fmod_eq_emod_of_nonneg _ (by omega)]
      exact ⟨(x / 4 % 50000).toNat, by omega, by omega⟩
theorem r_chr {prog : Program} {w : World} {A : Around} {E : Value → Shared → Prop} {gg : Array GenState} {d : Drawn} {tk : Nat} {os : OsState} {h : Heap} {c : Nat} (hc : c < 50000) {t : Tok} {Q : Value → Shared → Prop}
   (k : ∀ t tk, Q (.str ⟨#[128 + c]⟩ t) ⟨h, gg, d, tk, os⟩) : wpAny (model prog w) A (call (.builtin "chr") [.int (128 + (c : Int)) t]) Q E ⟨h, gg, d, tk, os⟩ := by
  have e : (128 + (c : Int)) = ((128 + c : Nat) : Int) := by omega
  rw [e]
  generalize h5 : 128 + c = n at *
  have hn : (decide ((n : Int) < 0) || decide ((n : Int) > 0x10FFFF)) = false := by
    rw [Bool.or_eq_false_iff]
    exact ⟨decide_eq_false (by omega), decide_eq_false (by omega)⟩
  refine P.chr_of_int hn ?_
  rw [Int.toNat_natCast]
  exact k _ _
theorem frs2 {env e₀ : Env} {L Lf : Addr} (h1 : env.frame = some L) (h2 : e₀.frame = some Lf) : frs [env, e₀] = [L, Lf] := by simp [frs, h1, h2]
theorem ff2 {env e₀ : Env} {L Lf : Addr} {h : Heap} {m : Str → Option Value} {oL : Obj} (hk1 : env.scope.kind ≠ .module) (h1 : env.frame = some L) (hn : h.Ns L m) (hek : e₀.scope.kind ≠ .module) (h2 : e₀.frame = some Lf) (hg : h.get? Lf = some oL) (hd : ∀ vs, oL.data ≠ .fields vs) :
    h.FunFrames (hideAll h (frs [env, e₀])) [env, e₀] := by
  rw [frs2 h1 h2]
  exact Heap.FunFrames.cons hk1 h1 hn (hideAll_none _ (.head _)) ⟨hek, ⟨Lf, oL, h2, hideAll_none _ (.tail _ (.head _)), hg, hd⟩, trivial⟩
theorem bad_of {x : Str} {n : Nat} (hn : 128 ≤ n) : ∃ i, (x ++ (⟨#[n]⟩ : Str)).cps.findIdx? PySem.Builtin._codecs.asciiCodec.bad = some i := by
  cases e : (x ++ (⟨#[n]⟩ : Str)).cps.findIdx? PySem.Builtin._codecs.asciiCodec.bad with
  | some i => exact ⟨i, rfl⟩
  | none =>
    rw [Array.findIdx?_eq_none_iff] at e
    have hm : n ∈ (x ++ (⟨#[n]⟩ : Str)).cps := by
      have : n ∈ cp (x ++ (⟨#[n]⟩ : Str)) := by rw [cp_app]; simp
      exact Array.mem_toList_iff.mp this
    have := e n hm
    simp [PySem.Builtin._codecs.asciiCodec] at this
    omega
theorem layT_mem {cs : List (List Nat)} {d : Nat} (h : d ∈ layT cs) : d = 47 ∨ ∃ c ∈ cs, d ∈ c := by
  cases cs with
  | nil => cases h
  | cons c r =>
    rcases List.mem_append.mp h with h | h
    · exact .inr ⟨c, .head _, h⟩
    · obtain ⟨l, hl, hd⟩ := List.mem_flatten.mp h
      obtain ⟨c', hc', rfl⟩ := List.mem_map.mp hl
      rcases List.mem_cons.mp hd with rfl | hd
      · exact .inl rfl
      · exact .inr ⟨c', .tail _ hc', hd⟩
/-- two ways that meet again -/
theorem r_meet {α : Type} {M : Model} {A : Around} {E : Value → Shared → Prop} {gg : Array GenState} {d : Drawn} {os : OsState} {g h : Heap} {L : Addr} {m : Str → Option Value} {news : List (Addr × Obj)} {e : Sem α} {Q : α → Shared → Prop} {s : Shared} (P : α → Prop) (S : St g L m h news)
    (h1 : wpAny M A e (fun v s' => ∃ h' tk', s' = ⟨h', gg, d, tk', os⟩ ∧ St g L m h' news ∧ P v) E s) (h2 : ∀ v h' tk', St g L m h' news → P v → Q v ⟨h', gg, d, tk', os⟩) : wpAny M A e Q E s :=
  wpAny_mono h1 (fun v s' ⟨h', tk', e, S', p⟩ => e ▸ h2 v h' tk' S' p) fun _ _ e => e
theorem r_meet2 {M : Model} {A : Around} {E : Value → Shared → Prop} {gg : Array GenState} {d : Drawn} {os : OsState} {g h : Heap} {L Lf : Addr} {oL : Obj} {m : Str → Option Value} {l : List (Addr × Obj)} {e : Sem Bool} {Q : Bool → Shared → Prop} {s : Shared} (v : Bool) (S : St g L m h (l ++ [(Lf, oL)]))
    (h1 : wpAny M A e (fun b s' => ∃ h' gg' tk' q, s' = ⟨h', gg', d, tk', os⟩ ∧ St g L m h' (l ++ [(Lf, { oL with slots := q })]) ∧ GK gg gg' ∧ b = v) E s) (h2 : ∀ h' gg' tk' q, St g L m h' (l ++ [(Lf, { oL with slots := q })]) → GK gg gg' → Q v ⟨h', gg', d, tk', os⟩) : wpAny M A e Q E s :=
  wpAny_mono h1 (fun b s' ⟨h', gg', tk', q, e, S', G, p⟩ => e ▸ p ▸ h2 h' gg' tk' q S' G) fun _ _ e => e
theorem split_gm {M : Model} {A : Around} {E : Value → Shared → Prop} {s : Shared} {x : Array UInt8} {t : Tok} {pl : Sem Bool} {Q : Value × List Value → Shared → Prop} (h : Q (.builtin "bytes.split", [.bytes x t]) s) : wpAny M A (getMethod (.bytes x t) "split" pl) Q E s := by
  exact getMethod_builtin (typeIs_bytes _ _ _) FB.plainAttrs_bytes slot_split type_split (fun _ e => nomatch e) h
theorem Lay.sum {sz f : Nat} {y : List Nat} {s : MS} (La : Lay sz s f y) : ((s.ls.map (·.1) ++ [catOf s.l]).map (·.length)).sum = y.length := by
  rw [La.txt, List.length_append, List.length_flatten, List.map_map, List.map_append, List.sum_append, List.map_map, cp_len]
  have : (List.length ∘ fun p : Str × Tok => cp p.1) = ((fun x : Str => x.length) ∘ fun p : Str × Tok => p.1) := by
    funext p; exact cp_len p.1
  rw [this]
  simp
theorem Lay.join {sz f : Nat} {y : List Nat} {s : MS} (La : Lay sz s f y) : cp (Txt.join em (s.ls.map (·.1) ++ [catOf s.l])) = y := by
  rw [cp_join cp_nil, La.txt, List.map_append, List.flatten_append, List.map_map]
  simp; rfl
section
variable {w : World} {mg mb : Str → Option Value} {h hb : Heap} {A : Around}
   {gg : Array GenState} {d : Drawn} {tk : Nat} {os : OsState} {R : Result → Shared → Prop}
theorem names_spec {rb : Array UInt8} {tr tx tz : Tok} {x : Int} {sz : Nat} {e₀ : Env} {Lf : Addr} {oL o1 o2 : Obj}
   (hA : A.depth + 8 < recursionLimit) (hU : A.units + 600 < cLine) (hh : A.handled = none) (hfr : A.frames = some [e₀]) (hek : e₀.scope.kind ≠ .module) (hef : e₀.frame = some Lf)
   (X : (KK w).In hb) (T : Tr mg mb hb) (hk : ∀ b o, hb.get? b = some o → h.get? b = some o)
   (hown : ∀ q ∈ [(Lf, oL), (140, o1), (147, o2)], h.get? q.1 = some q.2 ∧ hb.get? q.1 = none) (nd : ([(Lf, oL), (140, o1), (147, o2)].map (·.1)).Nodup) (hLd : ∀ vs, oL.data ≠ .fields vs)
   (t1 : TabOk o1) (t2 : TabOk o2) (hr : rb.size = 12) (ho : ∀ c ∈ ob rb, c < 128 ∧ c ≠ 47) (hs : sz = 2 ∨ sz = 3 ∨ sz = 4 ∨ sz = 6)
   (k : ∀ h' gg' tk' D o1' o2' q vs, TabOk o1' → TabOk o2' → Post h h' [(Lf, { oL with slots := q }), (140, o1'), (147, o2')] [(D, lstO vs.toArray 0)] → GK gg gg' → BytesAre vs (namesOf sz rb) → R (.ok (.ret (.ref D))) ⟨h', gg', d, tk', os⟩) :
   codeAny (model Prg w) A (.call (.ref 221) ⟨[.bytes rb tr, .int x tx, .int sz tz], []⟩) R ⟨h, gg, d, tk, os⟩ := by
  refine enter2 (own := _) (binds := [Str.ofString "row", Str.ofString "x", Str.ofString "size"].zip [.bytes rb tr, .int x tx, .int sz tz]) X T hk hown nd rfl (by kernel_rfl) (by omega) (BindsTo.of_eq (by kernel_rfl)) (by decide) (locs0 (by decide)) ?_
  clear X T hk
  intro g L h₁ tk' X T S back hL
  walk_at "A"
  walk_at "A"
  walk_at "A"
  walk_at "A"
  walk_at "N"
  refine callWith_K X (kp94 w) ?_
  walk_at "A"
  walk_at "A"
  walk_at "A"
  repeat (walk_at "A")
  refine add_int ?_
  repeat (walk_at "A")
  walk_at "N"
  walk_at "cw"
  repeat (walk_at "A")
  refine ⟨S.K X, ?_⟩
  (try dsimp only [List.cons_append, List.nil_append])
  refine wpAny_call (sepS_spec (hb := g) (by simp [Around.deeper]; omega) X T S.F.keep ?_)
  intro h₂ tk₂ u₂ P
  walk_at "post"
  repeat (walk_at "A")
  refine ⟨S.K X, ?_⟩
  (try dsimp only [List.cons_append, List.nil_append])
  refine r_fmt (by simp [Around.deeper]; omega) (by show (1 : Nat) ≤ 1000; omega) S X T ?_
  clear S
  intro h₃ tk₃ fm dmk I ln cu dcu hs0 t0 e0 i1 i2 i3 i4 S lfm
  obtain ⟨s, S', M, e1, e2, e3, e4, e5⟩ := St.maker t1 t2 S
  clear S
  have S := S'
  clear S'
  have La : Lay sz s 1 [] := ⟨by rw [e2, i1], by rw [e2, i3]; rfl, by rw [e3, e4]; rfl, .inl e3, (by rw [e4]; exact fun q hq => nomatch hq), (by rw [e4, e5]; rfl)⟩
  have cnt : s.ls.length + s.l.length = 0 := by rw [e4, e5]; rfl
  subst e1
  clear e2 e3 e4 e5 lfm i1 i2 i3 i4
  repeat (walk_at "A")
  refine r_fl (by decide) (PyProof.noPylong_of_log2 (by decide +kernel)) fun _ _ => ?_
  repeat (walk_at "A")
  refine mod_int' (by decide) ?_
  obtain ⟨p, hp, hp12⟩ : ∃ p : Nat, (x.fdiv 4).fmod 13 = (p : Int) ∧ p ≤ 12 := by
    rw [fdiv_eq _ (by decide), Int.fmod_eq_emod_of_nonneg _ (by decide)]
    exact ⟨(x / 4 % 13).toNat, by omega, by omega⟩
  rw [hp]
  have M' := M.at S
  clear M
  have M := M'
  clear M'
  repeat (walk_at "A")
  refine GM.join ?_
  walk_at "A"
  walk_at "A"
  refine' r_comp (g := g) (L := L) (cl := []) (fun u y => ∃ c t t', u = .int c t ∧ y = .str ⟨#[c.toNat]⟩ t') (closureFor_none (by decide)) (by decide) rfl (by decide) rfl ?_
  repeat (walk_at "A")
  have hby : rb.toList.map UInt8.toNat = cp (⟨(ob rb).toArray⟩ : Str) := by simp [ob]
  generalize hx0 : (⟨(ob rb).toArray⟩ : Str) = x₀ at hby
  have hcx : cp x₀ = ob rb := by rw [← hx0]
  refine KBw.pyIter_bytes ?_
  refine ⟨_, _, _, _, _, _, _, _, _, _, _, rfl, rfl, S.push rfl, KBw.walks (A := A.deeper _) hh _ rb tr, ?_, ?_, ?_, ?_, ?_⟩
  · rw [sizeLine_eq]; omega
  · exact ⟨_, Heap.get?_push_size _ rfl, rfl, rfl⟩
  · simp [Heap.size_push]
  · intro C' i v' s₃ m₃ E' hC' hP hns hmx hg hn
    obtain ⟨c, u', hc, rfl⟩ := hP
    obtain ⟨th, tg, td, tt, to⟩ := s₃
    repeat (walk_at "A")
    have X3 := X.keeps hg
    have T3 := T.keeps hg
    refine ldB X3 T3 rfl rfl rfl rfl (nb_chr w) bb_chr (by decide) ?_
    repeat (walk_at "A")
    refine wpAny_loadName_local rfl rfl hns hmx ?_
    repeat (walk_at "A")
    (try dsimp only [List.cons_append, List.nil_append])
    have hcl := c.toNat_lt
    refine P.chr_of_int (by simp; omega) ?_
    exact ⟨⟨_, _, _, rfl, rfl⟩, _, _, rfl, fun _ _ e => e⟩
  clear S
  intro D₀ h₄ tk₄ ys nn S hys hF
  (try dsimp only [List.cons_append, List.nil_append])
  repeat (walk_at "A")
  refine join_list (ys := (List.range' 0 rb.size).map fun j : Nat => (⟨#[((rb[j]?).getD (0 : UInt8)).toNat]⟩ : Str)) ⟨_, S.get (.head _), rfl, _, rfl⟩ ?_ ?_ ?_
  · rw [← hys, ← Array.length_toList]
    refine strsAt _ 0 fun j y e => ?_
    obtain ⟨v, ⟨c, u', hc, rfl⟩, c', t, t', e1, rfl⟩ := hF j y (by simpa using e)
    injection e1 with e1 _
    exact ⟨t', by rw [← e1, Nat.zero_add, show rb[j]? = some c from hc]; rfl⟩
  · have e1 : (((List.range' 0 rb.size).map fun j : Nat => (⟨#[((rb[j]?).getD (0 : UInt8)).toNat]⟩ : Str)).map (·.length)).sum = rb.size := by
      rw [List.map_map]
      have : ((fun x : Str => x.length) ∘ fun j : Nat => (⟨#[((rb[j]?).getD (0 : UInt8)).toNat]⟩ : Str)) = fun _ => 1 := rfl
      rw [this, sumOnes, List.length_range']
    rw [e1, List.length_map, List.length_range', show (Str.ofString "").length = 0 from rfl]
    omega
  intro t₁ tk₁
  rw [joinOcts hby]
  have S' := S.drop
  clear S
  have S := S'
  clear S' hF hys hby
  walk_at "A"
  have M' := M.at S
  clear M
  have M := M'
  clear M'
  have hasc : ∀ c ∈ cp x₀, c < 128 := fun c hc => (ho c (hcx ▸ hc)).1
  have hx12 : x₀.length = 12 := by rw [← cp_len, hcx, ob_len, hr]
  walk_at "A"
  walk_at "A"
  walk_at "A"
  walk_at "A"
  walk_at "N"
  walk_at "cw"
  walk_at "A"
  walk_at "A"
  walk_at "A"
  walk_at "A"
  obtain ⟨x₁, hx₁⟩ : ∃ x₁, x₁ = Txt.slice x₀ none (some (p : Int)) := ⟨_, rfl⟩
  have hc₁ : cp x₁ = (ob rb).take p := by rw [hx₁, slice_to, hcx]
  refine r_meet (gg := gg) (d := d) (os := os) (fun v => Octs x₁ v) S ?_ (fun v h₅ tk₅ S' hv => ?_)
  · walk_at "A"
    refine wpAny_isTrue_Compare1 ?_
    walk_at "A"
    walk_at "A"
    walk_at "A"
    walk_at "A"
    walk_at "A"
    refine r_fl (by decide) (PyProof.noPylong_of_log2 (by decide +kernel)) fun _ _ => ?_
    walk_at "A"
    refine mod_int' (by decide) ?_
    walk_at "A"
    refine eq_int (wpAny_truthy_bool ?_)
    generalize ((x.fdiv 52).fmod 2 == 0) = c
    cases c
    · rw [if_neg (by decide)]
      refine Subscript_ ?_
      walk_at "A"
      walk_at "A"
      refine wpAny_Slice (evalPart_none_step (evalPart_some_step ?_))
      walk_at "A"
      walk_at "A"
      refine evalPart_none_step ?_
      refine KBc.slice_K S.F S.N (bint_ob rb) .none (.int _ _) (by rw [List.length_map, ob_len]; omega) ?_
      intro h' t' k' F' N' e
      refine ⟨_, _, rfl, ⟨F', N', S.nd⟩, .bytes _ _ ?_⟩
      rw [hc₁]
      refine (ob_of_ints (l := (ob rb).take p) (e.trans ?_)).symm
      simp [clipAt_nat, ob_len, hr, List.map_take]
    · rw [if_pos rfl]
      refine Subscript_ ?_
      walk_at "A"
      walk_at "A"
      refine wpAny_Slice (evalPart_none_step (evalPart_some_step ?_))
      walk_at "A"
      walk_at "A"
      refine evalPart_none_step ?_
      refine slice_strN_ns (hsz := by rw [sizeLine_eq]; omega) (s := ⟨_, _, _, _, _⟩) S.F S.N ?_
      intro h' t' k' F' N'
      refine ⟨_, _, rfl, ⟨F', N', S.nd⟩, ?_⟩
      rw [← hx₁]
      exact .text _ fun c hc => (ho c (List.mem_of_mem_take (hc₁ ▸ hc))).1
  clear S
  have S := S'
  clear S'
  have M' := M.at S
  clear M
  have M := M'
  clear M'
  walk_at "A"
  refine ⟨S.K X, ?_⟩
  (try dsimp only [List.cons_append, List.nil_append])
  obtain ⟨q1, q2, q3⟩ := round_pure (l := ob rb) (by rw [ob_len, hr]) hs hp12
  have hsz9 : sz ≤ 900 := by omega
  have hx₁l : x₁.length ≤ 12 := by rw [← cp_len, hc₁, List.length_take, ob_len]; omega
  have ha₁ : ∀ c ∈ cp x₁, c < 128 := fun c hc => (ho c (List.mem_of_mem_take (hc₁ ▸ hc))).1
  refine wpAny_call (lay_spec (hb := g) (sz := sz) (f := 1) (y := []) (by simp [Around.deeper]; omega) (by simp [Around.deeper]; omega) hh X T S.F.keep M La (by omega) hsz9 hv ha₁ (by omega) (by omega) ?_)
  intro h₆ gg₆ tk₆ s₁ P1 La1 cnt1 G1
  rw [Nat.add_sub_cancel, hc₁, List.nil_append] at La1
  generalize fillL 1 (cutL sz sz ((ob rb).take p)) = f₁ at La1 q1 q2 q3
  generalize layT (cutL sz sz ((ob rb).take p)) = y₁ at La1 q3
  have e1 := P1.fm
  have S1 := MStep.st S P1
  have M1 := P1.ok
  have P1ok := P1.ok
  clear S M P1 La
  rw [← e1] at S1
  (try rw [← e1])
  have S := S1
  clear S1
  walk_at "A"
  walk_at "A"
  refine r_meet2 (gg := gg₆) (d := d) (os := os) (l := s₁.own) (Lf := Lf) (oL := oL) false S ?_ (fun h₇ gg₇ tk₇ q S' G2 => ?_)
  · refine isTrue_and ?_
    refine wpAny_isTrue_Compare1 ?_
    walk_at "A"
    walk_at "A"
    walk_at "A"
    walk_at "A"
    walk_at "A"
    refine r_fl (by decide) (PyProof.noPylong_of_log2 (by decide +kernel)) fun _ _ => ?_
    walk_at "A"
    refine mod_int' (by decide) ?_
    walk_at "A"
    refine eq_int (wpAny_truthy_bool ?_)
    generalize ((x.fdiv 208).fmod 2 == 0) = c
    cases c
    · rw [if_neg (by decide)]
      exact ⟨_, _, _, oL.slots, rfl, S, GK.refl _, rfl⟩
    rw [if_pos rfl]
    refine isTrue_and ?_
    refine isTrue_not ?_
    refine isTrue_plain ?_
    walk_at "A"
    walk_at "A"
    walk_at "N"
    walk_at "cw"
    walk_at "A"
    walk_at "A"
    walk_at "A"
    walk_at "A"
    walk_at "A"
    refine Subscript_ ?_
    walk_at "A"
    walk_at "A"
    refine wpAny_Slice (evalPart_some_step ?_)
    walk_at "A"
    walk_at "A"
    refine evalPart_none_step (evalPart_none_step ?_)
    refine slice_strN_sn (hsz := by rw [sizeLine_eq]; omega) (s := ⟨_, _, _, _, _⟩) S.F S.N ?_
    intro h₈ t₈ k₈ F8 N8
    have S8 : St g L _ h₈ _ := ⟨F8, N8, S.nd⟩
    clear F8 N8
    have M8 := M1.at S8
    clear S M1
    have S := S8
    walk_at "A"
    walk_at "A"
    walk_at "N"
    repeat (walk_at "A")
    refine r_fl (by decide) (PyProof.noPylong_of_log2 (by decide +kernel)) fun t₀ k₀ => ?_
    walk_at "A"
    refine r_md fun t₁ k₁ => ?_
    refine add_int ?_
    obtain ⟨c, hc, hc5⟩ := fm5 x
    rw [hc]
    repeat (walk_at "A")
    refine r_chr hc5 fun t₂ k₂ => ?_
    refine PyProof.Rows.add_str ?_ (hsz := ?_)
    · intro t₉ k₉
      walk_at "A"
      refine ⟨S.K X, ?_⟩
      obtain ⟨ib, hib⟩ := bad_of (x := Txt.slice x₀ (some (p : Int)) none) (n := 128 + c) (by omega)
      have zf := (S.N (Lf, oL) (List.mem_append_right _ (.head _))).2.2
      have zl : g.get? L = none := Heap.get?_none_of_le S.F.above
      refine wpAny_call (refused_spec (hb := g) (s := s₁) (by simp [Around.deeper]; omega) (by simp [Around.deeper]; omega) hh (Around.frames_deeper hfr) (ff2 (by intro q; cases q) rfl S.F.ns hek hef (S.get (List.mem_append_right _ (.head _))) hLd) X T S.F.keep (by rw [frs2 rfl hef]; simp [zf, zl]) M8 hib ?_ ?_)
      · rw [← cp_len, cp_app, List.length_append, cp_len]
        have := Txt.slice_le x₀ (some (p : Int)) none
        simp; omega
      intro h₉ gg₉ tk₉ G9 kp9 sl9
      obtain ⟨q, S9⟩ := St.slots (l := s₁.own) (oL := oL) S (fun b o e n1 n2 => kp9 b o e (by rw [frs2 rfl hef]; simp [n1, n2])) sl9 hLd
      refine wpAny_truthy_bool ?_
      rw [if_neg (by decide)]
      exact ⟨_, _, _, q, rfl, S9, G9, rfl⟩
    · have := Txt.slice_le x₀ (some (p : Int)) none
      rw [sizeLine_eq]
      show _ + 1 ≤ _
      omega
  clear S M1
  have M1 := P1ok.at S'
  have S := S'
  clear S'
  rw [if_neg (by decide)]
  walk_at "A"
  dsimp only
  have hc₂ : cp (Txt.slice x₀ (some (p : Int)) none) = (ob rb).drop p := by rw [slice_from, hcx]
  obtain ⟨x₂, hx₂⟩ : ∃ x₂, x₂ = Txt.slice x₀ (some (p : Int)) none := ⟨_, rfl⟩
  rw [← hx₂] at hc₂
  walk_at "A"
  walk_at "A"
  walk_at "A"
  walk_at "A"
  walk_at "N"
  walk_at "cw"
  walk_at "A"
  walk_at "A"
  walk_at "A"
  walk_at "A"
  refine r_meet (gg := gg₇) (d := d) (os := os) (fun v => Octs x₂ v) S ?_ (fun v h₈ tk₈ S' hv2 => ?_)
  · walk_at "A"
    refine wpAny_isTrue_Compare1 ?_
    walk_at "A"
    walk_at "A"
    walk_at "A"
    walk_at "A"
    walk_at "A"
    refine r_fl (by decide) (PyProof.noPylong_of_log2 (by decide +kernel)) fun _ _ => ?_
    walk_at "A"
    refine mod_int' (by decide) ?_
    walk_at "A"
    refine eq_int (wpAny_truthy_bool ?_)
    generalize ((x.fdiv 104).fmod 2 == 0) = c
    cases c
    · rw [if_neg (by decide)]
      refine Subscript_ ?_
      walk_at "A"
      walk_at "A"
      refine wpAny_Slice (evalPart_some_step ?_)
      walk_at "A"
      walk_at "A"
      refine evalPart_none_step (evalPart_none_step ?_)
      refine KBc.slice_K S.F S.N (bint_ob rb) (.int _ _) .none (by rw [List.length_map, ob_len]; omega) ?_
      intro h' t' k' F' N' e
      refine ⟨_, _, rfl, ⟨F', N', S.nd⟩, .bytes _ _ ?_⟩
      rw [hc₂]
      refine (ob_of_ints (l := (ob rb).drop p) (e.trans ?_)).symm
      simp only [Option.elim_some, Option.elim_none, clipAt_nat, List.length_map, ob_len, hr, ← List.map_drop]
      rw [List.take_of_length_le]
      · congr 2; omega
      · rw [List.length_map, List.length_drop, ob_len]; omega
    · rw [if_pos rfl]
      refine Subscript_ ?_
      walk_at "A"
      walk_at "A"
      refine wpAny_Slice (evalPart_some_step ?_)
      walk_at "A"
      walk_at "A"
      refine evalPart_none_step (evalPart_none_step ?_)
      refine slice_strN_sn (hsz := by rw [sizeLine_eq]; omega) (s := ⟨_, _, _, _, _⟩) S.F S.N ?_
      intro h' t' k' F' N'
      refine ⟨_, _, rfl, ⟨F', N', S.nd⟩, ?_⟩
      rw [← hx₂]
      exact .text _ fun c hc => (ho c (List.mem_of_mem_drop (hc₂ ▸ hc))).1
  clear S
  have S := S'
  clear S'
  have M := M1.at S
  clear M1
  walk_at "A"
  refine ⟨S.K X, ?_⟩
  have hx₂l : x₂.length ≤ 12 := by rw [← cp_len, hc₂, List.length_drop, ob_len]; omega
  have ha₂ : ∀ c ∈ cp x₂, c < 128 := fun c hc => (ho c (List.mem_of_mem_drop (hc₂ ▸ hc))).1
  refine wpAny_call (lay_spec (hb := g) (s := s₁) (sz := sz) (f := f₁) (y := y₁) (by simp [Around.deeper]; omega) (by simp [Around.deeper]; omega) hh X T S.F.keep M La1 q1 hsz9 hv2 ha₂ (by omega) (by omega) ?_)
  intro h₉ gg₉ tk₉ s₂ P2 La2 cnt2 G3
  rw [hc₂, q3] at La2
  have e2 := P2.fm
  have S2 := MStep.st S P2
  have M2 := P2.ok
  clear S M P2 La1
  rw [← e2] at S2
  (try rw [← e2])
  have S := S2
  clear S2
  clear hsz9 hx₁l ha₁ hx₂l ha₂ hv hv2 hc₁ hc₂ hx₁ hx₂
  have hl2 : s₂.l ≠ [] := fun q => by
    have h1 := La2.fill
    have h2 := La2.i01
    rw [q] at h1
    have h3 : sizeAll [] = 0 := rfl
    rw [h3] at h1
    omega
  obtain ⟨l₀, qq, el⟩ := snoc_of s₂.l hl2
  have hq := La2.last (q := qq) (by rw [el]; simp)
  dsimp only
  walk_at "A"
  walk_at "A"
  walk_at "A"
  walk_at "A"
  walk_at "N"
  walk_at "cw"
  walk_at "A"
  walk_at "A"
  walk_at "A"
  walk_at "A"
  dsimp only [MS.own, MS.seven, List.cons_append, List.nil_append] at S
  walk_at "A"
  walk_at "cw"
  walk_at "A"
  walk_at "A"
  walk_at "A"
  refine ⟨S.K X, ?_⟩
  have hsum := La2.sum
  have hjoin := La2.join
  have hy128 : ∀ c ∈ layT (chunks sz 20 (ob rb)), c < 128 := fun c hc => by
    rcases layT_mem hc with rfl | ⟨l, hl, hcl⟩
    · omega
    · exact (ho c (((chunks_of sz 20 (ob rb)).2 l hl).2 c hcl)).1
  have hoct := octs_cp (x := Txt.join em (s₂.ls.map (·.1) ++ [catOf s₂.l])) (by rw [hjoin]; exact hy128)
  obtain ⟨sp1, sp2, sp3⟩ := split_pure (b := octs (Txt.join em (s₂.ls.map (·.1) ++ [catOf s₂.l]))) hr (fun c hc => (ho c hc).2) hs (hoct.trans hjoin)
  have hzl : (Txt.join em (s₂.ls.map (·.1) ++ [catOf s₂.l])).length ≤ 20 := by
    rw [← cp_len, ← hoct, List.length_map, Array.length_toList]; exact sp3
  have hyl : (layT (chunks sz 20 (ob rb))).length ≤ 20 := by rw [← hjoin, cp_len]; exact hzl
  have hz128 : ∀ c ∈ (Txt.join em (s₂.ls.map (·.1) ++ [catOf s₂.l])).cps.toList, c < 128 := fun c hc => hy128 c (by rw [← hjoin]; exact hc)
  refine wpAny_call (mstr_spec (hb := g) (s := s₂) (sep := em) (by simp [Around.deeper]; omega) (by simp [Around.deeper]; omega) hh X T S.F.keep M2 el hq.1 hq.2 La2.line ?_ ?_)
  · rw [hsum, show em.length = 0 from rfl]
    omega
  intro h₁₀ gg₁₀ tk₁₀ nl' nc' ti' u₀ e' o1' o2' u₁ ok1 ok2 P4 G4
  generalize Txt.join em (s₂.ls.map (·.1) ++ [catOf s₂.l]) = z at hjoin hoct sp1 sp2 sp3 hzl hz128
  dsimp only [MS.seven] at P4
  have S' := St.post S P4 (.cons .head (.cons (.tail .head) (.cons (.tail (.tail .head)) (.cons (.tail (.tail (.tail .head))) (.cons (.tail (.tail (.tail (.tail .head)))) (.cons (.tail (.tail (.tail (.tail (.tail .head))))) (.cons (.tail (.tail (.tail (.tail (.tail (.tail .head)))))) .nil)))))))
  clear S P4
  have S := S'
  clear S'
  dsimp only [List.nil_append, List.cons_append] at S
  walk_at "A"
  refine ⟨S.K X, ?_⟩
  refine wpAny_call (bfdS_spec (hb := g) (by simp [Around.deeper]; omega) X T S.F.keep hz128 (by omega) ?_)
  intro h₁₁ tk₁₁ u₂' P
  walk_at "post"
  repeat (walk_at "A")
  refine split_gm ?_
  repeat (walk_at "A")
  walk_at "N"
  walk_at "cw"
  repeat (walk_at "A")
  refine ⟨S.K X, ?_⟩
  refine wpAny_call (sepB_spec (hb := g) (by simp [Around.deeper]; omega) X T S.F.keep ?_)
  intro h₁₂ tk₁₂ u₃ P
  walk_at "post"
  repeat (walk_at "A")
  refine call_split S (by omega) sp1 sp2 ?_ ?_
  · refine ⟨?_, fun b hb => ?_⟩
    · unfold namesOf
      rw [List.length_map, List.length_range]
      have : 12 / sz ≤ 12 := Nat.div_le_self _ _
      omega
    · obtain ⟨j, _, rfl⟩ := List.mem_map.mp hb
      rw [Array.size_extract]
      omega
  clear S
  intro D h₁₃ tk₁₃ vs S lD hvs
  refine k _ _ _ D o1' o2' q vs ok1 ok2 (Post.of hL back S ?_ ?_ (by simp) ?_) ((G1.trans G2).trans (G3.trans G4)) hvs
  · simp only [List.forall_mem_cons]
    refine ⟨?_, ?_, ?_, List.forall_mem_nil _⟩
    · simp only [List.mem_cons, List.mem_append]
      simp
    · k_mem
    · k_mem
  · exact List.forall_mem_cons.2 ⟨⟨.head _, lD⟩, List.forall_mem_nil _⟩
  · intro p hp
    left
    simp only [List.mem_cons, List.not_mem_nil, or_false] at hp
    rcases hp with rfl | rfl | rfl <;> simp
end

-- Q27
theorem push_get {α : Type} {ys : Array α} {k : Nat} {y z : α} (h : ys[k]? = some y) : (ys.push z)[k]? = some y := by
  obtain ⟨hk, e⟩ := Array.getElem?_eq_some_iff.mp h
  rw [Array.getElem?_push_lt hk, e]
open PySem.Builtin in
section
variable {prog : Program} {w : World} {A : Around} {E : Value → Shared → Prop} {g h : Heap} {L : Addr} {m : Str → Option Value} {news : List (Addr × Obj)}
abbrev litO (x : Addr) (i : Nat) : Obj := ⟨.type "list_iterator", none, .fields #[.ref x, .int i 0], #[]⟩
/-- append to a list of the ledger -/
theorem r_app {gg : Array GenState} {d : Drawn} {tk : Nat} {os : OsState} {D : Addr} {ys : Array Value} {nn : Nat} {v : Value} {news' : List (Addr × Obj)} {Q : Value → Shared → Prop} (S : St g L m h news) (U : Up D (lstO ys nn) (lstO (ys.push v) (nn + 1)) news news') (hz : ys.size ≤ sizeLine)
    (k : ∀ h', St g L m h' news' → Q .none ⟨h', gg, d, tk, os⟩) : wpAny (model prog w) A (call (.builtin "list.append") [.ref D, v]) Q E ⟨h, gg, d, tk, os⟩ :=
  r_append S (isInstT (S.get U.mem) rfl) U hz k
theorem r_lnext {gg : Array GenState} {d : Drawn} {tk : Nat} {os : OsState} {It l : Addr} {i : Nat} {o : Obj} {items : Array Value} {x : Value} {Q : Option Value → Shared → Prop} (S : St g L m h ((It, o) :: news)) (hc : o.cls = .type "list_iterator") (hd : o.data = .fields #[.ref l, .int i 0]) (hl : SeqIs h l items) (hx : items[i]? = some x)
    (k : ∀ h' o', o'.cls = .type "list_iterator" → o'.data = .fields #[.ref l, .int (i + 1 : Nat) 0] → St g L m h' ((It, o') :: news) → (∀ b o, b ≠ It → h.get? b = some o → h'.get? b = some o) → Q (some x) ⟨h', gg, d, tk, os⟩) : wpAny (model prog w) A (pyNext (.ref It)) Q E ⟨h, gg, d, tk, os⟩ := by
  refine nx_item ⟨_, S.get (.head _), hc, hd⟩ hl hx fun h' hi hs => ?_
  obtain ⟨o', eo, hc', hd'⟩ := hi
  exact k h' o' hc' hd' (S.ext .head hs.extBut eo) fun b o n e => hs.extBut b o n e
theorem r_lend {gg : Array GenState} {d : Drawn} {tk : Nat} {os : OsState} {It l : Addr} {i : Nat} {o : Obj} {items : Array Value} {Q : Option Value → Shared → Prop} (hh : A.handled = none) (S : St g L m h ((It, o) :: news)) (hc : o.cls = .type "list_iterator") (hd : o.data = .fields #[.ref l, .int i 0]) (hl : SeqIs h l items) (hx : items[i]? = none)
    (k : ∀ h', St g L m h' news → (∀ b o, b ≠ It → h.get? b = some o → h'.get? b = some o) → Q none ⟨h', gg, d, tk, os⟩) : wpAny (model prog w) A (pyNext (.ref It)) Q E ⟨h, gg, d, tk, os⟩ :=
  nx_end hh ⟨_, S.get (.head _), hc, hd⟩ hl hx fun h' he => k h' (S.moved (C := h.objs.size) (Heap.get?_none_of_le (Nat.le_refl _)) fun b ob nI _ e => he b ob nI e) fun b o n e => he b o n e
/-- [elt for x0 in range(n) for x1 in a list] -/
theorem r_comp2 {elt i0 i1 : Expr} {x0 x1 : Str} {p0 p1 : Pos} {scope : Scope} {cl : List (Str × Addr)} {pos : Pos} {env : Env} {Q : Value → Shared → Prop} {s : Shared} {n : Nat} {vs : Array Value} {Nn : Addr} (F : Nat → Nat → Value → Prop)
    (hclos : closureFor scope env = pure cl) (hcell : ∀ y ∈ scope.names, y.2 ≠ .cell) (hkind : scope.kind = .function)
    (hnames : ∀ y ∈ scope.names, y.2 = .local → scope.names.lookup y.1 = some .local) (hx0 : scope.names.lookup x0 = some .local) (hx1 : scope.names.lookup x1 = some .local) (hne : x0 ≠ x1) (hh : A.handled = none) (hsz : n * vs.size ≤ 1000)
    (h : wpAny (model prog w) A (eval i0 env) (fun xv s₁ => wpAny (model prog w) A (pyIter xv) (fun it s₂ => ∃ I h₂ gg₂ d₂ tk₂ os₂ nv, it = .ref I ∧ s₂ = ⟨h₂, gg₂, d₂, tk₂, os₂⟩ ∧ St g L m h₂ ((I, ritO 0 n 1) :: news) ∧ (Nn, lstO vs nv) ∈ news ∧
      (∀ C s₃ m₃ E' (Q' : Value → Shared → Prop), h₂.objs.size ≤ C → s₃.heap.Ns C m₃ → (∀ b o, g.get? b = some o → s₃.heap.get? b = some o) → (∀ q ∈ news, s₃.heap.get? q.1 = some q.2) → Q' (.ref Nn) s₃ → wpAny (model prog w) A (eval i1 (compEnvC scope cl C env)) Q' E' s₃) ∧
      (∀ C i j v t s₃ m₃ E', h₂.objs.size ≤ C → i < n → vs[j]? = some v → s₃.heap.Ns C m₃ → m₃ x0 = some (.int (i : Nat) t) → m₃ x1 = some v → (∀ b o, g.get? b = some o → s₃.heap.get? b = some o) → (∀ q ∈ news, s₃.heap.get? q.1 = some q.2) →
        wpAny (model prog w) A (eval elt (compEnvC scope cl C env)) (fun y s₄ => F i j y ∧ Keeps s₃ s₄) E' s₃) ∧
      (∀ D h' tk ys nn, St g L m h' ((D, lstO ys nn) :: news) → ys.size = n * vs.size → (∀ i j, i < n → j < vs.size → ∃ y, ys[i * vs.size + j]? = some y ∧ F i j y) → Q (.ref D) ⟨h', gg₂, d₂, tk, os₂⟩)) E s₁) E s)
    (hs0 : ∀ x, foldedSetIterable i0 env x = pure x := by intro _; rfl) (hs1 : ∀ e x, foldedSetIterable i1 e x = pure x := by intro _ _; rfl) :
    wpAny (model prog w) A (eval (.ListComp elt [⟨.Name x0 p0, i0, [], 0⟩, ⟨.Name x1 p1, i1, [], 0⟩] scope pos) env) Q E s := by
  rw [eval_ListComp]
  refine wpAny_comprehension_free (use := none) rfl hs0 hclos hkind hnames (wpAny_mono h (fun xv s₁ h₁ => wpAny_mono h₁ (fun it s₂ h₂ => ?_) fun _ _ e => e) fun _ _ e => e)
  obtain ⟨I, h₂, gg₂, d₂, tk₂, os₂, nv, rfl, rfl, S, hNn, hi1, helt, hQ⟩ := h₂
  have zI := S.N _ (.head _)
  have offI : ∀ q ∈ news, q.1 ≠ I := fun q hq e => (List.nodup_cons.mp S.nd).1 (List.mem_map.mpr ⟨q, hq, e⟩)
  refine wpAny_newObj_type (wpAny_newFunctionEnv hcell (by intro y hy; simp at hy) (fun h₃ hns₃ hsb₃ => ?_) hkind)
  dsimp only at hns₃ hsb₃ ⊢
  generalize hD : h₂.objs.size = D at *
  generalize hH2 : h₂.push { cls := .type "list", dict := none, data := .seq ([] : List Value).toArray } = H2 at *
  have hC : H2.objs.size = D + 1 := by rw [← hH2, Heap.size_push, hD]
  generalize hCC : H2.objs.size = C at *
  have kp : ∀ b o, h₂.get? b = some o → h₃.get? b = some o := fun b o e => by
    have lt : @LT.lt Nat _ b D := hD ▸ Heap.lt_size e
    exact hsb₃.extBut b o (by show @Ne Nat b C; omega) (Heap.get?_push_of_some _ (hH2 ▸ Heap.get?_push_of_some _ e))
  have gN : ∀ a, D ≤ a → (hideAll h₂ [I]).get? a = none := fun a ha => Heap.get?_none_of_le (by rw [hideAll_size, hD]; exact ha)
  have gD : h₃.get? D = some (lstO #[] 0) := hsb₃.extBut D _ (by show @Ne Nat D C; omega) (Heap.get?_push_of_some _ (hH2 ▸ hD ▸ Heap.get?_push_size _ rfl))
  have lI : @LT.lt Nat _ I D := hD ▸ Heap.lt_size zI.1
  obtain ⟨m₃, hns₃⟩ : ∃ m, h₃.Ns C m := ⟨_, hns₃⟩
  generalize hB : hideAll h₂ [I] = B at *
  have hBz : B.objs.size = D := by rw [← hB, hideAll_size, hD]
  have kB : ∀ b o, h₂.get? b = some o → b ≠ I → B.get? b = some o := fun b o e ne => hB ▸ hideAll_get _ e (by simpa using ne)
  have kgB : ∀ b o, g.get? b = some o → B.get? b = some o := fun b o e => kB b o (S.F.keep b o e) fun q => by (have := zI.2.2; rw [← q, e] at this; cases this)
  have knB : ∀ q ∈ news, B.get? q.1 = some q.2 := fun q hq => kB _ _ (S.N q (.tail _ hq)).1 (offI q hq)
  have S3 : St B C m₃ h₃ [(D, lstO #[] 0), (I, ritO 0 n 1)] := by
    refine ⟨⟨hns₃, fun b o e => kp b o (of_hideAll [I] (hB ▸ e)), by rw [hBz]; omega⟩, List.forall_mem_cons.2 ⟨⟨gD, by show @Ne Nat D C; omega, gN D (Nat.le_refl _)⟩, List.forall_mem_cons.2 ⟨⟨kp _ _ zI.1, by show @Ne Nat I C; omega, hB ▸ hideAll_none _ (.head _)⟩, List.forall_mem_nil _⟩⟩, ?_⟩
    simp only [List.map_cons, List.map_nil, List.nodup_cons, List.mem_singleton, List.not_mem_nil, not_false_iff, and_true, List.nodup_nil]
    show @Ne Nat D I
    omega
  have hDC : D ≤ C := by omega
  have NB : ∀ {m' : Str → Option Value} {h' : Heap} {nw : List (Addr × Obj)}, St B C m' h' nw → SeqIs h' Nn vs := fun S' => ⟨_, _, S'.F.keep _ _ (knB _ hNn), rfl⟩
  have h3 : ∀ v, letOwnedTupleGo (.Name x0 p0) (.ref I) v = pure () := by intro _; rfl
  refine (fun loop => codeAny_compStart_list loop (wpAny_pyIter_rangeiter (S3.get (.tail _ (.head _))) loop)) ?_
  refine comp2_outer (fun n' t => ∃ i h' tk' m' ys nn, i + n' = n ∧ t = ⟨h', gg₂, d₂, tk', os₂⟩ ∧ St B C m' h' [(D, lstO ys nn), (I, ritO (i : Nat) ((n : Int) - (i : Nat)) 1)] ∧ ys.size = i * vs.size ∧ (∀ i' j', i' < i → j' < vs.size → ∃ y, ys[i' * vs.size + j']? = some y ∧ F i' j' y)) ?_ n ?_ (hs := hs1 _)
  · rintro n' _ ⟨i, h', tk', m', ys, nn, hin, rfl, S', hys, hF⟩
    cases n' with
    | zero =>
      refine r_rend hh (S'.perm (List.Perm.swap _ _ _)) (by omega) fun h'' S'' kx => ?_
      obtain rfl : i = n := by omega
      refine ⟨m', S''.F.ns, fun h₅ hs5 => ?_⟩
      have eD : h₅.get? D = some (lstO ys nn) := (hs5.2 D (by show @Ne Nat D C; omega)).trans (S''.get (.head _))
      have kBn : ∀ b o, B.get? b = some o → h₅.get? b = some o := fun b o e => (hs5.2 b (by
        have lt : @LT.lt Nat _ b D := hBz ▸ Heap.lt_size e
        show @Ne Nat b C; omega)).trans (S''.F.keep _ _ e)
      have S5 : St g L m h₅ news := S.moved (C := h₂.objs.size) (Heap.get?_none_of_le (Nat.le_refl _)) fun b o nI _ e => kBn _ _ (kB _ _ e nI)
      have nD : ∀ b o, h₂.get? b = some o → b ≠ D := fun b o e => by
        have lt : @LT.lt Nat _ b D := hD ▸ Heap.lt_size e
        show @Ne Nat b D; omega
      refine hQ D h₅ _ ys nn ⟨S5.F, List.forall_mem_cons.2 ⟨⟨eD, ?_, ?_⟩, S5.N⟩, ?_⟩ hys hF
      · obtain ⟨o, _, _, e, _⟩ := S.F.ns
        exact fun q => nD _ _ e q.symm
      · cases q : g.get? D with
        | none => rfl
        | some o => exact absurd rfl (nD _ _ (S.F.keep _ _ q))
      · rw [List.map_cons, List.nodup_cons]
        refine ⟨fun q => ?_, S5.nd⟩
        obtain ⟨p, hp, e⟩ := List.mem_map.mp q
        exact nD _ _ (S.N p (.tail _ hp)).1 e
    | succ n' =>
      refine r_rnext S' (.tail .head) (by omega) fun h'' tk'' t S'' kx => ?_
      have e1 : (i : Int) + 1 = ((i + 1 : Nat) : Int) := by push_cast; rfl
      have e2 : (n : Int) - i - 1 = n - ((i + 1 : Nat) : Int) := by push_cast; omega
      rw [e1, e2] at S''
      clear S'
      refine wpAny_assign_Name (r_st S'' (lookup_relabel_local hx0) rfl (by simp [compEnvC, relabel, hkind]) fun h4 tk4 S4 => ?_)
      refine hi1 C _ _ _ _ (hD ▸ hDC) S4.F.ns (fun b o e => S4.F.keep _ _ (kgB b o e)) (fun q hq => S4.F.keep _ _ (knB q hq)) ?_
      have il : Heap.IsList h4 Nn vs := ⟨_, S4.F.keep _ _ (knB _ hNn), rfl, _, rfl⟩
      refine wpAny_pyIter_list il ?_
      have S5 := S4.push (o := ⟨.type "list_iterator", none, .fields #[.ref Nn, .int 0 0], #[]⟩) rfl
      generalize h4.objs.size = I2 at S5
      refine (fun loop => comp2_start loop (wpAny_pyIter_listiter ⟨_, S5.get (.head _), rfl, rfl⟩ loop)) ?_
      refine comp2_inner (fun n'' t' => ∃ j h' tk' m' ys' nn' o, j + n'' = vs.size ∧ t' = ⟨h', gg₂, d₂, tk', os₂⟩ ∧ St B C m' h' [(I2, o), (D, lstO ys' nn'), (I, ritO ((i + 1 : Nat) : Int) ((n : Int) - ((i + 1 : Nat) : Int)) 1)] ∧ o.cls = .type "list_iterator" ∧ o.data = .fields #[.ref Nn, .int (j : Nat) 0] ∧
        m' x0 = some (.int (i : Nat) t) ∧ ys'.size = i * vs.size + j ∧ (∀ i' j', i' < i → j' < vs.size → ∃ y, ys'[i' * vs.size + j']? = some y ∧ F i' j' y) ∧ (∀ j', j' < j → ∃ y, ys'[i * vs.size + j']? = some y ∧ F i j' y)) ?_ vs.size ?_
      · rintro n'' _ ⟨j, h', tk', m'', ys', nn', o, hjn, rfl, S6, oc, od, hm0, hys', hF1, hF2⟩
        cases n'' with
        | zero =>
          refine r_lend hh S6 oc od (NB S6) (by simp; omega) fun h'' S7 kx => ?_
          obtain rfl : j = vs.size := by omega
          refine ⟨n', Nat.lt_succ_self _, i + 1, h'', tk', m'', ys', nn', by omega, rfl, S7, by rw [hys', Nat.add_mul, Nat.one_mul], fun i' j' hi' hj' => ?_⟩
          by_cases q : i' = i
          · subst q; exact hF2 j' hj'
          · exact hF1 i' j' (by omega) hj'
        | succ n'' =>
          have hjl : j < vs.size := by omega
          refine r_lnext S6 oc od (NB S6) (Array.getElem?_eq_getElem hjl) fun h'' o' oc' od' S7 kx => ?_
          refine wpAny_assign_Name (r_st S7 (lookup_relabel_local hx1) rfl (by simp [compEnvC, relabel, hkind]) fun h8 tk8 S8 => ?_)
          refine wpAny_mono (helt C i j vs[j] t _ _ _ (hD ▸ hDC) (by omega) (Array.getElem?_eq_getElem hjl) S8.F.ns ?_ ?_ (fun b o e => S8.F.keep _ _ (kgB b o e)) (fun q hq => S8.F.keep _ _ (knB q hq))) (fun y s₄ hy => ?_) fun _ _ e => e
          · show (if x0 = x1 then _ else _) = _
            rw [if_neg hne]; exact hm0
          · show (if x1 = x1 then _ else _) = _
            rw [if_pos rfl]
          obtain ⟨fy, h9, tk9, rfl, k9⟩ := hy
          have S9 := S8.keeps k9
          refine r_app S9 (.tail .head) ?_ fun h10 S10 => ?_
          · rw [sizeLine_eq]
            have : i * vs.size + j ≤ n * vs.size := by
              have h1 : (i + 1) * vs.size ≤ n * vs.size := Nat.mul_le_mul_right _ (by omega)
              rw [Nat.add_mul, Nat.one_mul] at h1
              omega
            omega
          · refine ⟨n'', Nat.lt_succ_self _, j + 1, h10, _, _, ys'.push y, nn' + 1, o', by omega, rfl, S10, oc', od', ?_, by rw [Array.size_push, hys']; omega, fun i' j' hi' hj' => ?_, fun j' hj' => ?_⟩
            · show (if x0 = x1 then _ else _) = _
              rw [if_neg hne]; exact hm0
            · obtain ⟨y', ey, fy'⟩ := hF1 i' j' hi' hj'
              refine ⟨y', ?_, fy'⟩
              exact push_get ey
            · by_cases q : j' = j
              · subst q
                refine ⟨y, ?_, fy⟩
                rw [← hys']; exact Array.getElem?_push_size
              · obtain ⟨y', ey, fy'⟩ := hF2 j' (by omega)
                refine ⟨y', ?_, fy'⟩
                exact push_get ey
      · refine ⟨0, _, _, _, ys, nn, _, Nat.zero_add _, rfl, S5, rfl, rfl, ?_, by rw [hys]; rfl, hF, fun j' hj' => absurd hj' (Nat.not_lt_zero _)⟩
        show (if x0 = x0 then _ else _) = _
        rw [if_pos rfl]
  · refine ⟨0, _, _, m₃, #[], 0, Nat.zero_add _, rfl, ?_, by simp, fun i' j' hi' => absurd hi' (Nat.not_lt_zero _)⟩
    have e0 : (n : Int) - ((0 : Nat) : Int) = n := by omega
    rw [e0]; exact S3
end

-- Q29
section
variable {M : Model} {A : Around} {E : Value → Shared → Prop} {gg : Array GenState} {d : Drawn} {tk : Nat} {os : OsState} {g h : Heap} {L : Addr} {m : Str → Option Value} {news : List (Addr × Obj)}
theorem r_ldC {env : Env} {x : Str} {c : Addr} {o : Obj} {v : Value} {Q : Value → Shared → Prop} (S : St g L m h news) (hk : env.scope.kind = .function) (hl : env.kindOf x = some .cell) (hc : env.cells.lookup x = some c) (hm : (c, o) ∈ news) (hd : o.data = .cell (some v)) (k : Q v ⟨h, gg, d, tk, os⟩) :
    wpAny M A (loadName env x) Q E ⟨h, gg, d, tk, os⟩ := wpAny_loadName_cell hk hl hc ⟨o, S.get hm, hd⟩ k
theorem r_stC {env : Env} {x : Str} {c : Addr} {o : Obj} {v : Value} {v₀ : Option Value} {news' : Obj → List (Addr × Obj)} {Q : Unit → Shared → Prop} (S : St g L m h news) (hk : env.scope.kind = .function) (hl : env.kindOf x = some .cell) (hc : env.cells.lookup x = some c) (U : ∀ o', Up c o o' news (news' o')) (hd : o.data = .cell v₀)
    (k : ∀ h' o', o'.data = .cell (some v) → St g L m h' (news' o') → Q () ⟨h', gg, d, tk, os⟩) : wpAny M A (storeName env x v) Q E ⟨h, gg, d, tk, os⟩ := by
  refine wpAny_storeName_cell hk hl hc ⟨o, S.get (U o).mem, hd⟩ fun h' hv hs => ?_
  obtain ⟨o', ho', hd'⟩ := hv
  exact k h' o' hd' (S.ext (U o') hs.extBut ho')
end
theorem k140 (w : World) : (KK w).lookup 140 = none := by kernel_rfl
theorem k147 (w : World) : (KK w).lookup 147 = none := by kernel_rfl
abbrev tabs2 : List (Addr × Addr) := [(144, 140), (151, 147)]
theorem ns_hide {h : Heap} {l : List Addr} {a : Addr} {mm : Str → Option Value} (hT : ∀ P ∈ l, h.get? P = some (tabObj #[])) (x : h.Ns a mm) : (hideAll h l).Ns a mm := by
  obtain ⟨o, es, ep, e, hd, r⟩ := x
  refine ⟨o, es, ep, hideAll_get _ e fun q => ?_, hd, r⟩
  rw [hT a q] at e
  cases e
  cases hd
theorem tr_hide {p : Program} {loose : List Str} {mg mb : Str → Option Value} {h : Heap} {l : List Addr} (hT : ∀ P ∈ l, h.get? P = some (tabObj #[])) (T : TR p loose mg mb h) : TR p loose mg mb (hideAll h l) := by
  obtain ⟨T0, bm, ob, M⟩ := T
  refine ⟨⟨ns_hide hT T0.g, ns_hide hT T0.b, ?_, T0.builtins, T0.free⟩, bm, ob, ?_⟩
  · obtain ⟨mc, a, r⟩ := T0.nolimit
    exact ⟨mc, ns_hide hT a, r⟩
  · obtain ⟨a0, a1, a2, a3, a4, a5, a6⟩ := M
    refine ⟨ns_hide hT a0, a1, a2, hideAll_get _ a3 fun q => ?_, a4, a5, a6⟩
    rw [hT _ q] at a3
    rw [← Option.some.inj a3] at a4
    cases a4
theorem k_hide {w : World} {h : Heap} (X : (KK w).In h) : (KK w).In (hideAll h [140, 147]) := fun a o e => by
  refine hideAll_get _ (X a o e) fun q => ?_
  simp only [List.mem_cons, List.not_mem_nil, or_false] at q
  rcases q with rfl | rfl
  · rw [k140] at e; cases e
  · rw [k147] at e; cases e
theorem tabOk0 : TabOk (tabObj #[]) := ⟨#[], rfl, trivial, rfl⟩

-- Q30
section
variable {prog : Program} {w : World} {A : Around} {E : Value → Shared → Prop} {s : Shared}
def numAtV (items : Array Value) (j : Nat) : Int := match items[j]? with | some (.int i _) => i | _ => 0
theorem r_sumK {a : Addr} {items : Array Value} {Q : Value → Shared → Prop} (hh : A.handled = none) (hl : s.heap.IsList a items) (hint : ∀ (j : Nat) v, items[j]? = some v → ∃ i t, v = .int i t) (k : ∀ i t s', Keeps s s' → Q (.int i t) s') :
    wpAny (model prog w) A (call (.builtin "sum") [.ref a]) Q E s := by
  refine call_sum_walkAnyS (wpAny_pyIter_list hl ?_)
  obtain ⟨ol, el, hol⟩ := id hl
  have la : @LT.lt Nat _ a s.heap.objs.size := Heap.lt_size el
  refine ⟨_, _, _, _, _, _, _, numAtV items, rfl, (Walks.list (A := A.in1) hh s.heap.objs.size a (Nat.ne_of_lt la) items).toS, ⟨⟨_, Heap.get?_push_size _ rfl, rfl, rfl⟩, ol, Heap.get?_push_of_some _ el, hol⟩, ?_, ?_, ?_⟩
  · intro b hb
    simp only [List.mem_cons, List.not_mem_nil, or_false] at hb
    rw [Heap.size_push]
    rcases hb with rfl | rfl
    · exact Nat.lt_succ_self _
    · exact Nat.lt_succ_of_lt la
  · intro i v hv
    obtain ⟨x, t, rfl⟩ := hint i v hv
    exact ⟨t, by unfold numAtV; rw [hv]⟩
  · intro s' t' hm
    obtain ⟨h1, h2, h3, h4, h5⟩ := hm
    obtain ⟨sh, sg, sd, st, so⟩ := s'
    dsimp only at h1 h2 h3 h4
    subst h2 h3 h4
    refine k _ _ _ ⟨sh, st, rfl, fun b o e => h1 b o ?_ (Heap.get?_push_of_some _ e)⟩
    intro hb
    rw [List.mem_singleton.mp hb] at e
    exact Nat.lt_irrefl _ (Heap.lt_size e)
theorem r_slice3K {value slice : Expr} {l : Addr} {items : Array Value} {vl vu vk : Value} {lo hi st : Option Int} {ops : List Value} {Q : Value → Shared → Prop}
    (hl : s.heap.IsList l items) (pl : IsPart vl lo) (pu : IsPart vu hi) (pk : IsPart vk st) (h0 : st ≠ some 0)
    (k : ∀ D s', Keeps s s' → s'.heap.IsList D (slicePick items lo hi st) → Q (.ref D) s')
    (hs : subscripted slice false (.ref l) (.ref s.heap.objs.size) = operate ops (getItem (.ref l) (.ref s.heap.objs.size)) := by with_unfolding_all rfl)
    (ht : ∀ r, letTemporaryGo value (.ref l) r = pure () := by intro _; with_unfolding_all rfl) (hsz : items.size ≤ sizeLine) :
    wpAny (model prog w) A (subscriptTail value slice (.ref l) (.ref s.heap.objs.size)) Q E { s with heap := s.heap.push { cls := .type "slice", data := .fields #[vl, vu, vk] } } := by
  refine subscriptTail_ops (Heap.IsList.typeIs (s := { s with heap := s.heap.push { cls := .type "slice", data := .fields #[vl, vu, vk] } }) (hl.push _)) list_getitem_lookup
    (wpAny_getItem_list_slice (hl.push _) (Heap.IsSliceOf.new ..) pl pu pk h0 ?_ hsz) hs ht
  exact k _ _ ⟨_, _, rfl, fun b o e => Heap.get?_push_of_some _ (Heap.get?_push_of_some _ e)⟩ ⟨_, Heap.get?_push_size _ rfl, rfl, _, rfl⟩
theorem slicePick_mem {items : Array Value} {lo hi st : Option Int} {j : Nat} {v : Value} (h : (slicePick items lo hi st)[j]? = some v) : ∃ i : Nat, items[i]? = some v := by
  unfold slicePick at h
  rw [List.getElem?_toArray] at h
  have hm := List.mem_of_getElem? h
  obtain ⟨i, _, e⟩ := List.mem_filterMap.mp hm
  exact ⟨_, e⟩
end
section
variable {prog : Program} {w : World} {A : Around} {E : Value → Shared → Prop} {g h₀ : Heap} {L : Addr} {m : Str → Option Value} {news : List (Addr × Obj)}
/-- r_comp, its ledger told by the facts in hand -/
theorem r_compS {elt iter : Expr} {x : Str} {px : Pos} {scope : Scope} {cl : List (Str × Addr)} {pos : Pos} {env : Env} {Q : Value → Shared → Prop} {s : Shared} (S : St g L m h₀ news) (F : Value → Value → Prop)
    (hclos : closureFor scope env = pure cl) (hcell : ∀ y ∈ scope.names, y.2 ≠ .cell) (hkind : scope.kind = .function)
    (hnames : ∀ y ∈ scope.names, y.2 = .local → scope.names.lookup y.1 = some .local) (hx : scope.names.lookup x = some .local)
    (h : wpAny (model prog w) A (eval iter env) (fun xv s₁ => wpAny (model prog w) A (pyIter xv) (fun it s₂ => ∃ I oI fp n P Z h₂ gg₂ d₂ tk₂ os₂, it = .ref I ∧ s₂ = ⟨h₂, gg₂, d₂, tk₂, os₂⟩ ∧ St g L m h₂ ((I, oI) :: news) ∧
      Walks prog w A I fp [I] n P Z ∧ n ≤ sizeLine ∧ Z 0 h₂ ∧ (∀ b ∈ fp, b < h₂.objs.size) ∧
      (∀ C i v s₃ m₃ E', h₂.objs.size ≤ C → P i v → s₃.heap.Ns C m₃ → m₃ x = some v → (∀ b o, g.get? b = some o → s₃.heap.get? b = some o) → (∀ q ∈ news, s₃.heap.get? q.1 = some q.2) →
        wpAny (model prog w) A (eval elt (compEnvC scope cl C env)) (fun y s₄ => F v y ∧ Keeps s₃ s₄) E' s₃) ∧
      (∀ D h' tk ys nn, St g L m h' ((D, ⟨.type "list", none, .seq ys nn, #[]⟩) :: news) → ys.size = n → (∀ j y, ys[j]? = some y → ∃ v, P j v ∧ F v y) → Q (.ref D) ⟨h', gg₂, d₂, tk, os₂⟩)) E s₁) E s)
    (hs : ∀ x, foldedSetIterable iter env x = pure x := by intro _; rfl) :
    wpAny (model prog w) A (eval (.ListComp elt [⟨.Name x px, iter, [], 0⟩] scope pos) env) Q E s := r_comp F hclos hcell hkind hnames hx h hs
/-- a cell read in a comprehension -/
theorem r_cellC {env : Env} {scope : Scope} {cl : List (Str × Addr)} {C c : Addr} {x : Str} {pos : Pos} {o : Obj} {v : Value} {s : Shared} {Q : Value → Shared → Prop} (hc : cl.lookup x = some c) (ho : s.heap.get? c = some o) (hd : o.data = .cell (some v)) (h : Q v s)
    (hk : (compEnvC scope cl C env).scope.kind = .function) (hx : (compEnvC scope cl C env).kindOf x = some .cell) (hb : (x == ("__debug__" : Str)) = false := by decide) :
    wpAny (model prog w) A (eval (.Name x pos) (compEnvC scope cl C env)) Q E s := wpAny_Name (wpAny_loadName_cell hk hx hc ⟨o, ho, hd⟩ h) hb
end
theorem list_hide {h g : Heap} {l : List Addr} {a : Addr} {items : Array Value} (hT : ∀ P ∈ l, h.get? P = some (tabObj #[])) (hg : hideAll h l = g) (x : h.IsList a items) : g.IsList a items := by
  obtain ⟨ol, e, c, r⟩ := x
  refine ⟨ol, hg ▸ hideAll_get _ e (fun q => ?_), c, r⟩
  rw [hT _ q] at e
  cases e
  cases c
theorem Keeps.trans' {a b c : Shared} (x : Keeps a b) (y : Keeps b c) : Keeps a c := by
  obtain ⟨h1, t1, rfl, k1⟩ := x
  obtain ⟨h2, t2, rfl, k2⟩ := y
  exact ⟨h2, t2, rfl, fun b o e => k2 b o (k1 b o e)⟩
theorem intsGet {vs : List Value} {ns : List Int} (x : IntsAre vs ns) : ∀ (j : Nat) (v : Value), vs.toArray[j]? = some v → ∃ i t, v = .int i t := by
  induction x with
  | nil => intro j v e; simp at e
  | cons i t r ih =>
    intro j v e
    cases j with
    | zero => simp at e; exact ⟨_, _, e.symm⟩
    | succ j => exact ih j v (by simpa using e)
theorem n75 (a : Int) : ∃ n : Nat, 48 + a.fmod 75 = (n : Int) ∧ 48 ≤ n ∧ n ≤ 122 := by
  rw [Int.fmod_eq_emod_of_nonneg _ (by omega)]
  exact ⟨(48 + a % 75).toNat, by omega, by omega, by omega⟩

-- Q31
theorem intsOf {P : Nat → Prop} : ∀ (l : List Value), (∀ (j : Nat) v, l[j]? = some v → ∃ n : Nat, ∃ t, v = .int (n : Nat) t ∧ P n) → ∃ ns : List Nat, IntsAre l (ns.map fun n : Nat => (n : Int)) ∧ ns.length = l.length ∧ ∀ n ∈ ns, P n
  | [], _ => ⟨[], .nil, rfl, fun _ h => nomatch h⟩
  | v :: r, h => by
    obtain ⟨n, t, rfl, hp⟩ := h 0 v rfl
    obtain ⟨ns, hi, hl, hq⟩ := intsOf r fun j v e => h (j + 1) v (by simpa using e)
    refine ⟨n :: ns, .cons _ t hi, by simp [hl], fun m hm => ?_⟩
    rcases List.mem_cons.mp hm with rfl | hm
    · exact hp
    · exact hq m hm
section
variable {prog : Program} {w : World} {A : Around} {E : Value → Shared → Prop} {g h : Heap} {L : Addr} {m : Str → Option Value} {news : List (Addr × Obj)} {gg : Array GenState} {d : Drawn} {tk : Nat} {os : OsState}
/-- bytes(list of octets) -/
theorem r_bytesN {D : Addr} {ys : Array Value} {nn : Nat} {ns : List Nat} {Q : Value → Shared → Prop} (hh : A.handled = none) (S : St g L m h news) (hm : (D, (⟨.type "list", none, .seq ys nn, #[]⟩ : Obj)) ∈ news) (hi : IntsAre ys.toList (ns.map fun n : Nat => (n : Int))) (hn : ∀ n ∈ ns, n < 256) (hz : ns.length ≤ 1000)
    (k : ∀ b t h' tk', St g L m h' news → ob b = ns → Q (.bytes b t) ⟨h', gg, d, tk', os⟩) : wpAny (model prog w) A (call (.type "bytes") [.ref D]) Q E ⟨h, gg, d, tk, os⟩ := by
  have hl := hi.length
  rw [List.length_map] at hl
  refine call_bytes_ints (vs := ys.toList) ⟨_, S.get hm, rfl, nn, by rw [Array.toArray_toList]⟩ hi (fun n hn' => ?_) (by rw [sizeLine_eq]; omega) hh fun h' t tk' hk => ?_
  · obtain ⟨x, hx, rfl⟩ := List.mem_map.mp hn'
    have := hn x hx
    omega
  · refine k _ _ _ _ (S.keeps hk) ?_
    unfold ob
    show List.map UInt8.toNat (List.map (fun n : Int => n.toNat.toUInt8) (List.map (fun n : Nat => (n : Int)) ns)) = ns
    rw [List.map_map, List.map_map]
    have : ∀ n ∈ ns, ((UInt8.toNat ∘ fun n : Int => n.toNat.toUInt8) ∘ fun n : Nat => (n : Int)) n = id n := fun n hn' => by
      have h1 := hn n hn'
      show (n : Int).toNat % 256 = n
      omega
    rw [List.map_congr_left this, List.map_id]
end
theorem St.newAt {g h h' : Heap} {L : Addr} {m : Str → Option Value} {o : Obj} {news : List (Addr × Obj)} (S : St g L m h news) (F : Fr g L h' m) (N : News g L h' ((h.objs.size, o) :: news)) : St g L m h' ((h.objs.size, o) :: news) := by
  refine ⟨F, N, ?_⟩
  rw [List.map_cons, List.nodup_cons]
  refine ⟨fun q => ?_, S.nd⟩
  obtain ⟨p, hp, e⟩ := List.mem_map.mp q
  exact Nat.lt_irrefl _ (e ▸ Heap.lt_size (S.N p hp).1)
/-- a call that changed slots of the frame itself, too -/
theorem St.postL {g h h' : Heap} {L : Addr} {m : Str → Option Value} {news news' ch nw : List (Addr × Obj)} {oL : Obj} {q : Array (Option Value)} (S : St g L m h news) (eL : h.get? L = some oL) (P : Post h h' ((L, { oL with slots := q }) :: ch) nw) (U : Ups ch news news') : St g L m h' (nw ++ news') := by
  have off : ∀ q ∈ ch, q.1 ≠ L ∧ g.get? q.1 = none := fun q hq => by
    obtain ⟨p, hp, e⟩ := List.mem_map.mp (U.sub q hq)
    rw [← e]; exact (S.N p hp).2
  have gL : g.get? L = none := Heap.get?_none_of_le S.F.above
  have kp : ∀ b o, g.get? b = some o → h'.get? b = some o := fun b o e => P.keep b o (S.F.keep b o e) fun z => by
    rcases List.mem_cons.mp z with z | z
    · rw [z] at e; rw [show g.get? L = none from gL] at e; cases e
    · obtain ⟨p, hp, e'⟩ := List.mem_map.mp z
      have := (off p hp).2
      rw [e', e] at this; cases this
  obtain ⟨oL', es, ep, eL', hd, r⟩ := S.F.ns
  rw [eL] at eL'
  cases eL'
  refine ⟨⟨⟨_, es, ep, P.hc _ (.head _), hd, r⟩, kp, S.F.above⟩, fun p hp => ?_, ?_⟩
  · rcases List.mem_append.mp hp with hp | hp
    · have y := P.hn p hp
      refine ⟨y.1, fun e => ?_, ?_⟩
      · exact Nat.lt_irrefl _ (Nat.lt_of_lt_of_le (e ▸ S.lt) (e ▸ y.2))
      · cases z : g.get? p.1 with
        | none => rfl
        | some o => exact absurd (Heap.lt_size (S.F.keep _ _ z)) (Nat.not_lt.mpr y.2)
    · rcases U.of S.nd p hp with hc | ⟨hl, n⟩
      · exact ⟨P.hc p (.tail _ hc), off p hc⟩
      · exact ⟨P.keep _ _ (S.N p hl).1 (fun z => by
          rcases List.mem_cons.mp z with z | z
          · exact (S.N p hl).2.1 z
          · exact n z), (S.N p hl).2⟩
  · rw [List.map_append, List.nodup_append]
    refine ⟨P.nd, by rw [U.keys]; exact S.nd, fun a ha b hb e => ?_⟩
    obtain ⟨p, hp, rfl⟩ := List.mem_map.mp ha
    rw [U.keys] at hb
    obtain ⟨z, hz, rfl⟩ := List.mem_map.mp hb
    have h1 := (P.hn p hp).2
    have h2 := Heap.lt_size (S.N z hz).1
    exact Nat.lt_irrefl _ (Nat.lt_of_lt_of_le h2 (e ▸ h1))

-- Q32
/-- the law's invariant: the octets' places behind rounds whose names' counts multiply to p -/
def Inv (st row : List Nat) (p : Nat) : Prop := (∀ k, k < 11 → row[k * p % 11]? = st[k]?) ∧ row[11]? = st[11]?
/-- the next row: column by column -/
def nextOf (sz : Nat) (row : List Nat) : List Nat := (List.range sz).flatMap fun k => (List.range (12 / sz)).map fun j => row.getD (j * sz + k) 0
theorem next_len {sz : Nat} (row : List Nat) (hs : sz = 2 ∨ sz = 3 ∨ sz = 4 ∨ sz = 6) : (nextOf sz row).length = 12 := by
  rcases hs with rfl | rfl | rfl | rfl <;> rfl
theorem next_at {sz : Nat} {row : List Nat} (hr : row.length = 12) (hs : sz = 2 ∨ sz = 3 ∨ sz = 4 ∨ sz = 6) : (∀ q, q < 11 → (nextOf sz row)[q * (12 / sz) % 11]? = row[q]?) ∧ (nextOf sz row)[11]? = row[11]? := by
  match row, hr with
  | [a0, a1, a2, a3, a4, a5, a6, a7, a8, a9, a10, a11], _ =>
    refine ⟨fun q hq => ?_, ?_⟩
    · have hq' : q = 0 ∨ q = 1 ∨ q = 2 ∨ q = 3 ∨ q = 4 ∨ q = 5 ∨ q = 6 ∨ q = 7 ∨ q = 8 ∨ q = 9 ∨ q = 10 := by omega
      rcases hs with rfl | rfl | rfl | rfl <;> rcases hq' with rfl | rfl | rfl | rfl | rfl | rfl | rfl | rfl | rfl | rfl | rfl <;> kernel_rfl
    · rcases hs with rfl | rfl | rfl | rfl <;> kernel_rfl
theorem Inv.next {st row : List Nat} {p sz : Nat} (h : Inv st row p) (hr : row.length = 12) (hs : sz = 2 ∨ sz = 3 ∨ sz = 4 ∨ sz = 6) : Inv st (nextOf sz row) (p * (12 / sz) % 11) := by
  obtain ⟨n1, n2⟩ := next_at hr hs
  refine ⟨fun k hk => ?_, n2.trans h.2⟩
  rw [← h.1 k hk, ← n1 (k * p % 11) (Nat.mod_lt _ (by omega))]
  congr 1
  rw [Nat.mul_mod_mod, Nat.mod_mul_mod, Nat.mul_assoc]
theorem Inv.start (st : List Nat) : Inv st st 1 := ⟨fun k hk => by rw [Nat.mul_one, Nat.mod_eq_of_lt hk], rfl⟩
theorem next_mem {sz : Nat} {row : List Nat} (hr : row.length = 12) (hs : sz = 2 ∨ sz = 3 ∨ sz = 4 ∨ sz = 6) {P : Nat → Prop} (h : ∀ c ∈ row, P c) : ∀ c ∈ nextOf sz row, P c := by
  intro c hc
  obtain ⟨k, hk, hc⟩ := List.mem_flatMap.mp hc
  obtain ⟨j, hj, rfl⟩ := List.mem_map.mp hc
  have hk := List.mem_range.mp hk
  have hj := List.mem_range.mp hj
  have hlt : j * sz + k < row.length := by
    rw [hr]
    rcases hs with rfl | rfl | rfl | rfl <;> simp at hj <;> omega
  rw [List.getD_eq_getElem?_getD, List.getElem?_eq_getElem hlt]
  exact h _ (List.getElem_mem hlt)

-- Q33
/-- law's parts, out of the program's form -/
def bodyOf : Stmt → List Stmt
  | .FunctionDef _ _ body _ _ _ _ _ _ _ => body
  | .For _ _ body _ _ => body
  | _ => []
def scopeOf : Stmt → Scope
  | .FunctionDef _ _ _ _ _ _ scope _ _ _ => scope
  | _ => { kind := .function, names := [], isGenerator := false, isCoroutine := false, more := [] }
def lawStmt : Stmt := Prg.main.body.getLast?.getD (.Pass ⟨0, 0, 0, 0⟩)
def lawScope : Scope := scopeOf lawStmt
def loopStmts : List Stmt := bodyOf ((bodyOf lawStmt).getD 3 (.Pass ⟨0, 0, 0, 0⟩))
abbrev lawEnv (L fa : Addr) (cd : Value) : Env := envOfC (Str.ofString "law") lawScope L fa cd
/-- the state of the rounds' loop behind j rounds -/
structure RI (g : Heap) (L : Addr) (st : Array UInt8) (tst : Tok) (its : Array Value) (Lst It : Addr) (j : Nat) (h : Heap) (gg : Array GenState) (m : Str → Option Value) (oI o1 o2 oNm oSz oPr oRw oSc : Obj) (rb : Array UInt8) (tr : Tok) (p : Nat) (tp : Tok) (nl : Nat) : Prop where
  S : St g L m h ((It, oI) :: (140, o1) :: (147, o2) :: (L + 1 + 1 + 1 + 1 + 1, oNm) :: (L + 1 + 1 + 1 + 1, oSz) :: (L + 1 + 1 + 1, oPr) :: (L + 1 + 1, oRw) :: (L + 1, oSc) :: (Lst, lstO its nl) :: [])
  t1 : TabOk o1
  t2 : TabOk o2
  ic : oI.cls = .type "list_iterator"
  idt : oI.data = .fields #[.ref Lst, .int (j : Nat) 0]
  nm : ∃ v, oNm.data = .cell v
  sz : ∃ v, oSz.data = .cell v
  pr : oPr.data = .cell (some (.int (p : Nat) tp))
  rw : oRw.data = .cell (some (.bytes rb tr))
  r12 : rb.size = 12
  oct : ∀ c ∈ ob rb, 48 ≤ c ∧ c ≤ 122
  inv : Inv (ob st) (ob rb) p
  s12 : st.size = 12
  p11 : p < 11
  mst : m (Str.ofString "start") = some (.bytes st tst)
  bare : AllBare gg
theorem pick4 (x : Int) (t0 t1 t2 t3 : Tok) : ∃ sz : Nat, ∃ t, (0 ≤ x.fmod 4 ∧ x.fmod 4 < 2 ^ 63) ∧ [Value.int 2 t0, .int 3 t1, .int 4 t2, .int 6 t3][(x.fmod 4).toNat]? = some (.int (sz : Nat) t) ∧ (sz = 2 ∨ sz = 3 ∨ sz = 4 ∨ sz = 6) := by
  rw [Int.fmod_eq_emod_of_nonneg _ (by omega)]
  have h : x % 4 = 0 ∨ x % 4 = 1 ∨ x % 4 = 2 ∨ x % 4 = 3 := by omega
  rcases h with h | h | h | h <;> rw [h]
  · exact ⟨2, t0, by omega, rfl, .inl rfl⟩
  · exact ⟨3, t1, by omega, rfl, .inr (.inl rfl)⟩
  · exact ⟨4, t2, by omega, rfl, .inr (.inr (.inl rfl))⟩
  · exact ⟨6, t3, by omega, rfl, .inr (.inr (.inr rfl))⟩
theorem dep8 (e : Env) : (callerA.deeper e).depth + 8 < recursionLimit := by
  show (1 + claimMargin + 1) + 8 < 1000
  decide
theorem uni6 (e : Env) : (callerA.deeper e).units + 600 < cLine := by
  simp [Around.deeper, callerA, cLine]
theorem St.drop2 {g h : Heap} {L : Addr} {m : Str → Option Value} {p q : Addr × Obj} {news : List (Addr × Obj)} (S : St g L m h (p :: q :: news)) : St g L m h (p :: news) := ⟨S.F, List.forall_mem_cons.2 ⟨S.N _ (.head _), fun q hq => S.N q (.tail _ (.tail _ hq))⟩, by
  have := S.nd
  simp only [List.map_cons, List.nodup_cons, List.mem_cons, not_or] at this ⊢
  exact ⟨this.1.2, this.2.2⟩⟩
theorem r_range3 {prog : Program} {w : World} {A : Around} {E : Value → Shared → Prop} {g h : Heap} {L : Addr} {m : Str → Option Value} {news : List (Addr × Obj)} {gg : Array GenState} {d : Drawn} {tk : Nat} {os : OsState} {b c : Int} {t u v : Tok} {Q : Value → Shared → Prop} (S : St g L m h news) (hc : 0 < c) (hc1 : c < 1000) (hb : 0 ≤ b) (hb1 : b < 1000)
    (k : ∀ a h', St g L m h' ((a, rngO 0 b c t u v) :: news) → (∀ b o, h.get? b = some o → h'.get? b = some o) → Q (.ref a) ⟨h', gg, d, tk, os⟩) : wpAny (model prog w) A (call (.type "range") [.int 0 t, .int b u, .int c v]) Q E ⟨h, gg, d, tk, os⟩ :=
  call_range_3 (by omega) (k _ _ (S.push rfl) fun b o e => Heap.get?_push_of_some _ e) (hp := .inl (PyProof.noPylong_small (by omega)))
theorem r_bslice {prog : Program} {w : World} {A : Around} {E : Value → Shared → Prop} {s : Shared} {value slice : Expr} {b : Array UInt8} {t : Tok} {l u : Value} {lo hi : Option Int} {Q : Value → Shared → Prop} (hl : IsPart l lo) (hu : IsPart u hi) (hz : b.size ≤ 1000)
    (k : ∀ t' s', Keeps s s' → Q (.bytes (KBy.picked b lo hi) t') s')
    (hs : subscripted slice false (.bytes b t) (.ref s.heap.objs.size) = operate [.ref s.heap.objs.size, .bytes b t] (getItem (.bytes b t) (.ref s.heap.objs.size)) := by with_unfolding_all rfl)
    (ht : ∀ r, letTemporaryGo value (.bytes b t) r = pure () := by intro _; with_unfolding_all rfl) :
    wpAny (model prog w) A (subscriptTail value slice (.bytes b t) (.ref s.heap.objs.size)) Q E { s with heap := s.heap.push { cls := .type "slice", data := .fields #[l, u, .none] } } :=
  tail_of_ItemOn ⟨"bytes", _, FB.slot_bytes_getitem.lookup, typeIs_bytes _ _ _, getItem_meets (typeIs_bytes _ _ _) (by decide) FB.slot_bytes_getitem FB.entry_bytes_getitem (FB.args_bytes_getitem_2 _ _) (KBc.meets_slice2 b t _ hl hu)
    ⟨Heap.IsSliceOf.new _ _ _ _, Nat.le_trans (KBc.size_picked_le b lo hi) (by rw [sizeLine_eq]; omega), fun t' tk => k t' _ ⟨_, _, rfl, fun b o e => Heap.get?_push_of_some _ e⟩⟩⟩ hs ht
theorem picked_nat (b : Array UInt8) {i j : Nat} (hi : i ≤ j) (hj : j ≤ b.size) : KBy.picked b (some (i : Int)) (some (j : Int)) = b.extract i j := by
  rw [KBc.picked_eq]
  simp only [Option.elim, clipAt_nat]
  apply Array.toList_inj.mp
  rw [Array.toList_extract, List.extract_eq_take_drop, Nat.min_eq_left hj, Nat.min_eq_left (by omega)]
theorem rsize {z : Nat} (hz : z = 2 ∨ z = 3 ∨ z = 4 ∨ z = 6) : Builtin.Range.rangeSize 0 12 (z : Int) = ((12 / z : Nat) : Int) ∧ Builtin.Range.small 0 12 (z : Int) = true := by
  rcases hz with rfl | rfl | rfl | rfl <;> exact ⟨by decide +kernel, by decide +kernel⟩
theorem rsize1 {z : Nat} (hz : z = 2 ∨ z = 3 ∨ z = 4 ∨ z = 6) : Builtin.Range.rangeSize 0 (z : Int) 1 = (z : Int) := by
  rcases hz with rfl | rfl | rfl | rfl <;> decide +kernel
theorem intsBy : ∀ {l : List Value} {ns : List Nat}, l.length = ns.length → (∀ q, q < ns.length → ∃ t, l[q]? = some (.int (ns.getD q 0 : Nat) t)) → IntsAre l (ns.map fun n : Nat => (n : Int))
  | [], [], _, _ => .nil
  | v :: l, n :: r, hl, h => by
    obtain ⟨t, e⟩ := h 0 (Nat.succ_pos _)
    obtain rfl := Option.some.inj e
    exact .cons _ t (intsBy (by simpa using hl) fun q hq => by simpa using h (q + 1) (by simpa using hq))
theorem next_getD {z i j : Nat} (row : List Nat) (hz : z = 2 ∨ z = 3 ∨ z = 4 ∨ z = 6) (hi : i < z) (hj : j < 12 / z) : (nextOf z row).getD (i * (12 / z) + j) 0 = row.getD (j * z + i) 0 := by
  have e : ∀ n, n = 12 / z → i * n + j < (List.range z).length * n → ((List.range z).flatMap fun k => (List.range n).map fun j => row.getD (j * z + k) 0).getD (i * n + j) 0 = row.getD (j * z + i) 0 := by
    intro n hn _
    have hi' : i = 0 ∨ i = 1 ∨ i = 2 ∨ i = 3 ∨ i = 4 ∨ i = 5 := by omega
    have hj' : j = 0 ∨ j = 1 ∨ j = 2 ∨ j = 3 ∨ j = 4 ∨ j = 5 := by rcases hz with rfl | rfl | rfl | rfl <;> omega
    rcases hz with rfl | rfl | rfl | rfl <;> obtain rfl := hn <;> rcases hi' with rfl | rfl | rfl | rfl | rfl | rfl <;> (first | (exfalso; omega) | skip) <;> rcases hj' with rfl | rfl | rfl | rfl | rfl | rfl <;> (first | (exfalso; omega) | kernel_rfl)
  refine e _ rfl ?_
  rw [List.length_range]
  have : (i + 1) * (12 / z) ≤ z * (12 / z) := Nat.mul_le_mul_right _ (by omega)
  rw [Nat.succ_mul] at this
  omega
theorem ob_extract {rb : Array UInt8} {a z i : Nat} (hi : i < z) : (ob (rb.extract a (a + z))).getD i 0 = (ob rb).getD (a + i) 0 := by
  simp only [ob, List.getD_eq_getElem?_getD, List.getElem?_map, Array.toList_extract, List.extract_eq_take_drop]
  rw [List.getElem?_take_of_lt (by omega), List.getElem?_drop]
theorem intsNext {ys : Array Value} {z : Nat} {row : List Nat} (hz : z = 2 ∨ z = 3 ∨ z = 4 ∨ z = 6) (hys : ys.size = z * (12 / z)) (h : ∀ i j, i < z → j < 12 / z → ∃ y, ys[i * (12 / z) + j]? = some y ∧ ∃ t, y = .int ((row.getD (j * z + i) 0 : Nat)) t) : IntsAre ys.toList ((nextOf z row).map fun n : Nat => (n : Int)) := by
  have hl := next_len row hz
  have hz12 : z * (12 / z) = 12 := by rcases hz with rfl | rfl | rfl | rfl <;> rfl
  have hn : 0 < 12 / z := by rcases hz with rfl | rfl | rfl | rfl <;> decide
  refine intsBy (by rw [Array.length_toList, hys, hl, hz12]) fun q hq => ?_
  rw [hl, ← hz12] at hq
  have hi : q / (12 / z) < z := Nat.div_lt_of_lt_mul (by rw [Nat.mul_comm]; exact hq)
  have hj : q % (12 / z) < 12 / z := Nat.mod_lt _ hn
  have eq : q / (12 / z) * (12 / z) + q % (12 / z) = q := by rw [Nat.mul_comm]; exact Nat.div_add_mod _ _
  obtain ⟨y, ey, t, rfl⟩ := h _ _ hi hj
  rw [eq] at ey
  refine ⟨t, ?_⟩
  have := next_getD row hz hi hj
  rw [eq] at this
  rw [this, Array.getElem?_toList, ey]
theorem map_getD (l : List Nat) (i : Nat) : (l.map fun n : Nat => (n : Int)).getD i 0 = ((l.getD i 0 : Nat) : Int) := by
  rw [List.getD_eq_getElem?_getD, List.getD_eq_getElem?_getD, List.getElem?_map]
  cases l[i]? <;> rfl
theorem prod_nat (p n : Nat) : ((p : Int) * (n : Int)).fmod 11 = ((p * n % 11 : Nat) : Int) := by
  rw [Int.fmod_eq_emod_of_nonneg _ (by omega)]
  push_cast; rfl
theorem mulOk {p n : Nat} (hp : p < 11) (hn : n ≤ 12) : IntMulOk (n : Int) (p : Int) := by mul_fits
theorem mulOk' {p n : Nat} (hp : p < 11) (hn : n ≤ 12) : IntMulOk (p : Int) (n : Int) := by mul_fits
theorem inv_list {st row : List Nat} {p : Nat} (h : Inv st row p) (hs : st.length = 12) (hr : row.length = 12) : ((List.range 11).map fun k => row.getD (k * p % 11) 0) ++ [row.getD 11 0] = st := by
  apply List.ext_getElem?
  intro i
  rcases Nat.lt_trichotomy i 11 with hi | rfl | hi
  · rw [List.getElem?_append_left (by simp; omega), List.getElem?_map, List.getElem?_range hi, ← h.1 i hi]
    show some (row.getD (i * p % 11) 0) = _
    have : i * p % 11 < row.length := by have := Nat.mod_lt (i * p) (show 0 < 11 by omega); omega
    rw [List.getD_eq_getElem?_getD, List.getElem?_eq_getElem this]; rfl
  · rw [List.getElem?_append_right (by simp), ← h.2]
    have : 11 < row.length := by omega
    simp [List.getElem?_eq_getElem this]
  · rw [List.getElem?_eq_none (by simp; omega), List.getElem?_eq_none (by omega)]
theorem bytesOf {l : List Value} {bs : List (Array UInt8)} (hl : l.length = bs.length) (h : ∀ j (v : Value), l[j]? = some v → ∃ t, v = .bytes (bs.getD j #[]) t) : BytesAre l bs := by
  induction l generalizing bs with
  | nil => cases bs with
    | nil => exact .nil
    | cons b r => cases hl
  | cons v l ih => cases bs with
    | nil => cases hl
    | cons b r =>
      obtain ⟨t, rfl⟩ := h 0 v rfl
      exact .cons b t (ih (by simpa using hl) fun j v e => by simpa using h (j + 1) v (by simpa using e))
theorem mul_inj {i j z : Nat} {t u : Tok} (h : Value.int (0 + (j : Int) * (z : Int)) t = .int (i : Int) u) : i = j * z := by
  simp only [Value.int.injEq] at h
  have : (j : Int) * (z : Int) = ((j * z : Nat) : Int) := by push_cast; rfl
  omega
theorem names_getD {j z : Nat} {rb : Array UInt8} (hj : j < 12 / z) : (namesOf z rb).getD j #[] = rb.extract (j * z) (j * z + z) := by
  simp [namesOf, hj]
theorem turn_spec {w : World} {mg mb : Str → Option Value} {g h : Heap} {L fa : Addr} {cd : Value} {st : Array UInt8} {tst tx : Tok} {its : Array Value} {Lst It : Addr} {j : Nat} {gg : Array GenState} {d : Drawn} {tk : Nat} {os : OsState} {m : Str → Option Value} {oI o1 o2 oNm oSz oPr oRw oSc : Obj} {rb : Array UInt8} {tr : Tok} {p : Nat} {tp : Tok} {nl : Nat} {x : Int} {Q : Flow → Shared → Prop} {E : Value → Shared → Prop}
   (X : (KK w).In g) (T : Tr mg mb g) (R : RI g L st tst its Lst It j h gg m oI o1 o2 oNm oSz oPr oRw oSc rb tr p tp nl) (mx : m (Str.ofString "x") = some (.int x tx))
   (k : ∀ h' gg' tk' o1' o2' oNm' oSz' oPr' oRw' rb' tr' p' tp', RI g L st tst its Lst It j h' gg' m oI o1' o2' oNm' oSz' oPr' oRw' oSc rb' tr' p' tp' nl → Q .next ⟨h', gg', d, tk', os⟩) :
   wpAny (model Prg w) (callerA.deeper (lawEnv L fa cd)) (execs loopStmts (lawEnv L fa cd)) Q E ⟨h, gg, d, tk, os⟩ := by
  show wpAny _ _ (execs (List.cons _ _) _) _ _ _
  obtain ⟨S, t1, t2, ic, idt, ⟨vn, nm⟩, ⟨vz, sz⟩, pr, rw', r12, oct, inv, s12, p11, mst, bare⟩ := R
  walk_at "A"
  walk_at "A"
  refine Subscript_ ?_
  repeat (walk_at "A")
  refine r_ld S rfl rfl rfl mx ?_
  walk_at "A"
  refine mod_int' (by decide) ?_
  obtain ⟨z, tz, ⟨z0, z1⟩, hz, hzs⟩ := pick4 x _ _ _ _
  refine tail_any (Heap.IsList.typeIs ⟨_, S.get (.head _), rfl, _, rfl⟩) slot_list_getitem.lookup (wpAny_getItem_list (items := [_, _, _, _].toArray) ⟨_, S.get (.head _), rfl, _, rfl⟩ z0 z1 (by simpa using hz) ?_) (by with_unfolding_all rfl)
  have S' := S.drop
  clear S
  have S := S'
  clear S'
  dsimp only
  refine r_stC S rfl rfl rfl (fun o' => .tail (.tail (.tail (.tail .head)))) sz ?_
  clear S sz
  intro h₁ oSz' sz S
  repeat (walk_at "A")
  walk_at "N"
  walk_at "cw"
  walk_at "A"
  walk_at "A"
  refine r_ldC S rfl rfl rfl (.tail _ (.tail _ (.tail _ (.tail _ (.tail _ (.tail _ (.head _))))))) rw' ?_
  repeat (walk_at "A")
  refine r_ld S rfl rfl rfl mx ?_
  repeat (walk_at "A")
  refine r_ldC S rfl rfl rfl (.tail _ (.tail _ (.tail _ (.tail _ (.head _))))) sz ?_
  repeat (walk_at "A")
  refine ⟨S.K X, ?_⟩
  (try dsimp only [List.cons_append, List.nil_append])
  obtain ⟨oL, es, ep, eL, hLd, hLr⟩ := id S.F.ns
  have gL : g.get? L = none := Heap.get?_none_of_le S.F.above
  have n140 := S.own (.tail _ (.head _))
  have n147 := S.own (.tail _ (.tail _ (.head _)))
  have l140 : (140 : Addr) ≠ L := (S.N _ (.tail _ (.head _))).2.1
  have l147 : (147 : Addr) ≠ L := (S.N _ (.tail _ (.tail _ (.head _)))).2.1
  refine wpAny_call (names_spec (hb := g) (e₀ := lawEnv L fa cd) (Lf := L) (oL := oL) (dep8 _) (uni6 _) rfl rfl (by intro q; cases q) rfl X T S.F.keep
    (List.forall_mem_cons.2 ⟨⟨eL, gL⟩, List.forall_mem_cons.2 ⟨n140, List.forall_mem_cons.2 ⟨n147, List.forall_mem_nil _⟩⟩⟩) (by simp [l140.symm, l147.symm]) (by rw [hLd]; intro vs q; cases q) t1 t2 r12 (fun c hc => by have := oct c hc; omega) hzs ?_)
  intro h₂ gg₂ tk₂ D o1' o2' q vs t1' t2' P G hvs
  have S' := St.postL S eL P (.cons (.tail .head) (.cons (.tail (.tail .head)) .nil))
  clear S P n140 n147 t1 t2
  have S := S'
  clear S'
  dsimp only [List.cons_append, List.nil_append] at S
  refine r_stC S rfl rfl rfl (fun o' => .tail (.tail (.tail (.tail .head)))) nm ?_
  clear S nm
  intro h₃ oNm' nm S
  repeat (walk_at "A")
  refine wpAny_isTrue_Compare1 ?_
  walk_at "A"
  refine r_ldC S rfl rfl rfl (.tail _ (.tail _ (.tail _ (.tail _ (.head _))))) nm ?_
  refine r_compS S (cl := [(Str.ofString "size", L + 1 + 1 + 1 + 1), (Str.ofString "row", L + 1 + 1)]) (fun u y => ∃ i : Nat, ∃ t t', u = .int (i : Nat) t ∧ y = .bytes (rb.extract i (i + z)) t') (by with_unfolding_all rfl) (by decide) rfl (by decide) rfl ?_
  walk_at "A"
  walk_at "A"
  walk_at "N"
  refine PyProof.Rows.callWith_type1 ?_
  (try dsimp only)
  repeat (walk_at "A")
  refine r_ldC S rfl rfl rfl (.tail _ (.tail _ (.tail _ (.tail _ (.tail _ (.head _)))))) sz ?_
  repeat (walk_at "A")
  (try dsimp only [List.cons_append, List.nil_append])
  refine r_range3 S (by omega) (by omega) (by omega) (by omega) ?_
  intro Rg h₄ S2 k34
  obtain ⟨zr, zs⟩ := rsize hzs
  refine r_riter S2 (.head _) zs ?_
  intro It₂ h₅ S3 k45
  rw [zr] at S3
  have S4 := S3.drop2
  clear S2 S3 k34 k45
  refine ⟨It₂, _, _, 12 / z, _, _, h₅, _, _, _, _, rfl, rfl, S4, (Walks.range (by rfl) It₂ 0 (z : Int) (12 / z)).bound, ?_, ?_, ?_, ?_, ?_⟩
  · rw [sizeLine_eq]
    have := Nat.div_le_self 12 z
    omega
  · have e1 : (0 : Int) + ((0 : Nat) : Int) * (z : Int) = 0 := by simp
    have e2 : ((12 / z : Nat) : Int) - ((0 : Nat) : Int) = ((12 / z : Nat) : Int) := by simp
    rw [e1, e2]
    exact S4.get (.head _)
  · intro b hb
    rw [List.mem_singleton.mp hb]; exact Heap.lt_size (S4.get (.head _))
  · intro C i v s₃ m₃ E' hC hP hns hmx hg hn
    obtain ⟨hi, t, rfl⟩ := hP
    have hiz : i * z + z ≤ 12 := by
      have := (Nat.le_div_iff_mul_le (by omega)).mp (Nat.succ_le_of_lt hi)
      rw [Nat.succ_mul] at this; exact this
    have ei : (0 + (i : Int) * (z : Int)) = ((i * z : Nat) : Int) := by push_cast; omega
    rw [ei] at hmx ⊢
    obtain ⟨th, tg, td, tt, to⟩ := s₃
    refine Subscript_ ?_
    refine r_cellC (c := L + 1 + 1) rfl (hn _ (.tail _ (.tail _ (.tail _ (.tail _ (.tail _ (.tail _ (.tail _ (.head _))))))))) rw' ?_ rfl rfl
    refine wpAny_Slice (evalPart_some_step ?_)
    walk_at "A"
    refine wpAny_loadName_local rfl rfl hns hmx ?_
    refine evalPart_some_step ?_
    walk_at "A"
    walk_at "A"
    refine wpAny_loadName_local rfl rfl hns hmx ?_
    refine r_cellC (c := L + 1 + 1 + 1 + 1) rfl (hn _ (.tail _ (.tail _ (.tail _ (.tail _ (.tail _ (.head _))))))) sz ?_ rfl rfl
    refine add_int ?_
    refine evalPart_none_step ?_
    rw [show ((i * z : Nat) : Int) + (z : Int) = ((i * z + z : Nat) : Int) by push_cast; rfl]
    refine r_bslice (.int _ _) (.int _ _) (by omega) fun t' s' kp => ⟨⟨_, _, t', rfl, ?_⟩, ?_⟩
    · rw [picked_nat _ (by omega) (by omega)]
    · obtain ⟨h9, t9, rfl, k9⟩ := kp
      exact ⟨_, _, rfl, k9⟩
  clear S4
  intro D₂ h₆ tk₆ ys nn S hys hF
  have hbn : BytesAre ys.toList (namesOf z rb) := by
    refine bytesOf (by rw [Array.length_toList, hys]; simp [namesOf]) fun j v e => ?_
    obtain ⟨u, ⟨hj, t, rfl⟩, i, t1, t2, e1, rfl⟩ := hF j v (by simpa using e)
    refine ⟨t2, ?_⟩
    obtain rfl := mul_inj e1
    rw [names_getD hj]
  refine ne_bytesL (xs := vs) (ys := ys.toList) (bs := namesOf z rb) ⟨_, S.get (.tail _ (.head _)), rfl, _, rfl⟩ ⟨_, S.get (.head _), rfl, _, by rw [Array.toArray_toList]⟩ hvs hbn (by have := uni6 (lawEnv L fa cd); omega) ?_
  refine wpAny_truthy_bool ?_
  rw [if_neg (by decide)]
  have S' := S.drop
  clear S hF hbn
  have S := S'
  clear S'
  repeat (walk_at "A")
  walk_at "N"
  refine PyProof.Rows.callWith_type1 ?_
  (try dsimp only)
  walk_at "A"
  have hvl : vs.length = 12 / z := by rw [hvs.length]; simp [namesOf]
  have hz12 : z * (12 / z) = 12 := by rcases hzs with rfl | rfl | rfl | rfl <;> rfl
  refine' r_comp2 (g := g) (L := L) (m := m) (n := z) (vs := vs.toArray) (Nn := D) (cl := [(Str.ofString "names", L + 1 + 1 + 1 + 1 + 1)]) (fun i j y => ∃ t, y = .int (((ob rb).getD (j * z + i) 0 : Nat)) t) (by with_unfolding_all rfl) (by decide) rfl (by decide) rfl rfl (by decide) rfl (by rw [List.size_toArray, hvl, hz12]; decide) ?_
  walk_at "A"
  walk_at "A"
  walk_at "N"
  refine PyProof.Rows.callWith_type1 ?_
  (try dsimp only)
  repeat (walk_at "A")
  refine r_ldC S rfl rfl rfl (.tail _ (.tail _ (.tail _ (.tail _ (.tail _ (.head _)))))) sz ?_
  repeat (walk_at "A")
  (try dsimp only [List.cons_append, List.nil_append])
  refine r_range1 S ?_
  intro Rg₂ h₇ tk₇ t₇ u₇ S2 k67
  refine r_riter S2 (.head _) (small_one (by omega) (by omega) (by omega) (by omega)) ?_
  intro It₃ h₈ S3 k78
  rw [rsize1 hzs] at S3
  have S4 := S3.drop2
  clear S2 S3 k67 k78
  refine ⟨It₃, h₈, _, _, _, _, 0, rfl, rfl, S4, .head _, ?_, ?_, ?_⟩
  · intro C s₃ m₃ E' Q' hC hns hg hn hq
    refine r_cellC (c := L + 1 + 1 + 1 + 1 + 1) rfl (hn _ (.tail _ (.tail _ (.tail _ (.tail _ (.head _)))))) nm ?_ rfl rfl
    exact hq
  · intro C i j v t s₃ m₃ E' hC hi hj hns hm0 hm1 hg hn
    have hjl : j < vs.length := by
      obtain ⟨q, _⟩ := List.getElem?_eq_some_iff.mp (by simpa using hj)
      exact q
    obtain ⟨b, tb, eb, ev⟩ := hvs.get j hjl
    have hjz : j < 12 / z := hvl ▸ hjl
    have ebr : b = rb.extract (j * z) (j * z + z) := by
      have : (namesOf z rb)[j]? = some (rb.extract (j * z) (j * z + z)) := by simp [namesOf, hjz]
      rw [this] at eb; exact (Option.some.inj eb).symm
    have ev' : v = .bytes b tb := by
      rw [← ev]
      have : vs[j]? = some v := by simpa using hj
      rw [List.getElem?_eq_getElem hjl] at this
      exact (Option.some.inj this).symm
    subst ev' ebr
    have hjz2 : j * z + z ≤ 12 := by
      have := (Nat.le_div_iff_mul_le (by omega)).mp (Nat.succ_le_of_lt hjz)
      rw [Nat.succ_mul] at this; exact this
    have hbl : (KBw.bInts (rb.extract (j * z) (j * z + z))).length = z := by
      rw [KBw.ints_length, Array.size_extract, Nat.min_eq_left (by omega)]; omega
    obtain ⟨th, tg, td, tt, to⟩ := s₃
    refine Subscript_ ?_
    walk_at "A"
    refine wpAny_loadName_local rfl rfl hns hm1 ?_
    walk_at "A"
    refine wpAny_loadName_local rfl rfl hns hm0 ?_
    refine KBw.item_K rfl (by rw [hbl]; omega) (by omega) (by rw [hbl]; omega) fun t' k' _ _ => ⟨⟨t', ?_⟩, _, _, rfl, fun _ _ e => e⟩
    rw [Int.toNat_natCast, bint_ob, map_getD, ob_extract hi]
  clear S S4
  intro D₃ h₉ tk₉ ys nn S hys hF
  repeat (walk_at "A")
  rw [show vs.toArray.size = 12 / z by rw [List.size_toArray, hvl]] at hys hF
  have hin := intsNext hzs hys hF
  have hnm : ∀ c ∈ nextOf z (ob rb), 48 ≤ c ∧ c ≤ 122 := next_mem (by rw [ob_len, r12]) hzs oct
  refine r_bytesN rfl S (.head _) hin (fun n hn => by have := hnm n hn; omega) (by rw [next_len _ hzs]; decide) ?_
  intro rb' tr' h₁₀ tk₁₀ S10 hrb'
  have S' := S10.drop
  clear S S10 hin hF hys
  have S := S'
  clear S'
  refine r_stC S rfl rfl rfl (fun o' => .tail (.tail (.tail (.tail (.tail (.tail (.tail .head))))))) rw' ?_
  clear S rw'
  intro h₁₁ oRw' rw' S
  repeat (walk_at "A")
  refine r_ldC S rfl rfl rfl (.tail _ (.tail _ (.tail _ (.tail _ (.tail _ (.tail _ (.head _))))))) pr ?_
  repeat (walk_at "A")
  walk_at "N"
  repeat (walk_at "A")
  refine r_ldC S rfl rfl rfl (.tail _ (.tail _ (.tail _ (.tail _ (.head _))))) nm ?_
  repeat (walk_at "A")
  (try dsimp only [List.cons_append, List.nil_append])
  refine call_len_list (items := vs.toArray) ⟨_, S.get (.head _), rfl, _, rfl⟩ (by rw [List.size_toArray]; have := Nat.div_le_self 12 z; omega) ?_
  rw [show vs.toArray.size = 12 / z by rw [List.size_toArray, hvl]]
  refine mul_int ?_ (hm := mulOk' p11 (Nat.div_le_self 12 z))
  walk_at "A"
  refine mod_int' (by decide) ?_
  rw [prod_nat]
  refine r_stC S rfl rfl rfl (fun o' => .tail (.tail (.tail (.tail (.tail (.tail .head)))))) pr ?_
  clear S pr
  intro h₁₂ oPr' pr S
  have inv' := inv.next (by rw [ob_len, r12]) hzs
  rw [← hrb'] at inv' hnm
  have r12' : rb'.size = 12 := by rw [← ob_len, hrb', next_len _ hzs]
  have p11' : p * (12 / z) % 11 < 11 := Nat.mod_lt _ (by decide)
  generalize p * (12 / z) % 11 = p' at inv' pr p11'
  repeat (walk_at "A")
  refine wpAny_isTrue_Compare1 ?_
  walk_at "A"
  refine r_compS S (cl := [(Str.ofString "row", L + 1 + 1), (Str.ofString "product", L + 1 + 1 + 1)]) (fun u y => ∃ i : Nat, ∃ t t', u = .int (i : Nat) t ∧ y = .int ((ob rb').getD (i * p' % 11) 0 : Nat) t') (by with_unfolding_all rfl) (by decide) rfl (by decide) rfl ?_
  walk_at "A"
  walk_at "A"
  walk_at "N"
  refine PyProof.Rows.callWith_type1 ?_
  (try dsimp only)
  repeat (walk_at "A")
  (try dsimp only [List.cons_append, List.nil_append])
  refine r_range1 S ?_
  intro Rg₄ h₁₃ tk₁₃ t₁₃ u₁₃ S2 k13
  refine r_riter S2 (.head _) (small_one (by omega) (by omega) (by omega) (by omega)) ?_
  intro It₄ h₁₄ S3 k14
  have S4 : St g L m h₁₄ ((It₄, ritO 0 11 1) :: _) := S3.drop2
  clear S2 S3 k13 k14
  refine ⟨It₄, _, _, 11, _, _, h₁₄, _, _, _, _, rfl, rfl, S4, (range_walks (by rfl) 0 11).bound, (by rw [sizeLine_eq]; omega), S4.get (.head _), ?_, ?_, ?_⟩
  · intro b hb
    rw [List.mem_singleton.mp hb]; exact Heap.lt_size (S4.get (.head _))
  · intro C i v s₃ m₃ E' hC hP hns hmx hg hn
    obtain ⟨hi, t, rfl⟩ := hP
    obtain ⟨th, tg, td, tt, to⟩ := s₃
    have hip : i * p' % 11 < 11 := Nat.mod_lt _ (by decide)
    have hbl : (KBw.bInts rb').length = 12 := by rw [KBw.ints_length, r12']
    rw [Int.zero_add] at hmx ⊢
    refine Subscript_ ?_
    refine r_cellC (c := L + 1 + 1) rfl (hn _ (.tail _ (.tail _ (.tail _ (.tail _ (.tail _ (.tail _ (.tail _ (.head _))))))))) rw' ?_ rfl rfl
    walk_at "A"
    walk_at "A"
    walk_at "A"
    refine wpAny_loadName_local rfl rfl hns hmx ?_
    refine r_cellC (c := L + 1 + 1 + 1) rfl (hn _ (.tail _ (.tail _ (.tail _ (.tail _ (.tail _ (.tail _ (.head _)))))))) pr ?_ rfl rfl
    refine mul_int ?_ (hm := mulOk p11' (by omega))
    walk_at "A"
    refine mod_int' (by decide) ?_
    rw [prod_nat]
    refine KBw.item_K rfl (by rw [hbl]; omega) (by omega) (by rw [hbl]; omega) fun t' k' _ _ => ⟨⟨i, t, t', rfl, ?_⟩, _, _, rfl, fun _ _ e => e⟩
    rw [Int.toNat_natCast, bint_ob, map_getD]
  clear S S4
  intro D₅ h₁₅ tk₁₅ ys₅ n₅ S hys hF
  have hin : IntsAre ys₅.toList (((List.range 11).map fun k => (ob rb').getD (k * p' % 11) 0).map fun n : Nat => (n : Int)) := by
    refine intsBy (by rw [Array.length_toList, hys]; rfl) fun q hq => ?_
    have hq : q < 11 := by simpa using hq
    obtain ⟨u, ⟨_, t, rfl⟩, i, t1, t2, e1, e2⟩ := hF q (ys₅[q]'(by omega)) (Array.getElem?_eq_getElem (by omega))
    simp only [Value.int.injEq] at e1
    obtain rfl : i = q := by omega
    refine ⟨t2, ?_⟩
    rw [Array.getElem?_toList, Array.getElem?_eq_getElem (by omega), e2]
    simp [hq]
  repeat (walk_at "A")
  refine Subscript_ ?_
  walk_at "A"
  refine r_ldC S rfl rfl rfl (.tail _ (.tail _ (.tail _ (.tail _ (.tail _ (.tail _ (.tail _ (.tail _ (.head _))))))))) rw' ?_
  walk_at "A"
  have hbl : (KBw.bInts rb').length = 12 := by rw [KBw.ints_length, r12']
  refine KBw.item_K rfl (by rw [hbl]; omega) (by omega) (by rw [hbl]; omega) fun t' k' _ _ => ?_
  rw [show (11 : Int).toNat = 11 from rfl, bint_ob, map_getD]
  repeat (walk_at "A")
  refine add_arrays_ints (its := ys₅) (its2 := #[.int ((ob rb').getD 11 0 : Nat) t']) S.F S.N ⟨_, S.get (.tail _ (.head _)), rfl, _, rfl⟩ ⟨_, S.get (.head _), rfl, _, rfl⟩ hin (.cons _ _ .nil) ?_ (hsz := ?_)
  · intro h₁₆ F16 N16 hI16
    have S16 := St.newAt S F16 N16
    clear S F16 N16 hin hF
    have S := S16
    clear S16
    have hin : IntsAre (ys₅.toList ++ (#[Value.int ((ob rb').getD 11 0 : Nat) t'] : Array Value).toList) ((ob st).map fun n : Nat => (n : Int)) := by
      rw [← inv_list inv' (by rw [ob_len, s12]) (by rw [ob_len, r12']), List.map_append]
      exact hI16
    clear hI16
    dsimp only at S ⊢
    refine r_compS S (cl := []) (fun u y => y = u) (closureFor_none (by decide)) (by decide) rfl (by decide) rfl ?_
    walk_at "A"
    refine r_ld S rfl rfl rfl mst ?_
    refine KBw.pyIter_bytes ?_
    refine ⟨_, _, _, _, _, _, _, _, _, _, _, rfl, rfl, S.push rfl, KBw.walks (A := callerA.deeper (lawEnv L fa cd)) rfl _ st tst, ?_, ?_, ?_, ?_, ?_⟩
    · rw [sizeLine_eq]; omega
    · exact ⟨_, Heap.get?_push_size _ rfl, rfl, rfl⟩
    · simp [Heap.size_push]
    · intro C' i v' s₃ m₃ E' hC' hP hns hmx hg hn
      walk_at "A"
      refine wpAny_loadName_local rfl rfl hns hmx ?_
      exact ⟨rfl, _, _, rfl, fun _ _ e => e⟩
    intro D₆ h₁₇ tk₁₇ ys₆ n₆ S7 hys6 hF6
    have hin6 : IntsAre ys₆.toList ((ob st).map fun n : Nat => (n : Int)) := by
      refine intsBy (by rw [Array.length_toList, hys6, ob_len]) fun q hq => ?_
      rw [ob_len] at hq
      obtain ⟨u, ⟨c, u', hc, rfl⟩, e2⟩ := hF6 q (ys₆[q]'(by omega)) (Array.getElem?_eq_getElem (by omega))
      refine ⟨u', ?_⟩
      rw [Array.getElem?_toList, Array.getElem?_eq_getElem (by omega), e2]
      rw [show (ob st).getD q 0 = c.toNat by simp [ob, List.getD_eq_getElem?_getD, show st[q]? = some c from hc]]
    refine ke_ne_ints (xs := _) (ys := ys₆.toList) (ns := (ob st).map fun n : Nat => (n : Int)) (ms := (ob st).map fun n : Nat => (n : Int)) ⟨_, S7.get (.tail _ (.head _)), rfl, _, rfl⟩ ⟨_, S7.get (.head _), rfl, _, by rw [Array.toArray_toList]⟩ hin hin6 (by have := uni6 (lawEnv L fa cd); omega) ?_
    refine wpAny_truthy_bool ?_
    rw [decide_eq_true rfl]
    rw [if_neg (by decide)]
    walk_at "A"
    walk_at "A"
    refine k _ _ _ _ _ _ _ _ _ _ _ _ _ ⟨S7.drop.drop.drop.drop.drop, t1', t2', ic, idt, ⟨_, nm⟩, ⟨_, sz⟩, pr, rw', r12', hnm, inv', s12, p11', mst, G.2.2 bare⟩
  · rw [sizeLine_eq]; simp

-- Q34
theorem loop_spec {w : World} {mg mb : Str → Option Value} {g h : Heap} {L fa : Addr} {cd : Value} {st : Array UInt8} {tst : Tok} {its : Array Value} {Lst It : Addr} {gg : Array GenState} {d : Drawn} {tk : Nat} {os : OsState} {m : Str → Option Value} {oI o1 o2 oNm oSz oPr oRw oSc : Obj} {rb : Array UInt8} {tr : Tok} {p : Nat} {tp : Tok} {nl : Nat} {px : Pos} {R : Result → Shared → Prop}
   (X : (KK w).In g) (T : Tr mg mb g) (hint : ∀ (j : Nat) v, its[j]? = some v → ∃ i t, v = .int i t) (R0 : RI g L st tst its Lst It 0 h gg m oI o1 o2 oNm oSz oPr oRw oSc rb tr p tp nl)
   (k : ∀ h' gg' tk' m' o1' o2' rest, St g L m' h' ((140, o1') :: (147, o2') :: rest) → TabOk o1' → TabOk o2' → AllBare gg' → R (.ok .next) ⟨h', gg', d, tk', os⟩) :
   codeAny (model Prg w) (callerA.deeper (lawEnv L fa cd)) (.forLoop (.Name (Str.ofString "x") px) (.ref It) loopStmts [] (lawEnv L fa cd)) R ⟨h, gg, d, tk, os⟩ := by
  refine codeAny_forLoop (fun n s' => ∃ j h gg tk m oI o1 o2 oNm oSz oPr oRw rb tr p tp, j + n = its.size ∧ s' = ⟨h, gg, d, tk, os⟩ ∧ RI g L st tst its Lst It j h gg m oI o1 o2 oNm oSz oPr oRw oSc rb tr p tp nl) ?_ its.size
    ⟨0, h, gg, tk, m, oI, o1, o2, oNm, oSz, oPr, oRw, rb, tr, p, tp, Nat.zero_add _, rfl, R0⟩
  rintro n _ ⟨j, h, gg, tk, m, oI, o1, o2, oNm, oSz, oPr, oRw, rb, tr, p, tp, hjn, rfl, Rj⟩
  have hl : SeqIs h Lst its := ⟨_, _, Rj.S.get (.tail _ (.tail _ (.tail _ (.tail _ (.tail _ (.tail _ (.tail _ (.tail _ (.head _))))))))), rfl⟩
  cases n with
  | zero =>
    refine r_lend rfl Rj.S Rj.ic Rj.idt hl (by simp; omega) fun h' S' _ => wpAny_execs_nil ?_
    exact k _ _ _ _ _ _ _ S' Rj.t1 Rj.t2 Rj.bare
  | succ n =>
    have hj : j < its.size := by omega
    refine r_lnext Rj.S Rj.ic Rj.idt hl (Array.getElem?_eq_getElem hj) fun h' o' oc od S' _ => ?_
    obtain ⟨x, tx, ex⟩ := hint j _ (Array.getElem?_eq_getElem hj)
    rw [ex]
    refine wpAny_assign_Name (r_st S' rfl rfl rfl fun h'' tk'' S'' => ?_)
    refine turn_spec (tst := tst) (x := x) (tx := tx) X T (j := j + 1) ⟨S'', Rj.t1, Rj.t2, oc, od, Rj.nm, Rj.sz, Rj.pr, Rj.rw, Rj.r12, Rj.oct, Rj.inv, Rj.s12, Rj.p11, ?_, Rj.bare⟩ ?_ ?_
    · show (if _ = _ then _ else _) = _
      rw [if_neg (by decide)]; exact Rj.mst
    · show (if _ = _ then _ else _) = _
      rw [if_pos rfl]
    · intro h3 gg3 tk3 o1' o2' oNm' oSz' oPr' oRw' rb' tr' p' tp' R'
      exact ⟨n, Nat.lt_succ_self _, j + 1, _, _, _, _, _, _, _, _, _, _, _, _, _, _, _, by omega, rfl, R'⟩

-- Q35
/-- the code tables alone have grown -/
theorem oldK_tabs {h₁ h' : Heap} {tabs : List (Addr × Addr)} (hT : TabsAt tabs h₁) (k : ∀ b o, h₁.get? b = some o → b ∉ tabs.map (·.2) → h'.get? b = some o) (hg : ∀ P ∈ tabs.map (·.2), ∃ ps, h'.get? P = some (tabObj ps)) : OldK h₁ h' := by
  have key : ∀ b o, h₁.get? b = some o → b ∈ tabs.map (·.2) → o = tabObj #[] ∧ isCodeTable h₁ b := fun b o e hb => by
    obtain ⟨q, hq, rfl⟩ := List.mem_map.mp hb
    obtain ⟨hc, ht⟩ := hT q hq
    exact ⟨Option.some.inj (e.symm.trans ht), (hc.tab ht).isCodeTable⟩
  refine ⟨fun b o e => ?_, fun b o e => ?_⟩ <;> by_cases hb : b ∈ tabs.map (·.2)
  · obtain ⟨rfl, hc⟩ := key b o e hb
    obtain ⟨ps, hps⟩ := hg b hb
    exact .inr (.inl ⟨hc, rfl, #[], ps, rfl, by simpa using hps⟩)
  · exact .inl (k b o e hb)
  · obtain ⟨ps, hps⟩ := hg b hb
    exact ⟨_, hps⟩
  · exact ⟨o, k b o e hb⟩
/-- what a run of law must leave, so that it counts: True -/
theorem law_post {M : Model} {A : Around} {cd : Code} {s s₁ : Shared} {cw : ClaimW} {cl : Str → Option Addr} {mean : ExcName → Option Value} {args : List WData} {tabs : List (Addr × Addr)} (hT : TabsAt tabs s₁.heap) (hr : ∀ x, cw.raises args x = false) (hp : cw.post args (.bool true) args = true)
    (h : codeAny M A cd (fun r s' => r = .ok (.ret (.bool true)) ∧ (∀ b o, s₁.heap.get? b = some o → b ∉ tabs.map (·.2) → s'.heap.get? b = some o) ∧ (∀ P ∈ tabs.map (·.2), ∃ ps, s'.heap.get? P = some (tabObj ps)) ∧ s'.os = s₁.os ∧ AllBare s'.gens) s) : codeAny M A cd (GoodWG cw cl mean args s₁) s :=
  codeAny_mono h fun r s' ⟨hc, hk, hgr, hos, hg⟩ => ⟨.inl ⟨_, _, _, hc, hr, .bool true, hp, unshared_nil⟩, oldK_tabs hT hk hgr, hos, hg⟩

-- Q28
theorem St.law {g h₀ h : Heap} {L : Addr} {m : Str → Option Value} {news : List (Addr × Obj)} (hT : ∀ P ∈ [140, 147], h₀.get? P = some (tabObj #[])) (F : Fr h₀ L h m) (N : News h₀ L h news) (hg : hideAll h₀ [140, 147] = g) (hz : h₀.objs.size = L) (nd : (news.map (·.1)).Nodup) (hab : ∀ q ∈ news, L < q.1) :
    St g L m h ((140, tabObj #[]) :: (147, tabObj #[]) :: news) := by
  subst hg
  have t1 := hT 140 (.head _)
  have t2 := hT 147 (.tail _ (.head _))
  have l1 : @LT.lt Nat _ 140 L := hz ▸ Heap.lt_size t1
  have l2 : @LT.lt Nat _ 147 L := hz ▸ Heap.lt_size t2
  refine ⟨⟨F.ns, fun b o e => F.keep b o (of_hideAll _ e), by rw [hideAll_size]; exact F.above⟩, List.forall_mem_cons.2 ⟨⟨F.keep _ _ t1, Nat.ne_of_lt l1, hideAll_none _ (.head _)⟩, List.forall_mem_cons.2 ⟨⟨F.keep _ _ t2, Nat.ne_of_lt l2, hideAll_none _ (.tail _ (.head _))⟩, fun q hq => ?_⟩⟩, ?_⟩
  · refine ⟨(N q hq).1, (N q hq).2.1, ?_⟩
    cases e : (hideAll h₀ [140, 147]).get? q.1 with
    | none => rfl
    | some o => have := (N q hq).2.2; rw [of_hideAll _ e] at this; cases this
  · have far : ∀ a : Nat, a < L → a ∉ news.map (·.1) := fun a ha hm => by
      obtain ⟨p, hp, e⟩ := List.mem_map.mp hm
      exact Nat.lt_irrefl _ (Nat.lt_trans ha (e ▸ hab p hp))
    simp only [List.map_cons, List.nodup_cons, List.mem_cons, not_or]
    exact ⟨⟨by decide, far _ l1⟩, far _ l2, nd⟩
theorem five_nd (n : Nat) : ([n + 1 + 1 + 1 + 1 + 1, n + 1 + 1 + 1 + 1, n + 1 + 1 + 1, n + 1 + 1, n + 1] : List Nat).Nodup := by
  simp only [List.nodup_cons, List.mem_cons, List.not_mem_nil, or_false, not_or, not_false_iff, and_true, List.nodup_nil]
  omega
theorem five_lt (n : Nat) : ∀ a ∈ ([n + 1 + 1 + 1 + 1 + 1, n + 1 + 1 + 1 + 1, n + 1 + 1 + 1, n + 1 + 1, n + 1] : List Nat), n < a := by
  simp only [List.forall_mem_cons]
  refine ⟨?_, ?_, ?_, ?_, ?_, List.forall_mem_nil _⟩ <;> omega
theorem St.reorder {g h : Heap} {L : Addr} {m : Str → Option Value} {i l a : Addr × Obj} {rest : List (Addr × Obj)} (S : St g L m h (i :: l :: a :: rest)) : St g L m h (i :: (rest ++ [l])) := by
  refine (S.perm (l' := a :: i :: (rest ++ [l])) ?_).drop
  have h1 : List.Perm (i :: l :: a :: rest) (a :: i :: l :: rest) := ((List.Perm.swap a l rest).cons i).trans (List.Perm.swap a i (l :: rest))
  have h2 : List.Perm (l :: rest) (rest ++ [l]) := (List.perm_append_comm (l₁ := [l]) (l₂ := rest))
  exact h1.trans ((h2.cons i).cons a)
theorem T : Challenge.rw_op0108_01.Holds := hd (by
  k_fill
  intro w s₀ s₁ mg mb G Y fa o pm cd doc dV kV ho hd hcd hD hmg hg args vals as hpre hlay hrd hwl hlo
  have KX := km_in_of Y
  have TT := km_tabs_of Y
  have TZ : TabsAt tabs2 s₁.heap := List.forall_mem_cons.2 ⟨⟨codeHd_of_K KX (by kernel_rfl), TT 140 (.head _)⟩, List.forall_mem_cons.2 ⟨⟨codeHd_of_K KX (by kernel_rfl), TT 147 (.tail _ (.head _))⟩, List.forall_mem_nil _⟩⟩
  have X := (Ground.X G).1
  have V := (Ground.X G).2
  refine Ground.open G ?_
  intro T B D TE TW
  try (refine guard_noD D (by decide +kernel) ?_; clear D)
  obtain ⟨_, _, M⟩ := bmod_of_top T
  clear hmg
  wrow_args hpre hlay hrd hwl hlo
  refine enter_call ?_
  w_top on
  refine law_post TZ (fun _ => rfl) (by first | rfl | kernel_rfl | with_unfolding_all rfl) ?_
  w_call any ho hd hcd hD T F
  clear hd
  k_drop
  rename Fr _ _ _ _ => F0
  rename News _ _ _ _ => N0
  rename IntsAre _ _ => hI
  rename Heap.IsList _ _ _ => hL
  rename Top _ _ _ _ _ _ => T0
  rename BMod _ _ _ _ _ => M0
  rename CellsAre _ _ _ => C0
  rename Frag.In _ _ => KX0
  rename ∀ P ∈ [140, 147], _ => TT0
  rename World => ww
  generalize hg0 : hideAll _ [140, 147] = g0
  have X : (KK _).In g0 := hg0 ▸ k_hide KX0
  have T : Tr _ _ g0 := hg0 ▸ tr_hide TT0 ⟨topRead_of T0, _, _, M0⟩
  have S := St.law (g := g0) TT0 F0 N0 hg0 rfl (five_nd _) (fun q hq => five_lt _ q.1 (List.mem_map.mpr ⟨q, hq, rfl⟩))
  have hL0 := list_hide TT0 hg0 hL
  have kg : ∀ b o, s₁.heap.get? b = some o → b ∉ ([140, 147] : List Addr) → g0.get? b = some o := fun b o e n => hg0 ▸ hideAll_get _ e n
  clear hg0 F0 N0 G Y
  walk_at "A"
  walk_at "A"
  walk_at "A"
  walk_at "A"
  walk_at "N"
  refine PyProof.Rows.callWith_type1 ?_
  (try dsimp only)
  walk_at "A"
  refine r_compS S (cl := [(Str.ofString "script", s₁.heap.objs.size + 1)]) (fun u y => ∃ n : Nat, ∃ t, y = .int (n : Nat) t ∧ 48 ≤ n ∧ n ≤ 122) (by with_unfolding_all rfl) (by decide) rfl (by decide) rfl ?_
  walk_at "A"
  walk_at "A"
  walk_at "N"
  refine PyProof.Rows.callWith_type1 ?_
  (try dsimp only)
  repeat (walk_at "A")
  (try dsimp only [List.cons_append, List.nil_append])
  refine r_range1 S ?_
  intro Rg h₅ tk₅ t₅ u₅ S2 k45
  refine r_riter S2 (.head _) (small_one (by omega) (by omega) (by omega) (by omega)) ?_
  intro It h₆ S3 k56
  have S4 : St g0 _ _ h₆ ((It, ritO 0 12 1) :: _) := ⟨S3.F, List.forall_mem_cons.2 ⟨S3.N _ (.head _), fun q hq => S3.N q (.tail _ (.tail _ hq))⟩, by
    have := S3.nd
    simp only [List.map_cons, List.nodup_cons, List.mem_cons, not_or] at this ⊢
    exact ⟨this.1.2, this.2.2⟩⟩
  refine ⟨It, _, _, 12, _, _, h₆, _, _, _, _, rfl, rfl, S4, range_walks (by rfl) 0 12, (by rw [sizeLine_eq]; omega), S4.get (.head _), ?_, ?_, ?_⟩
  · intro b hb
    rw [List.mem_singleton.mp hb]; exact Heap.lt_size (S4.get (.head _))
  · intro C i v s₃ m₃ E' hC hP hns hmx hg hn
    obtain ⟨t, rfl⟩ := hP
    have X3 := X.keeps hg
    have T3 := T.keeps hg
    obtain ⟨th, tg, td, tt, to⟩ := s₃
    repeat (walk_at "A")
    refine ldB X3 T3 rfl rfl rfl rfl (nb_sum ww) bb_sum (by decide) ?_
    repeat (walk_at "A")
    refine Subscript_ ?_
    refine r_cellC (c := s₁.heap.objs.size + 1) rfl (hn _ (.tail _ (.tail _ (.tail _ (.tail _ (.tail _ (.tail _ (.head _)))))))) ((by assumption : Obj.data _ = _).trans (by with_unfolding_all rfl)) ?_ rfl rfl
    refine wpAny_Slice (evalPart_some_step ?_)
    walk_at "A"
    refine wpAny_loadName_local rfl rfl hns hmx ?_
    refine evalPart_some_step ?_
    walk_at "A"
    refine evalPart_some_step ?_
    walk_at "A"
    refine r_slice3K (hL0.at fun o e => hg _ _ e) (.int _ _) (.int _ _) (.int _ _) (by decide) ?_ (hsz := ?_)
    · intro D s₄ kp4 hD
      obtain ⟨h4, t4, rfl, k4⟩ := id kp4
      walk_at "A"
      (try dsimp only [List.cons_append, List.nil_append])
      refine r_sumK (by rfl) hD (fun j v e => by obtain ⟨i', e'⟩ := slicePick_mem e; exact intsGet hI i' v e') fun i' t' s₅ kp5 => ?_
      obtain ⟨h5, t5, rfl, k5⟩ := id kp5
      have hns5 : h5.Ns C m₃ := hns.at' fun o e => k5 _ _ (k4 _ _ e)
      walk_at "A"
      walk_at "A"
      walk_at "A"
      refine wpAny_loadName_local rfl rfl hns5 hmx ?_
      refine mul_int ?_
      refine add_int ?_
      walk_at "A"
      refine mod_int' (by omega) ?_
      refine add_int ?_
      refine ⟨?_, h5, _, rfl, fun b o e => k5 _ _ (k4 _ _ e)⟩
      obtain ⟨n, e, n1, n2⟩ := n75 (i' + 7 * (0 + (i : Int)))
      exact ⟨n, _, congrArg (fun z => Value.int z _) e, n1, n2⟩
    · rw [sizeLine_eq, List.size_toArray, hI.length]; omega
  clear S S2 S3 S4 k45 k56
  intro D h₇ tk₇ ys nn S hys hF
  repeat (walk_at "A")
  obtain ⟨ns, hns, hnl, hnr⟩ := intsOf (P := fun n => 48 ≤ n ∧ n ≤ 122) ys.toList (fun j v e => by
    obtain ⟨u, _, n, t, rfl, hp⟩ := hF j v (by simpa using e)
    exact ⟨n, t, rfl, hp⟩)
  have hn12 : ns.length = 12 := by rw [hnl, Array.length_toList, hys]
  refine r_bytesN (by rfl) S (.head _) hns (fun n hn => by have := hnr n hn; omega) (by omega) ?_
  intro st tst h₈ tk₈ S8 hst
  have S9 := S8.drop
  clear S S8 hns hnl hF hys
  have S := S9
  clear S9
  walk_at "A"
  walk_at "A"
  walk_at "A"
  walk_at "A"
  walk_at "A"
  refine r_stC S rfl rfl rfl (fun o' => .tail (.tail (.tail (.tail (.tail .head))))) (by assumption) ?_
  clear S
  intro h₉ oRow hRow S
  repeat (walk_at "A")
  refine r_stC S rfl rfl rfl (fun o' => .tail (.tail (.tail (.tail .head)))) (by assumption) ?_
  clear S
  intro h₁₀ oPrd hPrd S
  repeat (walk_at "A")
  refine wpAny_For ?_
  repeat (walk_at "A")
  walk_at "N"
  refine PyProof.Rows.callWith_type1 ?_
  (try dsimp only)
  walk_at "A"
  refine Subscript_ ?_
  walk_at "A"
  refine r_ldC S rfl rfl rfl (.tail _ (.tail _ (.tail _ (.tail _ (.tail _ (.tail _ (.tail _ (.head _)))))))) ((by assumption : Obj.data _ = _).trans (by with_unfolding_all rfl)) ?_
  refine wpAny_Slice (evalPart_none_step (evalPart_some_step ?_))
  walk_at "A"
  refine evalPart_none_step ?_
  refine r_slice3K (hL0.at fun o e => S.F.keep _ _ e) .none (.int _ _) .none (by decide) ?_ (hsz := ?_)
  · intro D₂ s₄ kp4 hD₂
    obtain ⟨h11, t11, rfl, k11⟩ := id kp4
    have S' := S.keeps k11
    clear S
    have S := S'
    clear S'
    repeat (walk_at "A")
    obtain ⟨oD, eD, cD, nD, dD⟩ := id hD₂
    refine call_list_seq D₂ (.inl rfl) eD cD dD ?_ (hsz := ?_)
    · intro h12 c12 k12 e12
      have S' := S.keeps k12
      clear S
      have S := S'
      clear S'
      have hsl := kmk_upto (y := 10) hI (by omega)
      have hD3 : h12.IsList _ (slicePick _ none (some 10) none) := ⟨_, e12, rfl, _, rfl⟩
      refine add_arrays_ints (its := #[.int 21 _, .int 83 _]) S.F S.N ⟨_, S.get (.head _), rfl, _, rfl⟩ hD3 (.cons _ _ (.cons _ _ .nil)) hsl ?_ (hsz := ?_)
      · intro h13 F13 N13 hI13
        have S13 := St.newAt S F13 N13
        clear S F13 N13
        have S := S13
        clear S13
        refine wpAny_pyIter_list (items := ([Value.int 21 _, .int 83 _] ++ (slicePick _ none (some 10) none).toList).toArray) ⟨_, S.get (.head _), rfl, _, rfl⟩ ?_
        dsimp only
        dsimp only at S
        have S14 := (S.push (o := ⟨.type "list_iterator", none, .fields #[.ref h12.objs.size, .int 0 0], #[]⟩) rfl).reorder
        dsimp only [List.cons_append, List.nil_append] at S14
        have hs12 : st.size = 12 := by rw [← ob_len, hst, hn12]
        refine loop_spec (st := st) (tst := tst) (Lst := h12.objs.size) (its := ([Value.int 21 _, .int 83 _] ++ (slicePick _ none (some 10) none).toList).toArray) X T (intsGet hI13) ⟨S14, tabOk0, tabOk0, rfl, rfl, ⟨_, by assumption⟩, ⟨_, by assumption⟩, hPrd, hRow, hs12, (fun c hc => hnr c (hst ▸ hc)), Inv.start _, hs12, by decide, ?_, AllBare.of_eq hg⟩ ?_
        · show (if _ = _ then _ else _) = _
          rw [if_pos rfl]
        · intro h15 gg15 tk15 m15 o1 o2 rest S15 t1 t2 bare
          obtain ⟨p1, _, _, e1⟩ := t1
          obtain ⟨p2, _, _, e2⟩ := t2
          dsimp only
          repeat (walk_at "A")
          refine wpAny_Constant_bool ?_
          refine ⟨rfl, fun b o e n => S15.F.keep _ _ (kg b o e n), List.forall_mem_cons.2 ⟨⟨p1, (S15.get (.head _)).trans (congrArg some e1)⟩, List.forall_mem_cons.2 ⟨⟨p2, (S15.get (.tail _ (.head _))).trans (congrArg some e2)⟩, List.forall_mem_nil _⟩⟩, rfl, bare⟩
      · rw [List.length_take, sizeLine_eq]; simp; omega
    · exact Nat.le_trans (slicePick_size_le _ _ _ _) (by rw [sizeLine_eq, List.size_toArray, hI.length]; omega)
  · rw [sizeLine_eq, List.size_toArray, hI.length]; omega)

end Mine
end

theorem PySem.Challenge.cw_op0108_01_holds : PySem.Challenge.rw_op0108_01.Holds :=
  Mine.T
