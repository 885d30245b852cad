import PyProof.Rows.All
import Wide.All
import OpenK.AllK
import Wide.FinOn
import Lean
import PySem.Challenge.RW_eh5006_01
open PySem PySem.W PyProof.Rows
set_option Elab.async false
set_option maxRecDepth 100000
set_option maxHeartbeats 0
namespace Mine
/-- the row itself is well said -/
theorem okRow : PySem.Challenge.rw_eh5006_01.wellSaid = true := by k_qdec
def hd := (by
  refine ⟨?hl, fun walk => ?hx⟩
  rotate_left
  refine (fun (_ : type_of% walk) => ?hy) ?hc
  rotate_left
  exact walk
  rotate_left
  have k1 : PySem.Challenge.rw_eh5006_01.row.wellSaid = true := row_said okRow
  k_head
  case hw => w_witness2 : LeftO PySem.Challenge.pw_eh5006_01 _ _ _ _ _ _ ∧ (_ → PySem.Challenge.rw_eh5006_01.row.Holds))

example : PySem.Challenge.rw_eh5006_01 = PySem.Challenge.rw_eh5006_01 ∧ Mine.hd.heap_1 = Mine.hd.heap_1 := by
  k_fill
  exact ⟨rfl, rfl⟩
section
open PySem.Calls

/-- the codes whose standing on the stack lets a bytearray count as lent -/
def badIds : List String := ["bytearray.__contains__", "bytearray.__mod__", "bytearray.__rmod__", "_struct.pack_into.held", "bytearray.find.held"] ++ Builtin.Bytes.decodersThatHold
def badCode : Code → Bool
  | .builtin id _ => badIds.contains id
  | _ => false
/-- below the code: nothing lends a bytearray, and the claim's caller stands -/
def CleanL (l : List (Code × Pos)) : Prop := (∀ c ∈ l, badCode c.1 = false) ∧ ∃ c ∈ l, c.1 = Code.builtin "claim.caller" {}
def CleanA (c : Code) (l : List (Code × Pos)) : Prop := (∀ c ∈ l, badCode c.1 = false) ∧ (c = Code.builtin "claim.caller" {} ∨ ∃ c ∈ l, c.1 = Code.builtin "claim.caller" {})
theorem CleanL.toA {c : Code} {l : List (Code × Pos)} (h : CleanL l) : CleanA c l := ⟨h.1, .inr h.2⟩

def wpX {α : Type} (M : Model) (A : Around) (t : Sem α) (Q : α → Shared → Prop) (E : Value → Shared → Prop) (s : Shared) : Prop :=
  ∀ Γ p, Γ.In A → badCode Γ.code = false → CleanA Γ.code Γ.below → Sem.wp M Γ t (fun a _ s' => Q a s') (fun e _ s' => E e s') p s
def codeX (M : Model) (A : Around) (c : Code) (R : Result → Shared → Prop) (s : Shared) : Prop :=
  ∀ Γ p, Γ.code = c → Γ.Below A → CleanL Γ.below → wpCode M Γ R p s

section
variable {α β : Type} {M : Model} {A : Around} {E : Value → Shared → Prop} {s : Shared}

theorem wpX_of {t : Sem α} {Q : α → Shared → Prop} (h : wpAny M A t Q E s) : wpX M A t Q E s := fun Γ p hΓ _ _ => h Γ p hΓ
theorem codeX_of {c : Code} {R : Result → Shared → Prop} (h : codeAny M A c R s) : codeX M A c R s := fun Γ p hc hΓ _ => h Γ p hc hΓ

theorem wpX_pure {a : α} {Q : α → Shared → Prop} (h : Q a s) : wpX M A (pure a) Q E s := fun _ _ _ _ _ => h
theorem wpX_mono {t : Sem α} {Q Q' : α → Shared → Prop} {E' : Value → Shared → Prop} (h : wpX M A t Q E s)
    (hQ : ∀ a s, Q a s → Q' a s) (hE : ∀ e s, E e s → E' e s) : wpX M A t Q' E' s :=
  fun Γ p hΓ hb hc => Sem.wp_mono M Γ t (fun a _ s => hQ a s) (fun e _ s => hE e s) p s (h Γ p hΓ hb hc)
theorem codeX_mono {c : Code} {R R' : Result → Shared → Prop} (h : codeX M A c R s) (hR : ∀ r s, R r s → R' r s) : codeX M A c R' s :=
  fun Γ p hc hΓ hl => wpCode_mono hR (h Γ p hc hΓ hl)
theorem wpX_bind {m : Sem α} {f : α → Sem β} {Q : β → Shared → Prop} (h : wpX M A m (fun a s' => wpX M A (f a) Q E s') E s) :
    wpX M A (m >>= f) Q E s := fun Γ p hΓ hb hc => by
  rw [Sem.wp_bind']
  exact Sem.wp_mono M Γ m (fun a p' s' h' => h' Γ p' hΓ hb hc) (fun _ _ _ h' => h') p s (h Γ p hΓ hb hc)
/-- a first part that the library's logic walks -/
theorem wpX_bindA {m : Sem α} {f : α → Sem β} {Q : β → Shared → Prop} (h : wpAny M A m (fun a s' => wpX M A (f a) Q E s') E s) :
    wpX M A (m >>= f) Q E s := wpX_bind (wpX_of h)
theorem wpX_of_eq {t t' : Sem α} {Q : α → Shared → Prop} (e : t = t') (h : wpX M A t' Q E s) : wpX M A t Q E s := e ▸ h
theorem wpX_eq_bind {m : Sem α} {a : α} {f : α → Sem β} {Q : β → Shared → Prop} (e : m = pure a) (h : wpX M A (f a) Q E s) : wpX M A (m >>= f) Q E s := by
  subst e; exact wpX_bind (wpX_pure h)
theorem wpX_tryCatch {m : Sem α} {k : Value → Sem α} {Q : α → Shared → Prop} (h : wpX M A m Q (fun e s' => wpX M A (k e) Q E s') s) :
    wpX M A (tryCatch m k) Q E s := fun Γ p hΓ hb hc => by
  rw [Sem.wp_tryCatch']
  exact Sem.wp_mono M Γ m (fun _ _ _ h' => h') (fun e p' s' h' => h' Γ p' hΓ hb hc) p s (h Γ p hΓ hb hc)
theorem wpX_onRaise {m : Sem α} {k : Value → Sem Unit} {Q : α → Shared → Prop}
    (h : wpX M A m Q (fun e s' => wpX M A (k e) (fun _ s'' => E e s'') E s') s) : wpX M A (m.onRaise k) Q E s := fun Γ p hΓ hb hc => by
  rw [Sem.wp_onRaise]
  exact Sem.wp_mono M Γ m (fun _ _ _ h' => h') (fun e p' s' h' => h' Γ p' hΓ hb hc) p s (h Γ p hΓ hb hc)
theorem wpX_attempt {m : Sem α} {Q : Except Value α → Shared → Prop} (h : wpX M A m (fun a => Q (.ok a)) (fun e => Q (.error e)) s) :
    wpX M A m.attempt Q E s := fun Γ p hΓ hb hc => by rw [Sem.wp_attempt]; exact h Γ p hΓ hb hc
theorem wpX_holding {vs : List Value} {m : Sem α} {Q : α → Shared → Prop} (h : wpX M A m Q E s) : wpX M A (holding vs m) Q E s :=
  fun Γ p hΓ hb hc => by rw [Sem.wp_holding]; exact h Γ p hΓ hb hc
theorem wpX_keep {vs : List Value} {m : Sem α} {Q : α → Shared → Prop} (h : wpX M A m Q E s) : wpX M A (m.keep vs) Q E s :=
  fun Γ p hΓ hb hc => by rw [Sem.wp_keep]; exact h Γ p hΓ hb hc
theorem wpX_rule {tag : String} {Q : Unit → Shared → Prop} (h : Q () s) : wpX M A (rule tag) Q E s := fun _ _ _ _ _ => h
theorem wpX_standAt {pos : Pos} {Q : Unit → Shared → Prop} (h : Q () s) : wpX M A (standAt pos) Q E s := fun _ _ _ _ _ => h
theorem wpX_operate {vs : List Value} {m : Sem Value} {Q : Value → Shared → Prop} (h : wpX M A m Q E s) : wpX M A (operate vs m) Q E s :=
  fun Γ p hΓ hb hc => by rw [Sem.wp_operate]; exact h Γ p hΓ hb hc

theorem clean_enter {Γ : Ctx} (hb : badCode Γ.code = false) (hc : CleanA Γ.code Γ.below) (c : Code) (h : Option Value) (p : Pos) : CleanL (Γ.enter c h p).below := by
  refine ⟨fun x hx => ?_, ?_⟩
  · rcases List.mem_cons.mp hx with rfl | hx
    · exact hb
    · exact hc.1 x hx
  · rcases hc.2 with e | ⟨x, hx, e⟩
    · exact ⟨_, .head _, e⟩
    · exact ⟨x, .tail _ hx, e⟩

theorem wpX_run {c : Code} {h : Option Value} {Q : Flow → Shared → Prop}
    (hc : codeX M (A.mark h) c (fun r s' => match r with | .ok f => Q f s' | .error e => E e s') s) (hnb : h ≠ some byPass := by intro x; cases x) :
    wpX M A (run c h) Q E s :=
  fun Γ p hΓ hb hl => by rw [Sem.wp_run]; exact hc _ p rfl (hΓ.enter c h p hnb) (clean_enter hb hl c h p)
theorem wpX_runValue {c : Code} {Q : Value → Shared → Prop}
    (hc : codeX M A c (fun r s' => match r with | .ok (.ret v) => Q v s' | .ok _ => False | .error e => E e s') s) :
    wpX M A (runValue c) Q E s := fun Γ p hΓ hb hl => by
  rw [Sem.wp_runValue]; exact hc _ p rfl (hΓ.enter c none p (by intro x; cases x)) (clean_enter hb hl c none p)
theorem wpX_call {f : Value} {pos : List Value} {kw : List (Str × Value)} {Q : Value → Shared → Prop}
    (hc : codeX M A (.call f ⟨pos, kw⟩) (fun r s' => match r with | .ok (.ret v) => Q v s' | .ok _ => False | .error e => E e s') s) :
    wpX M A (call f pos kw) Q E s := wpX_runValue hc

theorem codeX_of_tree {c : Code} {R : Result → Shared → Prop} (hb : badCode c = false)
    (h : wpX M (A.under c) (M.den c) (fun fin s' => match fin with | .done f => R (.ok f) s' | .again c' => c'.quiet = true ∧ codeX M A c' R s')
      (fun e s' => R (.error e) s') s) : codeX M A c R s := fun Γ p hc hΓ hl => by
  rw [wpCode_iff_wp, hc]
  refine Sem.wp_mono M Γ _ (fun fin p' s' h' => ?_) (fun _ _ _ h' => h') p s (h Γ p (hc ▸ hΓ.in) (hc ▸ hb) hl.toA)
  cases fin with
  | done f => exact h'
  | again c' => exact ⟨h'.1, h'.2 (Γ.goto c') p' rfl (hΓ.goto c') hl⟩
theorem codeX_loop {c : Code} {R : Result → Shared → Prop} (hq : c.quiet = true) (hb : badCode c = false) (I : Nat → Shared → Prop)
    (turn : ∀ n s, I n s → wpX M (A.under c) (M.den c)
      (fun fin s' => match fin with | .done f => R (.ok f) s' | .again c' => c' = c ∧ ∃ m, m < n ∧ I m s') (fun e s' => R (.error e) s') s)
    (n : Nat) (h : I n s) : codeX M A c R s := by
  induction n using Nat.strongRecOn generalizing s with
  | ind n ih =>
    refine codeX_of_tree hb (wpX_mono (turn n s h) (fun fin s' hf => ?_) fun _ _ h' => h')
    cases fin with
    | done f => exact hf
    | again c' => obtain ⟨rfl, m, hm, hI⟩ := hf; exact ⟨hq, ih m hm hI⟩
theorem wpX_of_in1 {t : Sem α} {Q : α → Shared → Prop} (h : wpX M A.in1 t Q E s) : wpX M A t Q E s :=
  fun Γ p hΓ hb hc => h Γ p ⟨hΓ.1, hΓ.2.1, hΓ.2.2.1, hΓ.2.2.2.1, Nat.le_succ_of_le hΓ.2.2.2.2⟩ hb hc
theorem codeX_of_in1 {c : Code} {R : Result → Shared → Prop} (h : codeX M A.in1 c R s) : codeX M A c R s :=
  fun Γ p hc hΓ hl => h Γ p hc ⟨hΓ.1, hΓ.2.1, hΓ.2.2.1, hΓ.2.2.2.1, Nat.le_succ_of_le hΓ.2.2.2.2⟩ hl

/-- nothing on a clean stack lends the bytearray -/
theorem wpX_exported {self : Value} {Q : Bool → Shared → Prop} (h : Q false s) : wpX M A (Builtin.Bytes.exported self) Q E s := fun Γ p hΓ hb hc => by
  unfold Builtin.Bytes.exported
  show Q _ s
  have e : ∀ x ∈ (Γ.code, p) :: Γ.below, (match x with
    | (.builtin "bytearray.__contains__" ⟨v :: _, _⟩, _) | (.builtin "bytearray.__mod__" ⟨v :: _, _⟩, _)
    | (.builtin "bytearray.__rmod__" ⟨_ :: v :: _, _⟩, _) | (.builtin "_struct.pack_into.held" ⟨v :: _, _⟩, _) => Builtin.Bytes.sameRef v self
    | (.builtin "bytearray.find.held" ⟨_ :: _ :: held, _⟩, _) => held.any (Builtin.Bytes.sameRef self)
    | (.builtin id ⟨v :: _, _⟩, _) => Builtin.Bytes.sameRef v self && Builtin.Bytes.decodersThatHold.contains id
    | _ => false) = false := by
    intro x hx
    have hx' : badCode x.1 = false := by
      rcases List.mem_cons.mp hx with rfl | hx
      · exact hb
      · exact hc.1 x hx
    have hbad : ∀ id as, x.1 = .builtin id as → id ∈ badIds → False := fun id as e hm => by
      have hx2 : badCode x.1 = true := by
        rw [e]
        exact List.contains_iff_mem.mpr hm
      rw [hx2] at hx'
      cases hx'
    split
    · exact (hbad _ _ rfl (by decide)).elim
    · exact (hbad _ _ rfl (by decide)).elim
    · exact (hbad _ _ rfl (by decide)).elim
    · exact (hbad _ _ rfl (by decide)).elim
    · exact (hbad _ _ rfl (by decide)).elim
    · rename_i id v _ _ _ _ _ _ _ _
      cases hd : Builtin.Bytes.decodersThatHold.contains id with
      | false => exact Bool.and_false _
      | true => exact (hbad _ _ rfl (List.mem_append_right _ (List.contains_iff_mem.mp hd))).elim
    · rfl
  have e2 := List.any_eq_false.mpr fun x hx => Bool.eq_false_iff.mp (e x hx)
  refine Eq.mp ?_ h
  exact congrArg (fun b => Q b s) e2.symm
end
end

section
open PySem.Calls PySem.Spec

/-- all that stood and is not named stands -/
def Kept (T : List Addr) (h h' : Heap) : Prop := ∀ b o, b ∉ T → h.get? b = some o → h'.get? b = some o
theorem Kept.refl {T : List Addr} {h : Heap} : Kept T h h := fun _ _ _ e => e
theorem Kept.trans {T : List Addr} {h h' h'' : Heap} (a : Kept T h h') (b : Kept T h' h'') : Kept T h h'' := fun x o hx e => b x o hx (a x o hx e)
theorem Kept.of_all {T : List Addr} {h h' : Heap} (a : ∀ b o, h.get? b = some o → h'.get? b = some o) : Kept T h h' := fun x o _ e => a x o e
theorem Kept.all {h h' : Heap} (a : Kept [] h h') : ∀ b o, h.get? b = some o → h'.get? b = some o := fun x o e => a x o (fun hx => nomatch hx) e
theorem Kept.mono {T T' : List Addr} {h h' : Heap} (a : Kept T h h') (hs : ∀ b ∈ T, b ∈ T') : Kept T' h h' := fun x o hx e => a x o (fun q => hx (hs x q)) e
theorem Kept.cut {T T' : List Addr} {h h' : Heap} (a : Kept T h h') (hs : ∀ b ∈ T, b ∈ T' ∨ h.get? b = none) : Kept T' h h' := fun x o hx e => a x o (fun q => (hs x q).elim hx fun z => by rw [z] at e; cases e) e

section
variable {h₀ h h' : Heap} {L : Addr} {m : Str → Option Value} {news : List (Addr × Obj)}
theorem Fr.kept {T : List Addr} (F : Fr h₀ L h m) (k : Kept T h h') (hL : L ∉ T) (hT : ∀ b ∈ T, h₀.get? b = none) : Fr h₀ L h' m := by
  obtain ⟨o, es, ep, ho, r⟩ := F.ns
  exact ⟨⟨o, es, ep, k L o hL ho, r⟩, fun b x e => k b x (fun q => by rw [hT b q] at e; cases e) (F.keep b x e), F.above⟩
theorem News.kept {T : List Addr} (N : News h₀ L h news) (k : Kept T h h') (hn : ∀ q ∈ news, q.1 ∉ T) : News h₀ L h' news :=
  fun q hq => ⟨k q.1 q.2 (hn q hq) (N q hq).1, (N q hq).2⟩
theorem News.sub {news' : List (Addr × Obj)} (N : News h₀ L h news) (hs : ∀ q ∈ news', q ∈ news) : News h₀ L h news' := fun q hq => N q (hs q hq)
theorem News.sub1 {a : Addr × Obj} (N : News h₀ L h news) (h1 : a ∈ news) : News h₀ L h [a] := fun q hq => by
  cases hq with
  | head => exact N _ h1
  | tail _ hq => exact nomatch hq
theorem News.sub2 {a b : Addr × Obj} (N : News h₀ L h news) (h1 : a ∈ news) (h2 : b ∈ news) : News h₀ L h [a, b] := fun q hq => by
  cases hq with
  | head => exact N _ h1
  | tail _ hq => cases hq with
    | head => exact N _ h2
    | tail _ hq => exact nomatch hq
theorem News.sub3 {a b c : Addr × Obj} (N : News h₀ L h news) (h1 : a ∈ news) (h2 : b ∈ news) (h3 : c ∈ news) : News h₀ L h [a, b, c] := fun q hq => by
  cases hq with
  | head => exact N _ h1
  | tail _ hq => cases hq with
    | head => exact N _ h2
    | tail _ hq => cases hq with
      | head => exact N _ h3
      | tail _ hq => exact nomatch hq
theorem News.cons {a : Addr} {o : Obj} (N : News h₀ L h news) (e : h.get? a = some o) (hL : a ≠ L) (h0 : h₀.get? a = none) : News h₀ L h ((a, o) :: news) := fun q hq => by
  rcases List.mem_cons.mp hq with rfl | hq
  · exact ⟨e, hL, h0⟩
  · exact N q hq
theorem News.append {news' : List (Addr × Obj)} (N : News h₀ L h news) (N' : News h₀ L h news') : News h₀ L h (news ++ news') := fun q hq => (List.mem_append.mp hq).elim (N q) (N' q)
end

section
variable {prog : Program} {w : World} {A A₀ : Around} {E : Value → Shared → Prop} {s : Shared} {K : Frag} {C L : Addr} {h₀ base : Heap} {m mg mb : Str → Option Value} {news : List (Addr × Obj)} {p : Program} {loose : List Str} {mean : ExcName → Option Value}
  {env : Env} {outer : List Env} {R : Result → Shared → Prop} {name qual : Str} {params : Arguments} {body : List Stmt} {scope : Scope} {dV kV doc pm cdv ct oc : Value} {an od : Option Addr} {osl : Array (Option Value)} {f : Addr} {args : Args} {binds : List (Str × Value)}

theorem leaveK_kept {g : Heap} {v : Value} {s' : Shared} (hg : Kept (news.map (·.1)) s.heap g) (hl : LeaveK h₀ L m g (fun r s'' => Kept (news.map (·.1)) s.heap s''.heap → R r s'') v s') : LeaveK h₀ L m g R v s' := by
  obtain ⟨L', m', news', F', N', k⟩ := hl
  exact ⟨L', m', news', F', N', fun F N => k F N fun b o hb e => F'.keep b o (hg b o hb e)⟩

theorem code_defT
    (B : Below A₀ base outer h₀) (F : Fr h₀ L s.heap m) (X₀ : K.In h₀) (N : News h₀ L s.heap news) (T : Top p loose mean mg mb h₀) (hA : A.frames = some (env :: outer)) (hf : env.frame = some L) (hke : env.scope.kind = .function)
    (ho : K.lookup f = some ⟨oc, od, .func (fnOf name qual params body scope dV kV doc pm an cdv ct), osl⟩) (hcd : codeIn K cdv qual = true) (hroom : A.depth < recursionLimit)
    (hbind : BindsTo s (fnOf name qual params body scope dV kV doc pm an cdv ct) args binds) (hloc : ∀ y ∈ binds, scope.names.lookup y.1 = some .local)
    (h : ∀ g L' h₁, Fr h₀ L g m → Fr g L' h₁ (fun y => binds.reverse.lookup y) → News g L' h₁ news → Below A base (env :: outer) g → K.In g → Top p loose mean mg mb g →
      wpAny (model prog w) (A.deeper (envOf qual scope L' f cdv)) (execs body (envOf qual scope L' f cdv))
        (fun fl s' => LeaveK h₀ L m g (fun r s'' => Kept (news.map (·.1)) s.heap s''.heap → R r s'') (match fl with | .ret v => v | _ => .none) s')
        (fun e s' => wpAny (model prog w) (A.deeper (envOf qual scope L' f cdv)) (leaving (envOf qual scope L' f cdv) e) (fun _ s'' => R (.error e) s'') (fun e' s'' => R (.error e') s'') s')
        { s with heap := h₁, toks := s.toks + binds.length })
    (hco : scope.isCoroutine = false) (hgen : scope.isGenerator = false) (hk : scope.kind = .function)
    (hcell : ∀ x ∈ scope.names, x.2 ≠ .cell) : codeAny (model prog w) A (.call (.ref f) args) R s := by
  obtain ⟨FG, BG, st, lv⟩ := groundX (R := R) B F N hA hf hke
  refine codeAny_call_def (fd := fnOf name qual params body scope dV kV doc pm an cdv ct) (body := body) (binds := binds) hroom ((X₀.keeps F.keep) _ _ ho) rfl (T.nolimit.keeps F.keep) (codeRec_of (X₀.keeps F.keep) hcd) rfl hbind hcell hloc (fun h₁ hns hk₁ => ?_) hco hgen hk
  exact wpAny_mono (h _ s.heap.objs.size h₁ FG ⟨hns, fun b o e => hk₁ b o (of_hideAll _ e), Nat.le_of_eq (hideAll_size _ _)⟩
    (fun p hp => ⟨hk₁ _ _ (N p hp).1, Nat.ne_of_lt (Heap.lt_size (N p hp).1), hideAll_none _ (List.mem_map_of_mem hp)⟩) BG (X₀.keeps st) (T.keeps st))
    (fun fl s' hl => lv _ _ (leaveK_kept (fun b o hb e => hideAll_get _ e hb) hl)) fun _ _ y => y

theorem kept_same {h₀' : Heap} {L' : Addr} {h h' : Heap} (N : News h₀ L h news) (N' : News h₀' L' h' news) (k : Kept (news.map (·.1)) h h') : Kept [] h h' := fun b o _ e => by
  by_cases hb : b ∈ news.map (·.1)
  · obtain ⟨q, hq, rfl⟩ := List.mem_map.mp hb
    have e1 := (N q hq).1
    rw [e] at e1
    cases e1
    exact (N' q hq).1
  · exact k b o hb e
theorem kept_but {h₀' : Heap} {L' : Addr} {h h' : Heap} {chg same : List (Addr × Obj)} (N : News h₀ L h same) (N' : News h₀' L' h' same) (k : Kept ((chg ++ same).map (·.1)) h h') : Kept (chg.map (·.1)) h h' := fun b o hc e => by
  by_cases hb : b ∈ same.map (·.1)
  · obtain ⟨q, hq, rfl⟩ := List.mem_map.mp hb
    have e1 := (N q hq).1
    rw [e] at e1
    cases e1
    exact (N' q hq).1
  · refine k b o (fun q => ?_) e
    rw [List.map_append] at q
    exact (List.mem_append.mp q).elim hc hb
theorem news_step {h₀ : Heap} {L : Addr} {h h' : Heap} {T : List Addr} {full full' tch : List (Addr × Obj)} (N : News h₀ L h full) (k : Kept T h h') (N1 : News h₀ L h' tch)
    (hs : ∀ q ∈ full', q ∈ tch ∨ (q ∈ full ∧ q.1 ∉ T)) : News h₀ L h' full' := fun q hq =>
  (hs q hq).elim (N1 q) fun z => ⟨k q.1 q.2 z.2 (N q z.1).1, (N q z.1).2⟩

/-! the same on a clean stack -/
theorem codeX_func {env : Env} {body : List Stmt}
    (h : wpX (model prog w) (A.deeper env) (execs body env) (fun f s' => R (.ok (.ret (match f with | .ret v => v | _ => .none))) s')
      (fun e s' => wpAny (model prog w) (A.deeper env) (leaving env e) (fun _ s'' => R (.error e) s'') (fun e' s'' => R (.error e') s'') s') s) :
    codeX (model prog w) A (.func body env) R s := by
  refine codeX_of_tree rfl ?_
  show wpX _ (A.deeper env) (do point; match ← (execs body env).onRaise (leaving env) with | .ret v => ret v | _ => ret .none) _ _ s
  refine wpX_bindA (wpAny_point (wpX_bind (wpX_onRaise (wpX_mono h (fun f s' h' => ?_) fun _ _ h' => wpX_of h'))))
  cases f <;> exact wpX_pure h'

theorem codeX_call_def {fo : Obj} {fd : FuncData}
    (hroom : A.depth < recursionLimit) (ho : s.heap.get? f = some fo) (hdata : fo.data = .func fd) (hlim : s.heap.NoLimit) (hcd : s.heap.CodeRec fd.code fd.qualname)
    (hbody : fd.body = .stmts body) (hbind : BindsTo s fd args binds)
    (hcell : ∀ x ∈ fd.scope.names, x.2 ≠ .cell) (hloc : ∀ x ∈ binds, fd.scope.names.lookup x.1 = some .local)
    (h : ∀ h₁, h₁.Ns s.heap.objs.size (fun x => binds.reverse.lookup x) → (∀ b o, s.heap.get? b = some o → h₁.get? b = some o) →
      wpX (model prog w) (A.deeper (callEnv fd s.heap.objs.size f)) (execs body (callEnv fd s.heap.objs.size f)) (fun f s' => R (.ok (.ret (match f with | .ret v => v | _ => .none))) s')
        (fun e s' => wpAny (model prog w) (A.deeper (callEnv fd s.heap.objs.size f)) (leaving (callEnv fd s.heap.objs.size f) e) (fun _ s'' => R (.error e) s'') (fun e' s'' => R (.error e') s'') s')
        { s with heap := h₁, toks := s.toks + binds.length })
    (hco : fd.scope.isCoroutine = false) (hgen : fd.scope.isGenerator = false) (hk : fd.scope.kind = .function) :
    codeX (model prog w) A (.call (.ref f) args) R s := by
  refine codeX_of_tree rfl ?_
  show wpX _ A.in1 (callAny (.ref f) args) _ _ s
  simp only [callAny]
  refine wpX_bindA (wpAny_load ho ?_)
  obtain ⟨c, occ, vs, tq, hc, hoc, hdc, hq⟩ := hcd
  simp only [hdata, callFunction, hco, hgen, hbody, hc]
  refine wpX_bindA (m := field (.ref c) 1) (wpAny_field hoc hdc hq (wpX_bind (wpX_pure ?_)))
  refine wpX_bindA (hbind _ _ _ _ (wpX_bindA ?_))
  rw [← hc]
  refine wpAny_newFunctionEnv hcell hloc (fun h₁ hns₁ hsb₁ => ?_) hk
  have keep : ∀ b o, s.heap.get? b = some o → h₁.get? b = some o := fun b o e => hsb₁.extBut b o (Nat.ne_of_lt (Heap.lt_size e)) (Heap.get?_push_of_some _ e)
  exact wpX_bindA (wpAny_enterFrame (hlim.fresh _ hsb₁) hroom (wpX_pure ⟨rfl, codeX_func (h h₁ hns₁ keep)⟩))

theorem code_defX
    (B : Below A₀ base outer h₀) (F : Fr h₀ L s.heap m) (X₀ : K.In h₀) (N : News h₀ L s.heap news) (T : Top p loose mean mg mb h₀) (hA : A.frames = some (env :: outer)) (hf : env.frame = some L) (hke : env.scope.kind = .function)
    (ho : K.lookup f = some ⟨oc, od, .func (fnOf name qual params body scope dV kV doc pm an cdv ct), osl⟩) (hcd : codeIn K cdv qual = true) (hroom : A.depth < recursionLimit)
    (hbind : BindsTo s (fnOf name qual params body scope dV kV doc pm an cdv ct) args binds) (hloc : ∀ y ∈ binds, scope.names.lookup y.1 = some .local)
    (h : ∀ g L' h₁, Fr h₀ L g m → Fr g L' h₁ (fun y => binds.reverse.lookup y) → News g L' h₁ news → Below A base (env :: outer) g → K.In g → Top p loose mean mg mb g → Kept (news.map (·.1)) s.heap g →
      wpX (model prog w) (A.deeper (envOf qual scope L' f cdv)) (execs body (envOf qual scope L' f cdv))
        (fun fl s' => LeaveK h₀ L m g (fun r s'' => Kept (news.map (·.1)) s.heap s''.heap → R r s'') (match fl with | .ret v => v | _ => .none) s')
        (fun e s' => wpAny (model prog w) (A.deeper (envOf qual scope L' f cdv)) (leaving (envOf qual scope L' f cdv) e) (fun _ s'' => R (.error e) s'') (fun e' s'' => R (.error e') s'') s')
        { s with heap := h₁, toks := s.toks + binds.length })
    (hco : scope.isCoroutine = false) (hgen : scope.isGenerator = false) (hk : scope.kind = .function)
    (hcell : ∀ x ∈ scope.names, x.2 ≠ .cell) : codeX (model prog w) A (.call (.ref f) args) R s := by
  obtain ⟨FG, BG, st, lv⟩ := groundX (R := R) B F N hA hf hke
  refine codeX_call_def (fd := fnOf name qual params body scope dV kV doc pm an cdv ct) (body := body) (binds := binds) hroom ((X₀.keeps F.keep) _ _ ho) rfl (T.nolimit.keeps F.keep) (codeRec_of (X₀.keeps F.keep) hcd) rfl hbind hcell hloc (fun h₁ hns hk₁ => ?_) hco hgen hk
  have hgk : Kept (news.map (·.1)) s.heap (hideAll s.heap (news.map (·.1))) := fun b o hb e => hideAll_get _ e hb
  exact wpX_mono (h _ s.heap.objs.size h₁ FG ⟨hns, fun b o e => hk₁ b o (of_hideAll _ e), Nat.le_of_eq (hideAll_size _ _)⟩
    (fun p hp => ⟨hk₁ _ _ (N p hp).1, Nat.ne_of_lt (Heap.lt_size (N p hp).1), hideAll_none _ (List.mem_map_of_mem hp)⟩) BG (X₀.keeps st) (T.keeps st) hgk)
    (fun fl s' hl => lv _ _ (leaveK_kept hgk hl)) fun _ _ y => y
end
end

section
open PySem.Calls
theorem wp_of_wpX {M : Model} {t : Sem Fin} {R : Result → Shared → Prop} {s : Shared}
    (h : wpX M callerA t (fun fin s' => ∃ f, fin = .done f ∧ R (.ok f) s') (fun e s' => R (.error e) s') s) (p : Pos) :
    Sem.wp M ⟨.builtin "claim.caller" {}, none, none, [], none⟩ t (Sem.finPost M ⟨.builtin "claim.caller" {}, none, none, [], none⟩ R) (fun e _ s' => R (.error e) s') p s := by
  refine Sem.wp_mono M _ t (fun fin p' s' h' => ?_) (fun _ _ _ h' => h') p s (h _ p caller_in (by decide +kernel) ⟨fun _ hx => (nomatch hx), .inl rfl⟩)
  obtain ⟨f, rfl, hf⟩ := h'
  exact hf

theorem call_from {c : ClaimW} {tree : List Value → Sem Fin} {w : World} {s : Shared} {free : Addr → Prop} {gens : Prop} {kept : Heap → Prop} (hz : s.asleep) (hgens : s.gens = #[])
    (hspec : ∀ args, c.pre args = true → WData.layableAll args = true →
      ∀ ord : List DictEntry → List DictEntry, (∀ l, (ord l).Perm l) →
      ∃ vs s₁, layAllW c.records (classAt s.heap) w.params ord args s = some (vs, s₁) ∧
        wpX (model c.prog w) callerA (tree vs) (fun fin s' => ∃ f, fin = .done f ∧ (c.Ends s args vs s₁ (.ok f) s' ∧ s'.os = s.os ∧ AllBare s'.gens ∧ kept s'.heap))
          (fun e s' => c.Ends s args vs s₁ (.error e) s' ∧ s'.os = s.os ∧ AllBare s'.gens ∧ kept s'.heap) s₁) :
    c.CallFrom (fun vs => ⟨tree vs, .builtin "claim.caller" {}, default, []⟩) w free gens kept s := by
  intro args hpre hlay ord hord
  obtain ⟨vs, s₁, hlaid, hcode⟩ := hspec args hpre hlay ord hord
  have hal := layAllW_rest _ _ _ hlaid
  obtain ⟨k, r, s', s'', hsched, hrun, hfo, hcase, hos, hkp⟩ := wp_halts_full (M := model c.prog w) (t := tree vs) (s := s₁) (R := fun r s' => c.Ends s args vs s₁ r s' ∧ s'.os = s.os ∧ kept s'.heap) (p := default)
    (Shared.asleep_of_life hal.2.2.2 hz)
    (wp_of_wpX (R := fun r s' => (c.Ends s args vs s₁ r s' ∧ s'.os = s.os ∧ kept s'.heap) ∧ leftWithCleanup s'.gens = false) (wpX_mono hcode (by
      rintro fin s' ⟨f, e, h1, h2, h3, h4⟩
      exact ⟨f, e, ⟨h1, h2, h4⟩, leftWithCleanup_false_of_bare h3⟩) (by
      rintro e s' ⟨h1, h2, h3, h4⟩
      exact ⟨⟨h1, h2, h4⟩, leftWithCleanup_false_of_bare h3⟩)) default)
  obtain ⟨eh, _, _, eo, _⟩ := Shared.forget_eq hfo
  have hcase := hcase.congr eh
  have hkp : kept s''.heap := by first | exact eh ▸ hkp | (rw [eh] at hkp; exact hkp) | (rw [← eh] at hkp; exact hkp)
  rw [← eo] at hos
  have hlife : s''.heap.life = s.heap.life := (runN_life _ _ _ hrun).trans hal.2.2.2
  refine ⟨vs, s₁, hlaid, k, _, s'', hsched, ?_, (fun _ i x hx => by rw [hgens] at hx; simp at hx), hkp, by rw [hlife], Shared.rest_eq hos⟩
  rcases hcase with ⟨v, rfl, d1, d2, d3, d4, d5⟩ | ⟨e, ob, cls, rfl, d1, d2, d3, d4, d5⟩
  · exact .inl ⟨v, rfl, d1, d2, d3, fun b o y _ => d4 b o y, d5⟩
  · exact .inr ⟨e, ob, cls, rfl, d1, d2, d3, d4, fun b o y _ => d5 b o y⟩

/-- what is left to walk: as the library's WalkO, on a clean stack -/
abbrev WalkC (q : Program) (loose : List Str) (XP : (Str → Option Value) → Heap → Prop) (YP : World → Heap → Prop) (r : RowW) (d : DefRec) (kwd : List (Str × Expr)) : Prop :=
  ∀ (w : World) (s₀ s₁ : Shared) (mg mb : Str → Option Value), Ground q loose r.records XP w s₀ mg mb s₁.heap → YP w s₁.heap → ∀ (a : Addr) (o : Obj) (pm cd doc dV kV : Value), s₁.heap.get? a = some o →
    o.data = .func { docDef d.name d.params d.body d.scope pm cd doc with defaults := dV, kwdefaults := kV } → s₁.heap.CodeRec cd d.name → Dflts mg s₁.heap d.params kwd dV kV → mg d.name = some (.ref a) → s₁.gens = #[] →
    ∀ (args : List WData) (vals : List Value) (as : List Addr), r.claim.pre args = true → WData.layableAll args = true → ReadsAllW r.records (classAt s₀.heap) s₁.heap vals args as → WellAll w.params s₁.heap vals args → (∀ a ∈ as, (a == sysModules) = false) →
      wpX (model r.prog w) callerA (call (.ref a) vals) (fun v s' => GoodWG r.claim (classAt s₀.heap) (ExcName.means s₀.heap) args s₁ (.ok (.ret v)) s')
        (fun e s' => GoodWG r.claim (classAt s₀.heap) (ExcName.means s₀.heap) args s₁ (.error e) s') s₁

theorem holds_clean {r : OpenRow} {q : Program} {loose : List Str} {Xt : Shared → Bool} {XP : (Str → Option Value) → Heap → Prop} {H : Hook} {d : DefRec} {kwd : List (Str × Expr)} {N : Nat}
    (left : LeftO r.prog q loose Xt H.obs H.val N)
    (hX : ∀ s, Xt s = true → XP (s.heap.nsMap mainGlobals) s.heap) (hXk : ∀ mg h h', XP mg h → (∀ b o, h.get? b = some o → h'.get? b = some o) → XP mg h')
    (hdef : defOf q r.name = some (d, kwd)) (hp : r.prog.theDef r.name = some (d.params, d.body, d.scope)) (hk : kwWritten? d.params.kwonlyargs d.params.kw_defaults = some kwd) (hRf : ∀ s, Xt s = true → RecFacts r.records s.heap) (hwr : (!r.writes || r.records.isEmpty) = true)
    (k1 : r.wellSaid = true) (ok : (chainsOk q && opensWell r.prog && (frees r.toRowW && r.within.isEmpty)) = true) (hb : r.prog.bare) (hw : r.toRowW.promised)
    (walk : WalkC q loose XP H.says r.toRowW d kwd) : r.Holds := by
  obtain ⟨ok, k5⟩ := Bool.and_eq_true_iff.mp ok
  obtain ⟨hch, o1⟩ := Bool.and_eq_true_iff.mp ok
  obtain ⟨k5, k6⟩ := Bool.and_eq_true_iff.mp k5
  obtain ⟨hsame, hu, ha, hap, hm⟩ := frees_parts k5
  refine ⟨k1, hw, ⟨hb, o1, by show r.makers.map _ = []; rw [hm]; rfl⟩, hw.witness, fun w => ⟨(left.behind hX hch w).1, fun s' hs' => ?_⟩⟩
  obtain ⟨s₀, hf, hg0, s, hT, hz, hgens, hg, G00, y⟩ := (left.behind (XP := fun mg h => XP mg h ∧ RecFacts r.records h) (fun s hs => ⟨hX s hs, hRf s hs⟩) hch w).2 s' hs'
  have G0 : Ground q loose [] XP w s (s.heap.nsMap mainGlobals) (s.heap.nsMap builtinsNs) s.heap := ⟨G00.T, G00.B, G00.D, G00.TE, G00.TD, G00.W, G00.X.1, G00.cls, G00.has, G00.apart, G00.once, G00.K⟩
  have RF := G00.X.2
  have hT' := hT
  refine ⟨s₀, hf, hg0, s, hT, fun n hn => ?_, RF.1, RF.2.1, ?_⟩
  · obtain rfl : n = r.name := by split at hn <;> simp_all
    exact pinned_of_view hg G0 hdef hp hk
  have hgens : s.gens = #[] := Array.eq_empty_of_size_eq_zero (beq_iff_eq.mp hgens)
  have G : Ground q loose r.records XP w s _ _ s.heap := RF.ground G0
  show ClaimW.CallFrom (fun vs => ⟨(do match ← nsGet mainNs r.name with
      | some f => do ret (← PySem.call f vs)
      | none => unsupported "claim.caller:no-such-global"), .builtin "claim.caller" {}, default, []⟩) _ _ _ _ _ _
  refine call_from (c := r.toRowW.claim) hz hgens fun args hpre hlay ord hord => ?_
  obtain ⟨⟨vs, s₁⟩, hlaid⟩ := Option.isSome_iff_exists.mp (layAllW_isSome (P := w.params) (ord := ord) G.has args r.args s (pre_splitW hpre).1)
  have keeps := layAllW_keeps _ _ _ hlaid
  have hal := layAllW_rest _ _ _ hlaid
  obtain ⟨as, hrd, hin, hold⟩ := reads_layAllW hord _ _ _ hlaid hlay s₁.heap (fun _ _ e => e)
  have L : Laid r.records w s s₁ args vs as := ⟨⟨ord, hord, hlaid⟩, hrd, hin, hold, keeps, hal.1.trans hgens, hal.2.2.1⟩
  have G₁ := G.keeps hXk keeps
  have hi := ident_freeW hu ha hap
  have hwi : r.claim.within = [] := List.isEmpty_iff.mp k6
  refine ⟨vs, s₁, hlaid, ?_⟩
  obtain ⟨a, o, pm, cd, doc, dV, kV, h1, h2, h3, h4, h5⟩ := G₁.fn hdef
  have h := walk w s s₁ _ _ G₁ (H.keeps _ _ _ (H.of _ _ y) keeps) a o pm cd doc dV kV h2 h3 h4 h5 (defOf_name hdef ▸ h1) L.gens args vs as hpre hlay L.reads L.well (L.low G.low)
  refine wpX_bindA (wpAny_nsGet G₁.T.g ?_)
  rw [h1]
  refine wpX_bind (wpX_mono h (fun v s' g => wpX_pure ?_) fun e s' g => ?_)
  · have z := g.laid (c := r.claim) hsame hwi hi L
    exact ⟨_, rfl, z.1, z.2.1, z.2.2, fun q => ⟨namesKept_of hT' hg r.keeps keeps g.2.1.old, noTable hwr q⟩⟩
  · have z := g.laid (c := r.claim) hsame hwi hi L
    exact ⟨z.1, z.2.1, z.2.2, fun q => ⟨namesKept_of hT' hg r.keeps keeps g.2.1.old, noTable hwr q⟩⟩
end

local macro_rules | `(tactic| cell_enter) => `(tactic| (refine' code_defT ?k1 ?k2 ?k3 ?k4 ?k5 ?kA ?kF ?kK ?k6 ?k7 ?k8 ?k9 ?kB ?_ ?c2 ?c3 ?c4 ?c5; (case kA => exact rfl); (case kF => exact rfl); (case kK => first | exact rfl | assumption); (case k1 => k_asm); (case k2 => k_asm); (case k3 => k_asm); (case k4 => k_asm); (case k5 => k_asm); (case k6 => k_is); (case k7 => k_is); (case k8 => ktr_room); (case k9 => first | exact BindsTo.of_eq rfl | exact binds_K (by k_in) rfl (by k_is) rfl rfl rfl); (case c5 => decide); (case kB => exact locs rfl); (case c2 => exact rfl); (case c3 => exact rfl); (case c4 => exact rfl); k_whole; intro g' L' h' FG' F' N' B' X' T'; (try dsimp only); (try k_fold)))

abbrev ent (w : World) (n : Str) (t : Tok) (v : Value) : DictEntry := ⟨PyData.keyHash w.params n, .str n t, v⟩
abbrev PG : Program := PySem.Challenge.rw_eh5006_01.row.prog
/-- a BytesIO's fields -/
abbrev bioD (w : World) (t0 : Tok) (ba : Addr) (t1 : Tok) (pos : Int) (t2 : Tok) : Obj := dictOf [ent w "_BytesIO__buf" t0 (.ref ba), ent w "_BytesIO__pos" t1 (.int pos t2)] 2

section
variable {w : World} {p : Program} {loose : List Str} {mean : ExcName → Option Value} {mg mb : Str → Option Value} {dp un : Nat} {gd : Option (List Code)} {cn : Str} {cs : Scope} {a : Addr} {ccd : Value} {cl : List (Str × Addr)} {outer : List Env} {A₀ : Around} {base h₀ : Heap} {L : Addr} {m : Str → Option Value} {s : Shared} {Q E : Value → Shared → Prop}
theorem index_tells {n : Int} {t : Tok} {v : Value} (B : Below A₀ base outer h₀) (F : Fr h₀ L s.heap m) (X : (Mine.hd.heap_1 w.params).In h₀) (T : Top p loose mean mg mb h₀) (hk : cs.kind = .function)
   (h0 : -1000000 < n) (h1 : n < 1000000)
   (hd : dp + 2 < recursionLimit) (hu : un + 16 < cLine)
   (ret : ∀ t h' tk', Fr h₀ L h' m → Kept [] s.heap h' → Q (.int n t) { s with heap := h', toks := tk' }) :
   wpAny (model PG w) (ktrTop dp un gd cn cs L a ccd cl outer) (call (.ref 35) [.int n t, v]) Q E s := by
  have N : News h₀ L s.heap [] := News.nil
  refine wpAny_call ?_
  k_dflt cell_enter
  k_steps
  exact ret _ _ _ (by k_asm) (by assumption)
end

local macro_rules | `(tactic| walk_at "call ref") => `(tactic| (k_here; (with_reducible show wpAny _ _ (call (Value.ref 35) _) _ _ _); k_dflt (refine' index_tells ?k1 ?k2 ?k3 ?k5 ?kK ?h0 ?h1 ?kd ?ku ?_; (case k1 => k_asm); (case k2 => k_asm); (case k3 => k_asm); (case k5 => k_asm); (case kK => first | exact rfl | assumption); (case h0 => omega); (case h1 => omega); (case kd => ktr_room); (case ku => ktr_units); k_whole); intro t9 h9 tk9 F9 kp9; (have N9 := News.kept (by with_reducible assumption) kp9 (fun _ _ q => nomatch q)); clear kp9; (try dsimp only); (try k_sweep)))

section
variable {w : World} {p : Program} {loose : List Str} {mean : ExcName → Option Value} {mg mb : Str → Option Value} {dp un : Nat} {gd : Option (List Code)} {cn : Str} {cs : Scope} {a : Addr} {ccd : Value} {cl : List (Str × Addr)} {outer : List Env} {A₀ : Around} {base h₀ : Heap} {L : Addr} {m : Str → Option Value} {s : Shared} {Q E : Value → Shared → Prop}
theorem whence_tells {t : Tok} {v : Value} (B : Below A₀ base outer h₀) (F : Fr h₀ L s.heap m) (X : (Mine.hd.heap_1 w.params).In h₀) (T : Top p loose mean mg mb h₀) (hk : cs.kind = .function)
   (hd : dp + 3 < recursionLimit) (hu : un + 32 < cLine)
   (ret : ∀ t h' tk', Fr h₀ L h' m → Kept [] s.heap h' → Q (.int 0 t) { s with heap := h', toks := tk' }) :
   wpAny (model PG w) (ktrTop dp un gd cn cs L a ccd cl outer) (call (.ref 28) [.int 0 t, v]) Q E s := by
  have N : News h₀ L s.heap [] := News.nil
  refine wpAny_call ?_
  k_dflt cell_enter
  k_steps
  all_goals exact ret _ _ _ (by k_asm) (by assumption)
theorem check_tells {x dx ba : Addr} {t0 t1 t2 : Tok} {p0 : Int} (B : Below A₀ base outer h₀) (F : Fr h₀ L s.heap m) (X : (Mine.hd.heap_1 w.params).In h₀) (T : Top p loose mean mg mb h₀) (hk : cs.kind = .function)
   (N : News h₀ L s.heap [(x, instObj 322 dx), (dx, bioD w t0 ba t1 p0 t2)])
   (hd : dp + 1 < recursionLimit) (hu : un + 8 < cLine)
   (ret : ∀ h' tk', Fr h₀ L h' m → Kept [] s.heap h' → Q .none { s with heap := h', toks := tk' }) :
   wpAny (model PG w) (ktrTop dp un gd cn cs L a ccd cl outer) (call (.ref 116) [.ref x]) Q E s := by
  refine wpAny_call ?_
  k_dflt cell_enter
  k_steps
  all_goals exact ret _ _ (by k_asm) (kept_same N (by assumption) (by assumption))
end

local macro_rules | `(tactic| walk_at "call ref") => `(tactic| (k_here; (with_reducible show wpAny _ _ (call (Value.ref 28) _) _ _ _); k_dflt (refine' whence_tells ?k1 ?k2 ?k3 ?k5 ?kK ?kd ?ku ?_; (case k1 => k_asm); (case k2 => k_asm); (case k3 => k_asm); (case k5 => k_asm); (case kK => first | exact rfl | assumption); (case kd => ktr_room); (case ku => ktr_units); k_whole); intro t9 h9 tk9 F9 kp9; (have N9 := News.kept (by with_reducible assumption) kp9 (fun _ _ q => nomatch q)); clear kp9; (try dsimp only); (try k_sweep)))
local macro_rules | `(tactic| walk_at "call ref") => `(tactic| (k_here; (try dsimp only [List.cons_append, List.nil_append, List.append_nil]); (with_reducible show wpAny _ _ (call (Value.ref 116) [_]) _ _ _); k_dflt (refine' check_tells ?k1 ?k2 ?k3 ?k5 ?kK ?k4 ?kd ?ku ?_; (case k1 => k_asm); (case k2 => k_asm); (case k3 => k_asm); (case k4 => (refine' News.sub2 ?n1 ?n2 ?n3; (case n1 => with_reducible assumption); (case n2 => k_mem); (case n3 => k_mem))); (case k5 => k_asm); (case kK => first | exact rfl | assumption); (case kd => ktr_room); (case ku => ktr_units); k_whole); intro h9 tk9 F9 kp9; (have N9 := News.kept (by with_reducible assumption) kp9 (fun _ _ q => nomatch q)); clear kp9; (try dsimp only); (try k_sweep)))

section
variable {w : World} {p : Program} {loose : List Str} {mean : ExcName → Option Value} {mg mb : Str → Option Value} {dp un : Nat} {gd : Option (List Code)} {cn : Str} {cs : Scope} {a : Addr} {ccd : Value} {cl : List (Str × Addr)} {outer : List Env} {A₀ : Around} {base h₀ : Heap} {L : Addr} {m : Str → Option Value} {s : Shared} {Q E : Value → Shared → Prop}
theorem seek_tells {x dx ba : Addr} {pos : Int} {t t0 t1 : Tok} {p0 : Int} {t2 : Tok} (B : Below A₀ base outer h₀) (F : Fr h₀ L s.heap m) (X : (Mine.hd.heap_1 w.params).In h₀) (T : Top p loose mean mg mb h₀) (hk : cs.kind = .function)
   (N : News h₀ L s.heap [(dx, bioD w t0 ba t1 p0 t2), (x, instObj 322 dx)])
   (hne : @Ne Nat x dx)
   (h0 : 0 ≤ pos) (h1 : pos < 1000000)
   (hd : dp + 4 < recursionLimit) (hu : un + 40 < cLine)
   (ret : ∀ v h' tk' t2', Fr h₀ L h' m → Kept [dx] s.heap h' → News h₀ L h' [(dx, bioD w t0 ba t1 pos t2'), (x, instObj 322 dx)] → Q (.int (pos + 0) v) { s with heap := h', toks := tk' }) :
   wpAny (model PG w) (ktrTop dp un gd cn cs L a ccd cl outer) (call (.ref 230) [.ref x, .int pos t]) Q E s := by
  refine wpAny_call ?_
  k_dflt cell_enter
  k_steps
  all_goals exact ret _ _ _ _ (by k_asm) (kept_but (chg := [(dx, bioD w t0 ba t1 p0 t2)]) (same := [(x, instObj 322 dx)]) (News.sub1 N (by k_mem)) (News.sub1 (by with_reducible assumption) (by k_mem)) (by assumption)) (by assumption)
end

section
open PySem.Calls PySem.Spec PyProof.V
abbrev baObj (b : Array UInt8) : Obj := { cls := .type "bytearray", data := .bytearray b }
namespace BA
theorem slot_len : Slot "bytearray" "__len__" "bytearray.__len__" :=
  .of (owner := "bytearray") (n := "__len__") (by rw [typeLookup_type, builtinLookup_eq_fast]; kernel_rfl) (by decide +kernel) (by decide +kernel) (by decide +kernel)
    (by first | exact .inl (by decide +kernel) | exact .inr (by decide +kernel)) (by rw [isSubtype_type]; kernel_rfl)
theorem slot_getitem : Slot "bytearray" "__getitem__" "bytearray.__getitem__" :=
  .of (owner := "bytearray") (n := "__getitem__") (by rw [typeLookup_type, builtinLookup_eq_fast]; kernel_rfl) (by decide +kernel) (by decide +kernel) (by decide +kernel)
    (by first | exact .inl (by decide +kernel) | exact .inr (by decide +kernel)) (by rw [isSubtype_type]; kernel_rfl)
theorem slot_setitem : Slot "bytearray" "__setitem__" "bytearray.__setitem__" :=
  .of (owner := "bytearray") (n := "__setitem__") (by rw [typeLookup_type, builtinLookup_eq_fast]; kernel_rfl) (by decide +kernel) (by decide +kernel) (by decide +kernel)
    (by first | exact .inl (by decide +kernel) | exact .inr (by decide +kernel)) (by rw [isSubtype_type]; kernel_rfl)
theorem slot_init : Slot "bytearray" "__init__" "bytearray.__init__" :=
  .of (owner := "bytearray") (n := "__init__") (by rw [typeLookup_type, builtinLookup_eq_fast]; kernel_rfl) (by decide +kernel) (by decide +kernel) (by decide +kernel)
    (by first | exact .inl (by decide +kernel) | exact .inr (by decide +kernel)) (by rw [isSubtype_type]; kernel_rfl)
theorem entry_len : entryFor table "bytearray.__len__" = some Builtin.«bytearray.__len__» := by first | exact entryFor_of_fast (by kernel_rfl) | exact entryFor_of_tree (by kernel_rfl)
theorem entry_getitem : entryFor table "bytearray.__getitem__" = some Builtin.«bytearray.__getitem__» := by first | exact entryFor_of_fast (by kernel_rfl) | exact entryFor_of_tree (by kernel_rfl)
theorem entry_setitem : entryFor table "bytearray.__setitem__" = some Builtin.«bytearray.__setitem__» := by first | exact entryFor_of_fast (by kernel_rfl) | exact entryFor_of_tree (by kernel_rfl)
theorem entry_init : entryFor table "bytearray.__init__" = some Builtin.«bytearray.__init__» := by first | exact entryFor_of_fast (by kernel_rfl) | exact entryFor_of_tree (by kernel_rfl)
theorem args_len (a : Value) : argsOk "bytearray.__len__" ⟨[a], []⟩ := by unfold argsOk; kernel_rfl
theorem args_getitem (a b : Value) : argsOk "bytearray.__getitem__" ⟨[a, b], []⟩ := by unfold argsOk; kernel_rfl
theorem args_setitem (a b c : Value) : argsOk "bytearray.__setitem__" ⟨[a, b, c], []⟩ := by unfold argsOk; kernel_rfl
theorem mro : mroOf (.type "bytearray") = pure [.type "bytearray", .type "object"] := by rw [mroOf_type]; kernel_rfl
theorem lookup_new : typeLookup (.type "bytearray") "__new__" = pure (some (.builtin "bytearray.__new__")) := by rw [typeLookup_type, builtinLookup_eq_fast]; kernel_rfl
theorem sub_self : isSubtype (.type "bytearray") (.type "bytearray") = pure true := by rw [isSubtype_type]; kernel_rfl
theorem called : TypeCalled "bytearray" "bytearray.__new__" "bytearray.__init__" :=
  ⟨by decide +kernel, by decide +kernel, ⟨_, _, mro⟩, madeBy_type mro lookup_new (by decide +kernel), by decide +kernel, by rw [isSubtype_type]; kernel_rfl, slot_init⟩
theorem entry_new : entryFor table "bytearray.__new__" = some Builtin.«list.__new__» :=
  entryFor_alias (id' := "list.__new__") (by rw [fastTable_eq_tree]; kernel_rfl) (by first | rfl | decide +kernel) (by decide +kernel) (by rw [fastTable_eq_tree]; kernel_rfl)
theorem plain_new : plainId "bytearray.__new__" = true := by decide +kernel
theorem owner_new : ("bytearray.__new__".splitOn ".__new__").headD "" = "bytearray" := by simp +decide [String.splitOn, String.splitOnAux]
theorem typeCall0 : checkTypeCall "bytearray" ⟨[], []⟩ = pure () := by kernel_rfl
theorem typeCall1 (a : Value) : checkTypeCall "bytearray" ⟨[a], []⟩ = pure () := by kernel_rfl
theorem newCall0 : checkBuiltinCall "bytearray.__new__" ⟨[.type "bytearray"], []⟩ = pure () := by kernel_rfl
theorem newCall1 (a : Value) : checkBuiltinCall "bytearray.__new__" ⟨[.type "bytearray", a], []⟩ = pure () := by kernel_rfl
theorem look_buffer : typeLookup (.type "bytearray") "__buffer__" = pure (some (.builtin "bytearray.__buffer__")) := by rw [typeLookup_type, builtinLookup_eq_fast]; kernel_rfl
theorem look_release : typeLookup (.type "bytearray") "__release_buffer__" = pure (some (.builtin "bytearray.__release_buffer__")) := by rw [typeLookup_type, builtinLookup_eq_fast]; kernel_rfl
theorem look_no_bytes : typeLookup (.type "bytearray") "__bytes__" = pure none := by rw [typeLookup_type, builtinLookup_eq_fast]; kernel_rfl
theorem look_no_index : typeLookup (.type "bytearray") "__index__" = pure none := by rw [typeLookup_type, builtinLookup_eq_fast]; kernel_rfl
end BA
theorem typeIs_ba {s : Shared} {d : Addr} {b : Array UInt8} (hd : s.heap.get? d = some (baObj b)) : s.TypeIs (.ref d) "bytearray" := ⟨_, hd, rfl⟩
section
variable {prog : Program} {w : World} {A : Around} {E : Value → Shared → Prop} {s : Shared} {Q : Value → Shared → Prop}
theorem len_ba {d : Addr} {b : Array UInt8} (hd : s.heap.get? d = some (baObj b)) (hz : (b.size : Int) < 2 ^ 62) (h : Q (.int b.size (s.toks + 1)) { s with toks := s.toks + 1 + 1 }) :
    wpAny (model prog w) A (call (.builtin "len") [.ref d]) Q E s := by
  refine Calls.call_function_entry kind_len plain_len entry_len (args_len1 _) ?_
  unfold Builtin.«len»
  refine wpAny_bind (m := oneArg "len" _) (wpAny_pure ?_)
  refine wpAny_bind (m := callSpecial? (.ref d) (Str.ofString "__len__")) (wpAny_callSpecial?_slot (name := Str.ofString "__len__") (typeIs_ba hd) BA.slot_len
    (wpAny_call_entry BA.slot_len (typeIs_ba hd) BA.entry_len ?_ (BA.args_len _)))
  · show wpAny _ _ (do retInt (← Builtin.Bytes.payload (.ref d)).size) _ _ s
    refine wpAny_bind ?_
    unfold Builtin.Bytes.payload Builtin.Bytes.payload?
    refine wpAny_bind (wpAny_bind (wpAny_load hd ?_))
    refine wpAny_pure (wpAny_pure ?_)
    refine wpAny_bind (wpAny_mkInt (wpAny_pure ⟨_, rfl, ?_⟩))
    refine wpAny_bind (wpAny_holding (wpAny_pure ?_))
    refine wpAny_bind (wpAny_letGo ?_)
    show wpAny _ _ (if ((b.size : Nat) : Int) < 0 then _ else _) _ _ _
    rw [if_neg (by omega)]
    show wpAny _ _ (if ((b.size : Nat) : Int) ≥ 2 ^ 63 then _ else _) _ _ _
    rw [if_neg (by omega)]
    exact wpAny_bind (wpAny_mkInt (wpAny_pure ⟨_, rfl, h⟩))

theorem code_ba_new {rest : List Value} (hr : rest = [] ∨ ∃ a, rest = [a]) {Q₁ : Value → Shared → Prop}
    (h : Q₁ (.ref s.heap.objs.size) { s with heap := s.heap.push (baObj #[]) }) :
    codeAny (model prog w) A (.call (.builtin "bytearray.__new__") ⟨.type "bytearray" :: rest, []⟩) (wants Q₁ E) s := by
  have hc : checkBuiltinCall "bytearray.__new__" ⟨.type "bytearray" :: rest, []⟩ = pure () := by
    rcases hr with rfl | ⟨a, rfl⟩
    · exact BA.newCall0
    · exact BA.newCall1 a
  refine codeAny_of_tree ?_
  show wpAny _ A.in1 (do checkBuiltinCall "bytearray.__new__" ⟨.type "bytearray" :: rest, []⟩; again (.builtin "bytearray.__new__" ⟨.type "bytearray" :: rest, []⟩)) _ _ s
  refine wpAny_bind (wpAny_of_eq hc (wpAny_pure ⟨plainId_quiet BA.plain_new _, codeAny_builtin_stack BA.entry_new rfl fun p st => ?_⟩))
  rw [Around.under_plainId BA.plain_new _]
  have hsub := BA.sub_self
  have hown := BA.owner_new
  obtain ⟨hp, g, d, tk, os⟩ := s
  simp only [hown]
  wp_walk
  exact h
end
end

section
open PySem.Calls PySem.Spec PyProof.V
section
variable {prog : Program} {w : World} {A : Around} {E : Value → Shared → Prop} {s : Shared} {Q : Value → Shared → Prop}
theorem payload_ba {d : Addr} {b : Array UInt8} {Q : Array UInt8 → Shared → Prop} (hd : s.heap.get? d = some (baObj b)) (h : Q b s) : wpAny (model prog w) A (Builtin.Bytes.payload (.ref d)) Q E s := by
  unfold Builtin.Bytes.payload Builtin.Bytes.payload?
  exact wpAny_bind (wpAny_bind (wpAny_load hd (wpAny_pure (wpAny_pure h))))
theorem ba_slice_meets {d : Addr} (b : Array UInt8) (a : Addr) {l u : Value} {lo hi : Option Int} (hl : IsPart l lo) (hu : IsPart u hi) :
    Meets (Builtin.«bytearray.__getitem__» ⟨[.ref d, .ref a], []⟩) (fun _ R s => s.heap.get? d = some (baObj b) ∧ s.heap.IsSliceOf a l u .none ∧ (KBy.picked b lo hi).size ≤ sizeLine ∧ R (.ok (.ret (.ref s.heap.objs.size))) { s with heap := s.heap.push (baObj (KBy.picked b lo hi)) }) := by
  refine .of_wp fun prog w A R s hS => ?_
  obtain ⟨hd, ⟨o, ho, hc, hdd⟩, hsz, h⟩ := hS
  have hT : s.TypeIs (.ref a) "slice" := ⟨o, ho, hc⟩
  show wpAny _ _ (Builtin.Bytes.subscript? (.ref a) >>= fun r => _) _ _ s
  refine wpAny_bind ?_
  unfold Builtin.Bytes.subscript?
  refine wpAny_bind (wpAny_specialOf hT slice_no_index (wpAny_pure ?_))
  refine wpAny_bind (wpAny_typeOf hT ?_)
  show wpAny _ _ (Builtin.Bytes.sliceParts (.ref a) >>= fun r => _) _ _ s
  refine wpAny_bind ?_
  unfold Builtin.Bytes.sliceParts
  refine wpAny_bind (wpAny_field (x := .none) ho hdd rfl ?_)
  refine wpAny_bind (wpAny_of_eq (a := Value.none) rfl ?_)
  refine wpAny_ite (KBy.ite_no (show ¬ ((Value.none == rawInt 0) = true) from Bool.false_ne_true) ?_)
  refine wpAny_bind (wpAny_field (x := l) ho hdd rfl ?_)
  have go : wpAny (model prog w) A.in1 (sliceIndices (rawPart lo) (rawPart hi) (rawPart none) b.size) (fun r s' => r = sliceBounds lo hi none b.size ∧ s' = s) (fun _ _ => False) s :=
    wpAny_of_eq (sliceIndices_raw lo hi none b.size (fun e => nomatch e)) ⟨rfl, rfl⟩
  cases hl <;> cases hu <;> (first
    | (kby_none; (refine wpAny_bind (wpAny_field (x := .none) ho hdd rfl ?_)); kby_none)
    | (kby_none; (refine wpAny_bind (wpAny_field (x := .int _ _) ho hdd rfl ?_)); kby_int)
    | (kby_int; (refine wpAny_bind (wpAny_field (x := .none) ho hdd rfl ?_)); kby_none)
    | (kby_int; (refine wpAny_bind (wpAny_field (x := .int _ _) ho hdd rfl ?_)); kby_int)) <;> refine wpAny_pure ?_
  all_goals
    refine wpAny_bind (payload_ba hd ?_)
    refine wpAny_bind (wpAny_mono go (fun r s' hr => ?_) fun _ _ e => e.elim)
    obtain ⟨hr1, hr2⟩ := hr
    subst hr1 hr2
    refine wpAny_bind ?_
    unfold Builtin.Bytes.newBytearray
    exact wpAny_newObj_type (wpAny_pure ⟨_, rfl, h⟩) hsz
end
section
variable {prog : Program} {w : World} {A : Around} {E : Value → Shared → Prop} {s : Shared} {value slice : PySem.Expr} {b : Array UInt8} {d : Addr} {h₀ : Heap} {L : Addr} {m : PySem.Str → Option Value} {news : List (Addr × Obj)} {l u : Value} {lo hi : Option Int} {Q : Value → Shared → Prop}
theorem ba_slice (hF : Fr h₀ L s.heap m) (hN : News h₀ L s.heap news) (hd : s.heap.get? d = some (baObj b)) (hl : IsPart l lo) (hu : IsPart u hi) (hz : b.size ≤ 16777216)
    (h : ∀ d' h', Fr h₀ L h' m → News h₀ L h' ((d', baObj (KBy.picked b lo hi)) :: news) → (∀ p ∈ news, p.1 < d') → Q (.ref d') { s with heap := h' })
    (hs : subscripted slice false (.ref d) (.ref s.heap.objs.size) = operate [.ref s.heap.objs.size, .ref d] (getItem (.ref d) (.ref s.heap.objs.size)) := by with_unfolding_all rfl)
    (ht : ∀ r, letTemporaryGo value (.ref d) r = pure () := by intro _; with_unfolding_all rfl) :
    wpAny (model prog w) A (subscriptTail value slice (.ref d) (.ref s.heap.objs.size)) Q E { s with heap := s.heap.push { cls := .type "slice", data := .fields #[l, u, .none] } } := by
  have hd' : (s.heap.push { cls := .type "slice", data := .fields #[l, u, .none] }).get? d = some (baObj b) := Heap.get?_push_of_some _ hd
  refine tail_of_ItemOn ⟨"bytearray", _, BA.slot_getitem.lookup, typeIs_ba (s := { s with heap := s.heap.push { cls := .type "slice", data := .fields #[l, u, .none] } }) hd', getItem_meets (typeIs_ba (s := { s with heap := s.heap.push { cls := .type "slice", data := .fields #[l, u, .none] } }) hd') (by decide) BA.slot_getitem BA.entry_getitem (BA.args_getitem _ _) (ba_slice_meets b _ hl hu)
    ⟨hd', Heap.IsSliceOf.new _ _ _ _, Nat.le_trans (KBc.size_picked_le b lo hi) (by rw [sizeLine_eq]; exact hz), ?_⟩⟩ hs ht
  have N1 := News.pushKeep hN { cls := .type "slice", data := .fields #[l, u, .none] }
  exact h _ _ ((hF.push _).push _) (N1.push (hF.push _) _) fun q hq => Heap.lt_size (N1 q hq).1
end
section
variable {prog : Program} {w : World} {A : Around} {E : Value → Shared → Prop} {s : Shared} {Q : Value → Shared → Prop}
theorem ba_own_buffer {d : Addr} {b : Array UInt8} {Q : Bool → Shared → Prop} (hd : s.heap.get? d = some (baObj b)) (h : Q true s) : wpAny (model prog w) A (Builtin.Bytes.slotIsOwn (.ref d) "__buffer__") Q E s := by
  unfold Builtin.Bytes.slotIsOwn
  refine wpAny_bind (wpAny_specialOf (typeIs_ba hd) BA.look_buffer ?_)
  dsimp only
  refine bm_if_false (by decide +kernel) ?_
  rw [show ("bytearray.__buffer__".dropRight ("__buffer__".length + 1)) = "bytearray" from by decide +kernel]
  exact wpAny_isInstance (typeIs_ba hd) BA.sub_self h
theorem ba_own_release {d : Addr} {b : Array UInt8} {Q : Bool → Shared → Prop} (hd : s.heap.get? d = some (baObj b)) (h : Q false s) : wpAny (model prog w) A (Builtin.Bytes.ownRelease (.ref d)) Q E s := by
  unfold Builtin.Bytes.ownRelease Builtin.Bytes.slotIsOwn
  refine wpAny_bind (wpAny_bind (wpAny_specialOf (typeIs_ba hd) BA.look_release ?_))
  dsimp only
  refine bm_if_false (by decide +kernel) ?_
  rw [show ("bytearray.__release_buffer__".dropRight ("__release_buffer__".length + 1)) = "bytearray" from by decide +kernel]
  exact wpAny_isInstance (typeIs_ba hd) BA.sub_self (wpAny_pure h)
theorem buffer_ba {d : Addr} {b : Array UInt8} {id : String} {full : Bool} {Q : Option (Array UInt8) → Shared → Prop} (hd : s.heap.get? d = some (baObj b)) (h : Q (some b) s) : wpAny (model prog w) A (Builtin.Bytes.buffer? id (.ref d) full) Q E s := by
  unfold Builtin.Bytes.buffer?
  refine wpAny_bind (wpAny_specialOf (typeIs_ba hd) BA.look_buffer ?_)
  show wpAny _ _ (Builtin.Bytes.slotIsOwn (.ref d) "__buffer__" >>= _) _ _ _
  refine wpAny_bind (ba_own_buffer hd ?_)
  refine bm_if_false rfl ?_
  show wpAny _ _ (specialOf (.ref d) (Str.ofString "__buffer__") >>= _) _ _ _
  refine wpAny_bind (wpAny_specialOf (typeIs_ba hd) BA.look_buffer ?_)
  show wpAny _ _ (Builtin.Bytes.ownRelease (.ref d) >>= _) _ _ _
  refine wpAny_bind (ba_own_release hd ?_)
  refine bm_if_false rfl ?_
  show wpAny _ _ (Builtin.Bytes.payload (.ref d) >>= _) _ _ _
  exact wpAny_bind (payload_ba hd (wpAny_pure h))
/-- bytes(of a bytearray) -/
theorem bytes_ba {d : Addr} {b : Array UInt8} (hd : s.heap.get? d = some (baObj b)) (hz : b.size ≤ sizeLine) (h : Q (.bytes b s.toks) { s with toks := s.toks + 1 }) :
    wpAny (model prog w) A (call (.type "bytes") [.ref d]) Q E s := by
  refine callType_codes (Q₁ := fun obj s₁ => s₁.TypeIs obj "bytes" ∧ Q obj s₁) F.bm_called (F.bm_typeCall _) F.entry_object_init ?_ fun obj s₁ h₁ => ?_
  · refine codeAny_of_tree ?_
    show wpAny _ A.in1.in1 (do checkBuiltinCall "bytes.__new__" ⟨[.type "bytes", .ref d], []⟩; again (.builtin "bytes.__new__" ⟨[.type "bytes", .ref d], []⟩)) _ _ s
    refine wpAny_bind (wpAny_of_eq (F.bm_newCall _) (wpAny_pure ⟨plainId_quiet F.bm_plain _, codeAny_builtin F.bm_entry ?_⟩))
    rw [Around.under_plainId F.bm_plain _]
    have hT := typeIs_ba hd
    unfold Builtin.«bytes.__new__»
    refine wpAny_bind (wpAny_of_eq (a := true) rfl ?_)
    refine bm_if_false rfl ?_
    refine wpAny_bind (wpAny_of_eq F.bm_sub ?_)
    refine bm_if_false rfl ?_
    refine wpAny_bind (wpAny_of_eq (F.bm_bind _) ?_)
    refine wpAny_bind (wpAny_of_eq (a := ()) rfl ?_)
    refine wpAny_bind (wpAny_of_eq (a := ()) rfl ?_)
    refine bm_if_false rfl ?_
    refine wpAny_bind (wpAny_specialOf hT BA.look_no_bytes ?_)
    refine wpAny_bind (wpAny_bind ?_)
    show wpAny _ _ (load d >>= _) _ _ _
    refine wpAny_bind (wpAny_load hd ?_)
    refine wpAny_pure (wpAny_pure ?_)
    refine bm_if_false rfl ?_
    refine wpAny_bind (wpAny_specialOf hT BA.look_no_index ?_)
    refine bm_if_true rfl ?_
    first
      | show wpAny _ _ (Builtin.Bytes.buffer? "bytes.__new__" (.ref d) true >>= _) _ _ _
      | (refine wpAny_bind ?_; show wpAny _ _ (Builtin.Bytes.buffer? "bytes.__new__" (.ref d) true >>= _) _ _ _)
    refine wpAny_bind (buffer_ba hd ?_)
    refine wpAny_bind (wpAny_rule ?_)
    refine wpAny_bind (wpAny_mkBytes ?_ hz)
    show wpAny _ _ (if (Value.type "bytes" == Value.type "bytes") = true then _ else _) _ _ _
    refine bm_if_true (by decide) ?_
    first
      | exact wpAny_pure ⟨PySem.W.typeIs_bytes _ _ _, h⟩
      | exact wpAny_bind (wpAny_pure (wpAny_pure ⟨PySem.W.typeIs_bytes _ _ _, h⟩))
      | exact wpAny_pure (wpAny_pure ⟨PySem.W.typeIs_bytes _ _ _, h⟩)
  · exact ⟨h₁.1, F.args_object_init_2 obj _, object_init_meets F.bm_called.init.lookup F.bm_called.made (by decide) prog w A.in1 _ s₁ ⟨h₁.1, rfl, h₁.2⟩⟩
end
end

section
open PySem.Calls PySem.Spec PyProof.V
section
variable {prog : Program} {w : World} {A : Around} {E : Value → Shared → Prop} {s : Shared} {Q : Value → Shared → Prop}
theorem codeX_builtin {id : String} {args : Args} {b : Builtin} {R : Result → Shared → Prop} (hbad : badCode (.builtin id args) = false) (hb : entryFor table id = some b)
    (h : wpX (model prog w) (A.under (.builtin id args)) (b args)
      (fun fin s' => match fin with | .done f => R (.ok f) s' | .again c' => c'.quiet = true ∧ codeX (model prog w) A c' R s') (fun e s' => R (.error e) s') s) :
    codeX (model prog w) A (.builtin id args) R s := by
  refine codeX_of_tree hbad ?_
  show wpX _ _ (match entryFor table id with | some b => b args | none => unsupported ((withoutEnding? id "#data").getD id)) _ _ s
  rw [hb]; exact h
theorem codeX_call_builtin {id : String} {args : Args} {b : Builtin} {R : Result → Shared → Prop} (hbad : badCode (.builtin id args) = false) (hq : plainId id = true) (hb : entryFor table id = some b)
    (h : wpAny (model prog w) A.in1 (checkBuiltinCall id args) (fun _ s₁ => wpX (model prog w) A.in1 (b args)
      (fun fin s' => match fin with | .done f => R (.ok f) s' | .again c' => c'.quiet = true ∧ codeX (model prog w) A c' R s') (fun e s' => R (.error e) s') s₁)
      (fun e s' => R (.error e) s') s) : codeX (model prog w) A (.call (.builtin id) args) R s := by
  refine codeX_of_tree rfl ?_
  show wpX _ A.in1 (do checkBuiltinCall id args; again (.builtin id args)) _ _ s
  refine wpX_bindA (wpAny_mono h (fun _ s₁ h₁ => wpX_pure ⟨plainId_quiet hq args, codeX_builtin hbad hb ?_⟩) fun _ _ h' => h')
  rw [Around.under_plainId hq args]
  exact h₁

theorem wpX_if_false {α : Type} {M : Model} {c : Bool} {a b : Sem α} {Q : α → Shared → Prop} (hc : c = false) (h : wpX M A b Q E s) : wpX M A (if c = true then a else b) Q E s := by
  subst hc
  exact h
theorem wpX_if_true {α : Type} {M : Model} {c : Bool} {a b : Sem α} {Q : α → Shared → Prop} (hc : c = true) (h : wpX M A a Q E s) : wpX M A (if c = true then a else b) Q E s := by
  subst hc
  exact h
theorem callSpecialX_slot {M : Model} {self : Value} {T : String} {name : Str} {id : String} {args : List Value} {kw : List (Str × Value)}
    {Q : Option Value → Shared → Prop} (hT : s.TypeIs self T) (h : Slot T name id)
    (hc : wpX M A (call (.builtin id) (self :: args) kw) (fun v => Q (some v)) E s) : wpX M A (callSpecial? self name args kw) Q E s := by
  simp only [callSpecial?]
  refine wpX_bindA (wpAny_specialOf hT h.lookup ?_)
  simp only [h.bind]
  exact wpX_holding (wpX_bind (wpX_pure (wpX_bind (wpX_mono hc (fun v s' h' => wpX_pure h') fun _ _ h' => h'))))
theorem update_ba {d : Addr} {b c : Array UInt8} {f : Array UInt8 → Array UInt8} {Q : Unit → Shared → Prop} (hd : s.heap.get? d = some (baObj b)) (hf : f b = c) (hz : c.size ≤ sizeLine)
    (h : Q () { s with heap := s.heap.update d (Obj.mapBytearray f) }) : wpAny (model prog w) A (Builtin.Bytes.write (.ref d) f) Q E s := by
  show wpAny _ _ (updateBytearray d f) _ _ _
  unfold updateBytearray
  refine wpAny_bind (wpAny_load hd ?_)
  show wpAny _ _ (update d (Obj.mapBytearray f) >>= fun _ => lookBehind d) _ _ _
  refine wpAny_bind (wpAny_update hd ?_)
  have e : (s.heap.update d (Obj.mapBytearray f)).get? d = some (baObj c) := by
    subst hf
    exact Heap.get?_update_self (Obj.mapBytearray f) hd rfl
  refine wpAny_lookBehind e ?_ h
  show (if c.size > sizeLine then some "bytearray:memory" else none) = none
  rw [if_neg (by omega)]
theorem callTypeX {args : List Value} (ha : args = [] ∨ ∃ a, args = [a])
    (hinit : ∀ s₁, s₁ = { s with heap := s.heap.push (baObj #[]) } → wpX (model prog w) A.in1.in1 (Builtin.«bytearray.__init__» ⟨.ref s.heap.objs.size :: args, []⟩)
        (fun fin s' => fin = .done (.ret .none) ∧ Q (.ref s.heap.objs.size) s') (fun e s' => E e s') s₁) :
    wpX (model prog w) A (call (.type "bytearray") args) Q E s := by
  have hct : checkTypeCall "bytearray" ⟨args, []⟩ = pure () := by
    rcases ha with rfl | ⟨a, rfl⟩
    · exact BA.typeCall0
    · exact BA.typeCall1 a
  obtain ⟨c, tl, hmro⟩ := BA.called.mro
  have hmade := BA.called.made
  have hsub := BA.called.sub
  refine wpX_call (codeX_of_tree rfl ?_)
  show wpX _ _ (callAny (.type "bytearray") _) _ _ _
  refine wpX_pure ⟨Code.quiet_builtin _ (by decide +kernel), codeX_builtin (show badIds.contains "type.__call__" = false by decide +kernel) F.entry_type_call ?_⟩
  rw [Around.under_plain (weight_type_call_type "bytearray" args []) rfl]
  have h1 := BA.called.notType
  have h2 := BA.called.canCreate
  unfold Builtin.«type.__call__»
  refine wpX_if_false h1 ?_
  refine wpX_if_false h2 ?_
  refine wpX_eq_bind hct ?_
  refine wpX_eq_bind hmro ?_
  refine wpX_if_false rfl ?_
  refine wpX_eq_bind hmade ?_
  refine wpX_bind (wpX_pure ?_)
  refine wpX_bind (wpX_holding (wpX_call (codeX_of (code_ba_new ha ?_))))
  have hd : (s.heap.push (baObj #[])).get? s.heap.objs.size = some (baObj #[]) := Heap.get?_push_size _ rfl
  refine wpX_bindA (wpAny_isInstance (typeIs_ba (s := { s with heap := s.heap.push (baObj #[]) }) hd) BA.sub_self ?_)
  refine wpX_if_false rfl ?_
  refine wpX_bind (wpX_holding (callSpecialX_slot (typeIs_ba (s := { s with heap := s.heap.push (baObj #[]) }) hd) BA.slot_init ?_))
  refine wpX_call (codeX_call_builtin (show badIds.contains "bytearray.__init__" = false by decide +kernel) BA.slot_init.plain BA.entry_init (BA.slot_init.check _ _ _ _ _ _ _ _ (typeIs_ba (s := { s with heap := s.heap.push (baObj #[]) }) hd) ?_ ?_))
  · rcases ha with rfl | ⟨a, rfl⟩
    · unfold argsOk; kernel_rfl
    · unfold argsOk; kernel_rfl
  · refine wpX_mono (hinit _ rfl) (fun fin s' z => ?_) fun _ _ z => z
    obtain ⟨rfl, z⟩ := z
    refine wpX_if_false rfl ?_
    exact wpX_pure z
theorem exports_ba {d : Addr} {b : Array UInt8} {Q : Nat → Shared → Prop} (hd : s.heap.get? d = some (baObj b)) (h : Q 0 s) : wpAny (model prog w) A (Builtin.Bytes.exportsOf (.ref d)) Q E s := by
  unfold Builtin.Bytes.exportsOf
  exact wpAny_bind (wpAny_load hd (wpAny_pure h))
theorem bind_init0 : Builtin.Bytes.bindOptional "bytearray.__init__" "bytearray" ["source", "encoding", "errors"] [] [] = pure [none, none, none] := by kernel_rfl
theorem bind_init1 (v : Value) : Builtin.Bytes.bindOptional "bytearray.__init__" "bytearray" ["source", "encoding", "errors"] [v] [] = pure [some v, none, none] := by kernel_rfl
theorem bytes_full {b : Array UInt8} {t : Tok} {id : String} : Builtin.Bytes.buffer? id (.bytes b t) true = pure (some b) := by
  unfold Builtin.Bytes.buffer?
  rw [KBy.special_eq KBy.look_buffer, KBy.own_buffer, KBy.own_release]
  kernel_rfl

theorem no_lend {d : Addr} {b : Array UInt8} {Q : Bool → Shared → Prop} (hd : s.heap.get? d = some (baObj b)) (h : Q false s) :
    wpX (model prog w) A (Builtin.Bytes.exported (.ref d) <||> do return (← Builtin.Bytes.exportsOf (.ref d)) > 0) Q E s := by
  show wpX _ _ (Builtin.Bytes.exported (.ref d) >>= _) _ _ _
  refine wpX_bind (wpX_exported ?_)
  show wpX _ _ (Builtin.Bytes.exportsOf (.ref d) >>= _) _ _ _
  exact wpX_bindA (exports_ba hd (wpX_pure h))
/-- the first half of bytearray.__init__: up to the emptied object -/
abbrev baNew (s : Shared) (b : Array UInt8) (Q : Value → Shared → Prop) : Prop :=
  ∀ h', (∀ x o, s.heap.get? x = some o → h'.get? x = some o) → h'.get? s.heap.objs.size = some (baObj b) → Q (.ref s.heap.objs.size) { s with heap := h' }
theorem ba_kept {f : Array UInt8 → Array UInt8} {h h' : Heap} {c : Array UInt8} (hk : ∀ x o, h.get? x = some o → h'.get? x = some o) (hd : h'.get? h.objs.size = some (baObj c)) :
    (∀ x o, h.get? x = some o → (h'.update h.objs.size (Obj.mapBytearray f)).get? x = some o) ∧ (h'.update h.objs.size (Obj.mapBytearray f)).get? h.objs.size = some (baObj (f c)) :=
  ⟨fun x o e => (Heap.get?_update_other _ _ (Ne.symm (Nat.ne_of_lt (Heap.lt_size e)))).trans (hk x o e), Heap.get?_update_self (Obj.mapBytearray f) hd rfl⟩
/-- bytearray() -/
theorem ba_new0 (h : baNew s #[] Q) : wpX (model prog w) A (call (.type "bytearray") []) Q E s := by
  refine callTypeX (.inl rfl) ?_
  rintro s₁ rfl
  have hd : (s.heap.push (baObj #[])).get? s.heap.objs.size = some (baObj #[]) := Heap.get?_push_size _ rfl
  obtain ⟨k1, k2⟩ := ba_kept (f := fun _ => #[]) (fun x o e => Heap.get?_push_of_some (baObj #[]) e) hd
  unfold Builtin.«bytearray.__init__»
  refine wpX_bindA (ba_own_release hd ?_)
  refine wpX_if_false rfl ?_
  refine wpX_eq_bind bind_init0 ?_
  refine wpX_eq_bind (a := ()) rfl ?_
  refine wpX_eq_bind (a := ()) rfl ?_
  refine wpX_bind (no_lend hd ?_)
  refine wpX_if_false rfl ?_
  refine wpX_bindA (update_ba hd rfl (Nat.zero_le _) ?_)
  refine wpX_eq_bind (a := ()) rfl ?_
  exact wpX_pure ⟨rfl, h _ k1 k2⟩
/-- bytearray(of bytes) -/
theorem ba_new_bytes {b : Array UInt8} {t : Tok} (hz : b.size ≤ sizeLine) (h : baNew s b Q) : wpX (model prog w) A (call (.type "bytearray") [.bytes b t]) Q E s := by
  refine callTypeX (.inr ⟨_, rfl⟩) ?_
  rintro s₁ rfl
  have hd : (s.heap.push (baObj #[])).get? s.heap.objs.size = some (baObj #[]) := Heap.get?_push_size _ rfl
  obtain ⟨k1, k2⟩ := ba_kept (f := fun _ => #[]) (fun x o e => Heap.get?_push_of_some (baObj #[]) e) hd
  obtain ⟨k3, k4⟩ := ba_kept (f := fun _ => b) k1 k2
  unfold Builtin.«bytearray.__init__»
  refine wpX_bindA (ba_own_release hd ?_)
  refine wpX_if_false rfl ?_
  refine wpX_eq_bind (bind_init1 _) ?_
  refine wpX_eq_bind (a := ()) rfl ?_
  refine wpX_eq_bind (a := ()) rfl ?_
  refine wpX_bind (no_lend hd ?_)
  refine wpX_if_false rfl ?_
  refine wpX_bindA (update_ba hd rfl (Nat.zero_le _) ?_)
  refine wpX_eq_bind (a := none) rfl ?_
  refine wpX_if_false rfl ?_
  refine wpX_eq_bind (a := ()) rfl ?_
  refine wpX_bindA (wpAny_specialOf (typeIs_bytes _ _ _) (show typeLookup (.type "bytes") "__index__" = pure none by rw [typeLookup_type, builtinLookup_eq_fast]; kernel_rfl) ?_)
  refine wpX_if_false rfl ?_
  refine wpX_eq_bind bytes_full ?_
  refine wpX_bindA (wpAny_rule ?_)
  refine wpX_bindA (update_ba k2 rfl hz ?_)
  exact wpX_pure ⟨rfl, h _ k3 k4⟩
/-- bytearray(of a bytearray) -/
theorem ba_new_ba {b : Array UInt8} {d : Addr} (hs : s.heap.get? d = some (baObj b)) (hz : b.size ≤ sizeLine) (h : baNew s b Q) : wpX (model prog w) A (call (.type "bytearray") [.ref d]) Q E s := by
  refine callTypeX (.inr ⟨_, rfl⟩) ?_
  rintro s₁ rfl
  have hd : (s.heap.push (baObj #[])).get? s.heap.objs.size = some (baObj #[]) := Heap.get?_push_size _ rfl
  obtain ⟨k1, k2⟩ := ba_kept (f := fun _ => #[]) (fun x o e => Heap.get?_push_of_some (baObj #[]) e) hd
  obtain ⟨k3, k4⟩ := ba_kept (f := fun _ => b) k1 k2
  unfold Builtin.«bytearray.__init__»
  refine wpX_bindA (ba_own_release hd ?_)
  refine wpX_if_false rfl ?_
  refine wpX_eq_bind (bind_init1 _) ?_
  refine wpX_eq_bind (a := ()) rfl ?_
  refine wpX_eq_bind (a := ()) rfl ?_
  refine wpX_bind (no_lend hd ?_)
  refine wpX_if_false rfl ?_
  refine wpX_bindA (update_ba hd rfl (Nat.zero_le _) ?_)
  have hs' := k1 d _ hs
  refine wpX_bindA ?_
  show wpAny _ _ (load d >>= _) _ _ _
  refine wpAny_bind (wpAny_load hs' (wpAny_pure ?_))
  refine wpX_if_false rfl ?_
  refine wpX_eq_bind (a := ()) rfl ?_
  refine wpX_bindA (wpAny_specialOf (typeIs_ba (s := { s with heap := _ }) hs') BA.look_no_index ?_)
  refine wpX_if_false rfl ?_
  refine wpX_bindA (buffer_ba (s := { s with heap := _ }) hs' ?_)
  refine wpX_bindA (wpAny_rule ?_)
  refine wpX_bindA (update_ba k2 rfl hz ?_)
  exact wpX_pure ⟨rfl, h _ k3 k4⟩
end
end

section
open PySem.Calls PySem.Spec PyProof.V
section
variable {prog : Program} {w : World} {A : Around} {E : Value → Shared → Prop} {s : Shared} {Q : Value → Shared → Prop}
theorem subscript_slice {M : Model} {a : Addr} {l u : Value} {Q : Option Int → Shared → Prop} (hs : s.heap.IsSliceOf a l u .none) (h : Q none s) : wpAny M A (Builtin.Bytes.subscript? (.ref a)) Q E s := by
  obtain ⟨o, ho, hc, hdd⟩ := hs
  have hT : s.TypeIs (.ref a) "slice" := ⟨o, ho, hc⟩
  unfold Builtin.Bytes.subscript?
  exact wpAny_bind (wpAny_specialOf hT slice_no_index (wpAny_pure h))
theorem parts_slice {M : Model} {a : Addr} {x y : Int} {t u : Tok} {Q : Value × Value × Value → Shared → Prop} (hs : s.heap.IsSliceOf a (.int x t) (.int y u) .none) (h : Q (rawPart (some x), rawPart (some y), rawPart none) s) :
    wpAny M A (Builtin.Bytes.sliceParts (.ref a)) Q E s := by
  obtain ⟨o, ho, hc, hdd⟩ := hs
  unfold Builtin.Bytes.sliceParts
  refine wpAny_bind (wpAny_field (x := .none) ho hdd rfl ?_)
  refine wpAny_bind (wpAny_of_eq (a := Value.none) rfl ?_)
  refine wpAny_ite (KBy.ite_no (show ¬ ((Value.none == rawInt 0) = true) from Bool.false_ne_true) ?_)
  refine wpAny_bind (wpAny_field (x := .int x t) ho hdd rfl ?_)
  kby_int
  refine wpAny_bind (wpAny_field (x := .int y u) ho hdd rfl ?_)
  kby_int
  exact wpAny_pure h
theorem checkResizeX {d : Addr} {b : Array UInt8} {Q : Unit → Shared → Prop} (hd : s.heap.get? d = some (baObj b)) (h : Q () s) : wpX (model prog w) A (Builtin.Bytes.checkResize (.ref d)) Q E s := by
  unfold Builtin.Bytes.checkResize
  refine wpX_bind (no_lend hd ?_)
  exact wpX_if_false rfl (wpX_pure h)
theorem bounds_end (n : Nat) (k : Int) (hk : 0 ≤ k) : sliceBounds (some (n : Int)) (some ((n : Int) + k)) none n = ((n : Int), (n : Int), 1) := by
  rw [sliceBounds_plain]
  have h1 : clipAt n (n : Int) = n := by rw [clipAt_nat]; omega
  have h2 : clipAt n ((n : Int) + k) = n := by
    obtain ⟨j, rfl⟩ := Int.eq_ofNat_of_zero_le hk
    rw [show (n : Int) + (j : Int) = ((n + j : Nat) : Int) by omega, clipAt_nat]; omega
  simp [h1, h2]
theorem grown_eq (b c : Array UInt8) : b.extract 0 ((b.size : Int)).toNat ++ c ++ b.extract (max (b.size : Int) (b.size : Int)).toNat b.size = b ++ c := by
  simp
theorem bytes_no_number (c : Array UInt8) (t : Tok) : ((((do return (← specialOf (.bytes c t) ("__index__" : Str)).isSome : Sem Bool) <||> (do return (← specialOf (.bytes c t) ("__int__" : Str)).isSome)) <||> (do return (← specialOf (.bytes c t) ("__float__" : Str)).isSome)) <||> isInstance (.bytes c t) (.type "complex")) = pure false := by
  rw [KBy.special_eq (show typeLookup (.type "bytes") ("__index__" : Str) = pure none by rw [typeLookup_type, builtinLookup_eq_fast]; kernel_rfl),
    KBy.special_eq (show typeLookup (.type "bytes") ("__int__" : Str) = pure none by rw [typeLookup_type, builtinLookup_eq_fast]; kernel_rfl),
    KBy.special_eq (show typeLookup (.type "bytes") ("__float__" : Str) = pure none by rw [typeLookup_type, builtinLookup_eq_fast]; kernel_rfl),
    show isInstance (.bytes c t) (.type "complex") = isSubtype (.type "bytes") (.type "complex") from rfl,
    show isSubtype (.type "bytes") (.type "complex") = pure false by rw [isSubtype_type]; kernel_rfl]
  rfl
/-- buf[len(buf):len(buf) + k] = bytes: the bytes are added at the end -/
theorem ba_append {d a : Addr} {b c : Array UInt8} {k : Int} {t t1 t2 : Tok} {Q : Unit → Shared → Prop} (hd : s.heap.get? d = some (baObj b)) (hs : s.heap.IsSliceOf a (.int (b.size : Int) t1) (.int ((b.size : Int) + k) t2) .none) (hk0 : 0 ≤ k)
    (hz : b.size + c.size ≤ sizeLine) (h : ∀ h', Kept [d] s.heap h' → h'.get? d = some (baObj (b ++ c)) → Q () { s with heap := h' }) :
    wpX (model prog w) A (setItem (.ref d) (.ref a) (.bytes c t)) Q E s := by
  unfold setItem
  refine wpX_holding ?_
  refine wpX_bindA (wpAny_sequenceKey (typeIs_ba hd) (by decide) ?_)
  refine wpX_bind (callSpecialX_slot (typeIs_ba hd) BA.slot_setitem ?_)
  refine wpX_call (codeX_call_builtin (show badIds.contains "bytearray.__setitem__" = false by decide +kernel) BA.slot_setitem.plain BA.entry_setitem (BA.slot_setitem.check _ _ _ _ _ _ _ _ (typeIs_ba hd) (BA.args_setitem _ _ _) ?_))
  have hT : s.TypeIs (.ref a) "slice" := let ⟨o, ho, hc, _⟩ := hs; ⟨o, ho, hc⟩
  unfold Builtin.«bytearray.__setitem__»
  refine wpX_if_false rfl ?_
  refine wpX_bindA (subscript_slice hs ?_)
  refine wpX_bindA (wpAny_typeOf hT ?_)
  refine wpX_if_false rfl ?_
  refine wpX_bindA (parts_slice hs ?_)
  refine wpX_if_false rfl ?_
  refine wpX_bindA (wpAny_isInstance (typeIs_bytes _ _ _) (show isSubtype (.type "bytes") (.type "bytearray") = pure false by rw [isSubtype_type]; kernel_rfl) ?_)
  refine wpX_if_true rfl ?_
  refine wpX_eq_bind (bytes_no_number c t) ?_
  refine wpX_eq_bind (a := none) rfl ?_
  refine wpX_if_false rfl ?_
  refine wpX_bindA (wpAny_rule ?_)
  refine wpX_bind (ba_new_bytes (Nat.le_trans (Nat.le_add_left _ _) hz) fun h' hk hn => ?_)
  have hs' : h'.IsSliceOf a (.int (b.size : Int) t1) (.int ((b.size : Int) + k) t2) .none := let ⟨o, ho, r⟩ := hs; ⟨o, hk a o ho, r⟩
  have hd' := hk d _ hd
  refine wpX_bindA (wpAny_holding (parts_slice (s := { s with heap := h' }) hs' ?_))
  refine wpX_bindA (payload_ba (s := { s with heap := h' }) hn ?_)
  refine wpX_bindA (payload_ba (s := { s with heap := h' }) hd' ?_)
  refine wpX_eq_bind (sliceIndices_raw (some (b.size : Int)) (some ((b.size : Int) + k)) none b.size (fun e => nomatch e)) ?_
  rw [bounds_end b.size k hk0]
  refine wpX_if_true rfl ?_
  refine wpX_bindA (wpAny_rule ?_)
  have hend : ∀ h'', h'' = h'.update d (Obj.mapBytearray fun b' => b'.extract 0 ((b.size : Int)).toNat ++ c ++ b'.extract (max (b.size : Int) (b.size : Int)).toNat b'.size) → Q () { s with heap := h'' } := by
    rintro h'' rfl
    refine h _ ?_ ?_
    · intro x o hx e
      exact (Heap.get?_update_other _ _ (fun q => hx (by rw [q]; exact List.mem_singleton.mpr rfl))).trans (hk x o e)
    · exact (Heap.get?_update_self (Obj.mapBytearray fun b' => b'.extract 0 ((b.size : Int)).toNat ++ c ++ b'.extract (max (b.size : Int) (b.size : Int)).toNat b'.size) hd' rfl).trans (congrArg (fun z => some (baObj z)) (grown_eq b c))
  have hzz : (b ++ c).size ≤ sizeLine := by rw [Array.size_append]; exact hz
  by_cases hcond : ((c.size : Int) != max (b.size : Int) (b.size : Int) - (b.size : Int)) = true
  · refine wpX_if_true hcond ?_
    refine wpX_bind (checkResizeX (s := { s with heap := h' }) hd' ?_)
    refine wpX_bindA (update_ba (s := { s with heap := h' }) hd' (grown_eq b c) hzz ?_)
    exact wpX_pure (wpX_pure (hend _ rfl))
  · refine wpX_if_false (Bool.eq_false_iff.mpr hcond) ?_
    refine wpX_bindA (update_ba (s := { s with heap := h' }) hd' (grown_eq b c) hzz ?_)
    exact wpX_pure (wpX_pure (hend _ rfl))
end
end

section
open PySem.Calls PySem.Spec PyProof.V
/-! what a read gives, in plain words -/
def rdStop (n p : Nat) (size : Int) : Nat := if size < 0 then n else min (p + size.toNat) n
def rdNew (n p : Nat) (size : Int) : Nat := if n ≤ p then p else rdStop n p size
def rdGot (b : Array UInt8) (p : Nat) (size : Int) : Array UInt8 := ((b.toList.drop p).take (rdStop b.size p size - p)).toArray
theorem rdStop_le (n p : Nat) (size : Int) : rdStop n p size ≤ n := by unfold rdStop; split <;> omega
theorem rdGot_size (b : Array UInt8) (p : Nat) (size : Int) : (rdGot b p size).size ≤ b.size := by
  unfold rdGot
  simp only [List.size_toArray, List.length_take, List.length_drop, Array.length_toList]
  omega
theorem rdGot_none {b : Array UInt8} {p : Nat} {size : Int} (h : (b.size : Int) ≤ (p : Int)) : #[] = rdGot b p size := by
  unfold rdGot
  rw [List.drop_eq_nil_of_le (by simp; omega)]
  simp
theorem rdGot_some {b : Array UInt8} {p : Nat} {size j : Int} (h : ¬ (b.size : Int) ≤ (p : Int)) (hj : 0 ≤ j) (e : j.toNat = rdStop b.size p size) : KBy.picked b (some (p : Int)) (some j) = rdGot b p size := by
  obtain ⟨k, rfl⟩ := Int.eq_ofNat_of_zero_le hj
  have hk : k = rdStop b.size p size := by simpa using e
  have hle := rdStop_le b.size p size
  rw [KBc.picked_eq]
  unfold rdGot
  simp only [Option.elim_some, clipAt_nat]
  rw [Nat.min_eq_left (by omega : p ≤ b.size), Nat.min_eq_left (by omega : k ≤ b.size), hk]
theorem rdNew_none {n p : Nat} {size : Int} (h : (n : Int) ≤ (p : Int)) : (p : Int) = (rdNew n p size : Nat) := by unfold rdNew; rw [if_pos (by omega)]
theorem rdNew_some {n p : Nat} {size j : Int} (h : ¬ (n : Int) ≤ (p : Int)) (hj : 0 ≤ j) (e : j.toNat = rdStop n p size) : j = (rdNew n p size : Nat) := by
  unfold rdNew
  rw [if_neg (by omega)]
  omega
theorem rdStop_in {n p : Nat} {size : Int} (h0 : 0 ≤ size) (h1 : (p : Int) + size < (n : Int)) : ((p : Int) + size).toNat = rdStop n p size := by
  unfold rdStop
  rw [if_neg (by omega)]
  omega
theorem rdStop_out {n p : Nat} {size : Int} (h0 : 0 ≤ size) (h1 : ¬ (p : Int) + size < (n : Int)) : ((n : Int)).toNat = rdStop n p size := by
  unfold rdStop
  rw [if_neg (by omega)]
  omega
theorem rdStop_all {n p : Nat} {size : Int} (h0 : ¬ 0 ≤ size) : ((n : Int)).toNat = rdStop n p size := by
  unfold rdStop
  rw [if_pos (by omega)]
  omega
end

local macro_rules | `(tactic| walk_at "call builtin:len") => `(tactic| (k_here; (with_reducible show wpAny _ _ (call (Value.builtin "len") [Value.ref _]) _ _ _); k_dflt (refine' len_ba ?hd ?hz ?_; (case hd => (refine' News.get ?n ?q; (case n => k_asm); (case q => k_mem))); (case hz => omega); k_whole)))
local macro_rules | `(tactic| walk_at "subscriptTail") => `(tactic| (k_here; (with_reducible show wpAny _ _ (subscriptTail _ (Expr.Slice _ _ none _) (Value.ref _) (Value.ref _)) _ _ _); (with_reducible rename Fr _ _ _ _ => F'); (with_reducible rename News _ _ _ _ => N'); k_dflt (refine' ba_slice (s := ⟨_, _, _, _, _⟩) F' N' ?hd ?hl ?hu ?hz ?_; (case hd => (refine' News.get N' ?q; (case q => k_mem))); (case hl => constructor); (case hu => constructor); (case hz => omega); k_whole); intro d9 h9 F9 N9 l9; (try k_lt l9); (try k_sweep)))
local macro_rules | `(tactic| walk_at "call type:bytes") => `(tactic| (k_here; (with_reducible show wpAny _ _ (call (Value.type "bytes") [Value.ref _]) _ _ _); k_dflt (refine' bytes_ba ?hd ?hz ?_; (case hd => (refine' News.get ?n ?q; (case n => k_asm); (case q => k_mem))); (case hz => first | (rw [sizeLine_eq]; omega) | exact Nat.le_trans (KBc.size_picked_le _ _ _) (by rw [sizeLine_eq]; omega)); k_whole)))

section
variable {w : World} {p : Program} {loose : List Str} {mean : ExcName → Option Value} {mg mb : Str → Option Value} {dp un : Nat} {gd : Option (List Code)} {cn : Str} {cs : Scope} {a : Addr} {ccd : Value} {cl : List (Str × Addr)} {outer : List Env} {A₀ : Around} {base h₀ : Heap} {L : Addr} {m : Str → Option Value} {s : Shared} {Q E : Value → Shared → Prop}
theorem read_tells {x dx ba : Addr} {size : Int} {t t0 t1 : Tok} {pn : Nat} {t2 : Tok} {bt : Array UInt8} (B : Below A₀ base outer h₀) (F : Fr h₀ L s.heap m) (X : (Mine.hd.heap_1 w.params).In h₀) (T : Top p loose mean mg mb h₀) (hk : cs.kind = .function)
   (N : News h₀ L s.heap [(dx, bioD w t0 ba t1 (pn : Int) t2), (x, instObj 322 dx), (ba, baObj bt)])
   (hne : @Ne Nat x dx) (hne2 : @Ne Nat ba dx) (hz : bt.size < 1000)
   (h0 : -1000 < size) (h1 : size < 1000)
   (hd : dp + 4 < recursionLimit) (hu : un + 40 < cLine)
   (ret : ∀ v h' tk' t2', Fr h₀ L h' m → Kept [dx] s.heap h' → News h₀ L h' [(dx, bioD w t0 ba t1 (rdNew bt.size pn size : Nat) t2'), (x, instObj 322 dx), (ba, baObj bt)] → Q (.bytes (rdGot bt pn size) v) { s with heap := h', toks := tk' }) :
   wpAny (model PG w) (ktrTop dp un gd cn cs L a ccd cl outer) (call (.ref 246) [.ref x, .int size t]) Q E s := by
  have hp : (0 : Int) ≤ (pn : Int) := by omega
  have key : ∀ {X : Array UInt8} {q : Int} {v : Tok} {h' : Heap} {tk' : Nat} {t2' : Tok} {nw : List (Addr × Obj)}, Fr h₀ L h' m → News h₀ L h' nw → ((dx, bioD w t0 ba t1 q t2') : Addr × Obj) ∈ nw → ((x, instObj 322 dx) : Addr × Obj) ∈ nw → ((ba, baObj bt) : Addr × Obj) ∈ nw →
      Kept ([(dx, bioD w t0 ba t1 (pn : Int) t2), (x, instObj 322 dx), (ba, baObj bt)].map (·.1)) s.heap h' → X = rdGot bt pn size → q = (rdNew bt.size pn size : Nat) → Q (.bytes X v) { s with heap := h', toks := tk' } := by
    intro X q v h' tk' t2' nw F' N' m1 m2 m3 kp e1 e2
    subst e1 e2
    exact ret _ _ _ _ F' (kept_but (chg := [(dx, bioD w t0 ba t1 (pn : Int) t2)]) (same := [(x, instObj 322 dx), (ba, baObj bt)]) (News.sub2 N (by k_mem) (by k_mem)) (News.sub2 N' m2 m3) kp) (News.sub3 N' m1 m2 m3)
  refine wpAny_call ?_
  k_dflt cell_enter
  k_steps
  all_goals (refine' key (by k_asm) (by with_reducible assumption) ?_ (by k_mem) (by k_mem) (by assumption) ?_ ?_)
  all_goals first
    | k_mem
    | exact rdGot_none (by assumption)
    | exact rdNew_none (by assumption)
    | exact rdGot_some (by assumption) (by omega) (rdStop_in (by assumption) (by assumption))
    | exact rdNew_some (by assumption) (by omega) (rdStop_in (by assumption) (by assumption))
    | exact rdGot_some (by assumption) (by omega) (rdStop_out (by assumption) (by assumption))
    | exact rdNew_some (by assumption) (by omega) (rdStop_out (by assumption) (by assumption))
    | exact rdGot_some (by assumption) (by omega) (rdStop_all (by assumption))
    | exact rdNew_some (by assumption) (by omega) (rdStop_all (by assumption))
    | skip
end

section
open PySem.Calls PySem.Spec
section
variable {M : Model} {A : Around} {E : Value → Shared → Prop} {s : Shared} {env : Env}
theorem wpX_execs_nil {Q : Flow → Shared → Prop} (h : Q .next s) : wpX M A (execs [] env) Q E s := fun _ _ _ _ _ => h
theorem wpX_execs_cons {st : Stmt} {rest : List Stmt} {Q : Flow → Shared → Prop}
    (h : wpX M A (exec st env) (fun f s' => match f with | .next => wpX M A (execs rest env) Q E s' | f => Q f s') E s) : wpX M A (execs (st :: rest) env) Q E s := by
  rw [execs_cons]
  refine wpX_bind (wpX_mono h (fun f s' h' => ?_) fun _ _ e => e)
  cases f <;> first | exact h' | exact wpX_pure h'
theorem wp_execs_app {Γ : PySem.Ctx} (hΓ : Γ.In A) (hb : badCode Γ.code = false) (hc : CleanA Γ.code Γ.below) {rest : List Stmt} {Q : Flow → Shared → Prop} : ∀ {pre : List Stmt} {p : Pos} {s : Shared},
    Sem.wp M Γ (execs pre env) (fun f _ s' => match f with | .next => wpX M A (execs rest env) Q E s' | f => Q f s') (fun e _ s' => E e s') p s →
    Sem.wp M Γ (execs (pre ++ rest) env) (fun f _ s' => Q f s') (fun e _ s' => E e s') p s
  | [], p, s, h => (show wpX M A (execs rest env) Q E s from h) Γ p hΓ hb hc
  | st :: pre, p, s, h => by
    rw [execs_cons, Sem.wp_bind'] at h
    show Sem.wp M Γ (execs (st :: (pre ++ rest)) env) _ _ p s
    rw [execs_cons, Sem.wp_bind']
    refine Sem.wp_mono M Γ _ (fun f p' s' h' => ?_) (fun _ _ _ e => e) p s h
    cases f with
    | next => exact wp_execs_app hΓ hb hc h'
    | _ => exact h'
/-- the first n statements by the library's logic -/
theorem wpX_execs_cut (n : Nat) {l : List Stmt} {Q : Flow → Shared → Prop}
    (h : wpAny M A (execs (l.take n) env) (fun f s' => match f with | .next => wpX M A (execs (l.drop n) env) Q E s' | f => Q f s') E s) : wpX M A (execs l env) Q E s := by
  intro Γ p hΓ hb hc
  have := wp_execs_app hΓ hb hc (h Γ p hΓ)
  rwa [List.take_append_drop] at this

theorem wpX_Assign_Name {x : Str} {pos' pos : Pos} {value : Expr} {Q : Flow → Shared → Prop}
    (h : wpX M A (eval value env) (fun v s₁ => wpAny M A (storeName env x v) (fun _ s' => Q .next s') E s₁) E s)
    (hs : swapsWith value (some (.Name x pos')) pos.line env = pure false := by rfl) :
    wpX M A (exec (.Assign [.Name x pos'] value pos) env) Q E s := by
  rw [exec_Assign_Name env x pos' value pos hs]
  exact wpX_bindA (wpAny_standAt (wpX_bind (wpX_mono h (fun v s₁ h₁ => wpX_bindA (wpAny_standAt (wpX_bindA (wpAny_bindName (wpAny_mono h₁ (fun _ _ q => wpX_pure q) fun _ _ e => e))))) fun _ _ e => e)))
theorem wpX_Assign_Attribute {o value : Expr} {attr : Str} {pos' pos : Pos} {Q : Flow → Shared → Prop}
    (h : wpX M A (eval value env) (fun v s₁ => wpAny M A (eval o env) (fun ov s₂ => wpAny M A (setAttr ov attr v) (fun _ s' => Q .next s') E s₂) E s₁) E s)
    (hs : swapsWith value (some (.Attribute o attr pos')) pos.line env = pure false := by rfl) :
    wpX M A (exec (.Assign [.Attribute o attr pos'] value pos) env) Q E s := by
  rw [plainObj_exec_Assign_Attribute o attr pos' value pos hs]
  refine wpX_bindA (wpAny_standAt (wpX_bind (wpX_mono h (fun v s₁ h₁ => ?_) fun _ _ e => e)))
  refine wpX_bindA ?_
  rw [assign_Attribute]
  refine wpAny_bind (wpAny_holding (wpAny_mono h₁ (fun ov s₂ h₂ => wpAny_bind (wpAny_standAt (wpAny_bind (wpAny_holding (wpAny_mono h₂ (fun _ s₃ q => ?_) fun _ _ e => e))))) fun _ _ e => e))
  intro Γ p _
  rw [Sem.wp_release]
  exact wpX_pure q
theorem wpX_Assign_Subscript {o i value : Expr} {pos' pos : Pos} {Q : Flow → Shared → Prop}
    (h : wpAny M A (eval value env) (fun v s₁ => wpAny M A (eval o env) (fun ov s₂ => wpAny M A (eval i env) (fun iv s₃ =>
      wpX M A (setItem ov iv v) (fun _ s' => Q .next s') E s₃) E s₂) E s₁) E s)
    (hs : swapsWith value (some (.Subscript o i pos')) pos.line env = pure false := by rfl) :
    wpX M A (exec (.Assign [.Subscript o i pos'] value pos) env) Q E s := by
  rw [exec_Assign_Subscript o i pos' value pos hs]
  refine wpX_bindA (wpAny_standAt (wpX_bindA (wpAny_mono h (fun v s₁ h₁ => ?_) fun _ _ e => e)))
  rw [assign_Subscript]
  refine wpX_bind (wpX_bindA (wpAny_holding (wpAny_mono h₁ (fun ov s₂ h₂ => wpX_bindA (wpAny_holding (wpAny_mono h₂ (fun iv s₃ h₃ => ?_) fun _ _ e => e))) fun _ _ e => e)))
  refine wpX_bindA (wpAny_standAt (wpX_bind (wpX_holding (wpX_mono h₃ (fun _ s₄ q => ?_) fun _ _ e => e))))
  intro Γ p _ _ _
  rw [Sem.wp_release]
  exact wpX_pure q
theorem wpX_Expr {e : Expr} {pos : Pos} {Q : Flow → Shared → Prop} (h : wpX M A (eval e env) (fun v s' => match v with | .ref _ => False | _ => Q .next s') E s)
    (hi : interactive env = false := by rfl) (hs : swapsWith e none pos.line env = pure false := by rfl) :
    wpX M A (exec (.Expr e pos) env) Q E s := by
  rw [exec_Expr env e pos hi hs]
  refine wpX_bindA (wpAny_standAt (wpX_bind (wpX_mono h (fun v s' h' => ?_) fun _ _ x => x)))
  have hv : ∀ a, v ≠ .ref a := fun a hva => by subst hva; exact h'
  rw [dropValue_plain hv]
  refine wpX_pure ?_
  cases v <;> first | exact h' | exact (hv _ rfl).elim
theorem wpX_If {test : Expr} {body orelse : List Stmt} {pos : Pos} {Q : Flow → Shared → Prop}
    (h : wpX M A (isTrue test env (eval test env)) (fun b s₂ => if b = true then wpX M A (execs body env) Q E s₂ else wpX M A (execs orelse env) Q E s₂) E s) :
    wpX M A (exec (.If test body orelse pos) env) Q E s := by
  rw [exec_If]
  refine wpX_bindA (wpAny_standAt (wpX_bind (wpX_mono h (fun b s₂ h₂ => ?_) fun _ _ x => x)))
  cases b with
  | true => exact h₂
  | false => exact h₂
theorem wpX_Return_some {e : Expr} {pos : Pos} {Q : Flow → Shared → Prop} (h : wpX M A (eval e env) (fun v s' => Q (.ret v) s') E s) : wpX M A (exec (.Return (some e) pos) env) Q E s := by
  rw [exec_Return_some]
  exact wpX_bindA (wpAny_standAt (wpX_bind (wpX_mono h (fun v s' q => wpX_pure q) fun _ _ x => x)))

theorem wpX_Call {func : Expr} {args : List Expr} {pos : Pos} {Q : Value → Shared → Prop}
    (h : wpAny M A (eval func env) (fun f s₁ => wpX M A (callWith pos f [] (backTo pos (starEach args env)) []) Q E s₁) E s)
    (he : eval (.Call func args [] pos) env = (do callWith pos (← eval func env) [] (backTo pos (starEach args env)) (backToKw pos (keywordEach [] env))) := by rfl) :
    wpX M A (eval (.Call func args [] pos) env) Q E s := by
  rw [he]; exact wpX_bindA h
theorem wpX_MethodCall {o : Expr} {name : Str} {apos pos : Pos} {args : List Expr} {pl : Sem Bool} {Q : Value → Shared → Prop}
    (h : wpAny M A (eval o env) (fun ov s₁ => wpAny M A (getMethod ov name pl) (fun fx s₂ => wpX M A (callWith pos fx.1 fx.2 (backTo pos (starEach args env)) []) Q E s₂) E s₁) E s)
    (he : eval (.Call (.Attribute o name apos) args [] pos) env = (do
      let ov ← eval o env
      standAt apos.atName
      let (f, first) ← holding [ov] (getMethod ov name pl)
      callWith pos f first (backTo pos (starEach args env)) (backToKw pos (keywordEach [] env))) := by rfl) :
    wpX M A (eval (.Call (.Attribute o name apos) args [] pos) env) Q E s := by
  rw [he]
  refine wpX_bindA (wpAny_mono h (fun ov s₁ h₁ => wpX_bindA (wpAny_standAt (wpX_bindA (wpAny_holding (wpAny_mono h₁ (fun fx s₂ h₂ => ?_) fun _ _ x => x))))) fun _ _ x => x)
  exact h₂
theorem wpX_callWithP {P : Heap → Prop} {f : Value} {first : List Value} {pos : Pos} {args : List (Bool × Sem Value)} {Q : Value → Shared → Prop}
    (hk : ∀ h, P h → ∃ k, (k = Keeper.frame ∨ k = Keeper.machine ∨ k = Keeper.boundFrame) ∧ Looks M h (keeperOf f) k) (hplain : args.any (·.1) = false)
    (h : wpAny M A (evalArgs f true args []) (fun a s₁ => P s₁.heap ∧ wpX M A (call f (first ++ a.pos) a.kw) Q E s₁) E s) : wpX M A (callWith pos f first args []) Q E s := by
  unfold callWith
  refine wpX_bindA (wpAny_holding (wpAny_mono h (fun a s₁ h₁ => wpX_bindA (wpAny_standAt ?_)) fun _ _ x => x))
  obtain ⟨k, hk', L⟩ := hk _ h₁.1
  simp only [hplain, List.any_nil, Bool.or_false]
  refine wpX_bindA (L.here ?_)
  have tail : ∀ {t : Sem Value}, wpX M A t Q E s₁ → wpX M A (t >>= fun r => holding [r] point >>= fun _ => pure r) Q E s₁ :=
    fun ht => wpX_bind (wpX_mono ht (fun r s₂ hr => wpX_bindA (wpAny_holding (wpAny_point (wpX_pure hr)))) fun _ _ x => x)
  have marked (mk : Value) : wpX M A (callMarked mk f (first ++ a.pos) a.kw) Q E s₁ := by unfold callMarked; exact wpX_keep h₁.2
  rcases hk' with rfl | rfl | rfl <;> dsimp only <;> first | exact tail h₁.2 | (split <;> first | exact tail h₁.2 | exact tail (marked _))
theorem wpX_callWith {K : Frag} {f : Value} {first : List Value} {pos : Pos} {args : List (Bool × Sem Value)} {Q : Value → Shared → Prop} (hk : keepIn K f = true) (hplain : args.any (·.1) = false)
    (h : wpAny M A (evalArgs f true args []) (fun a s₁ => K.In s₁.heap ∧ wpX M A (call f (first ++ a.pos) a.kw) Q E s₁) E s) : wpX M A (callWith pos f first args []) Q E s :=
  wpX_callWithP (keeps_K hk) hplain h
/-- one written argument at least -/
theorem wpX_callWith1 {K : Frag} {f : Value} {first : List Value} {pos : Pos} {e : Expr} {rest : List Expr} {Q : Value → Shared → Prop} (hk : keepIn K f = true)
    (h : wpAny M A (spliced (backTo pos (starEach (e :: rest) env))) (fun vs s₁ => K.In s₁.heap ∧ wpX M A (call f (first ++ vs)) Q E s₁) E s)
    (he : starEach (e :: rest) env = (false, eval e env) :: starEach rest env := by rfl) (hplain : (backTo pos (starEach rest env)).any (·.1) = false := by rfl) :
    wpX M A (callWith pos f first (backTo pos (starEach (e :: rest) env)) []) Q E s := by
  rw [he] at h ⊢
  exact wpX_callWith hk (by show (false || (backTo pos (starEach rest env)).any (·.1)) = false; rw [hplain]; rfl) (evalArgs_plain h)
theorem wpX_callWith0 {K : Frag} {f : Value} {first : List Value} {pos : Pos} {Q : Value → Shared → Prop} (X : K.In s.heap) (hk : keepIn K f = true)
    (h : wpX M A (call f (first ++ [])) Q E s) : wpX M A (callWith pos f first (backTo pos (starEach [] env)) []) Q E s :=
  wpX_callWith hk rfl (evalArgs_nil3 ⟨X, h⟩)
theorem wpX_callType1 {T : String} {pos : Pos} {e : Expr} {rest : List Expr} {Q : Value → Shared → Prop}
    (h : wpAny M A (spliced (backTo pos (starEach (e :: rest) env))) (fun vs s₁ => wpX M A (call (.type T) vs) Q E s₁) E s)
    (he : starEach (e :: rest) env = (false, eval e env) :: starEach rest env := by rfl) (hplain : (backTo pos (starEach rest env)).any (·.1) = false := by rfl) :
    wpX M A (callWith pos (.type T) [] (backTo pos (starEach (e :: rest) env)) []) Q E s := by
  rw [he] at h ⊢
  exact wpX_callWithP (P := fun _ => True) (fun _ _ => ⟨_, .inr (.inl rfl), Looks.of_pure rfl⟩) (by show (false || (backTo pos (starEach rest env)).any (·.1)) = false; rw [hplain]; rfl)
    (evalArgs_plain (wpAny_mono h (fun _ _ q => ⟨trivial, q⟩) fun _ _ x => x))
theorem wpX_callType0 {T : String} {pos : Pos} {Q : Value → Shared → Prop} (h : wpX M A (call (.type T) []) Q E s) : wpX M A (callWith pos (.type T) [] (backTo pos (starEach [] env)) []) Q E s :=
  wpX_callWithP (P := fun _ => True) (fun _ _ => ⟨_, .inr (.inl rfl), Looks.of_pure rfl⟩) rfl (evalArgs_nil3 ⟨trivial, h⟩)
end
end

section
open PySem.Calls PySem.Spec
variable {prog : Program} {w : World} {A : Around} {E : Value → Shared → Prop} {Q : Unit → Shared → Prop}
theorem slice_set {g h : Heap} {L' ba dx x : Addr} {m : Str → Option Value} {D X : Obj} {b c : Array UInt8} {k : Int} {t t1 t2 : Tok} {gn} {dr} {tk} {os}
    (F : Fr g L' h m) (N : News g L' h [(dx, D), (ba, baObj b), (x, X)]) (h1 : @Ne Nat ba dx) (h2 : @Ne Nat ba x) (hk : 0 ≤ k) (hz : b.size + c.size ≤ 16777216)
    (next : ∀ h9, Fr g L' h9 m → News g L' h9 [(dx, D), (ba, baObj (b ++ c)), (x, X)] → Q () ⟨h9, gn, dr, tk, os⟩) :
    wpX (model prog w) A (setItem (.ref ba) (.ref h.objs.size) (.bytes c t)) Q E ⟨h.push { cls := .type "slice", data := .fields #[.int (b.size : Int) t1, .int ((b.size : Int) + k) t2, .none] }, gn, dr, tk, os⟩ := by
  have Nb := N (ba, baObj b) (.tail _ (.head _))
  have N1 := News.pushKeep N { cls := .type "slice", data := .fields #[.int (b.size : Int) t1, .int ((b.size : Int) + k) t2, .none] }
  refine ba_append (s := ⟨_, gn, dr, tk, os⟩) (N1 (ba, baObj b) (.tail _ (.head _))).1 (Heap.IsSliceOf.new ..) hk (by rw [sizeLine_eq]; omega) fun h' K e => next h' (Fr.kept (F.push _) K (by intro q; cases q with | head => exact Nb.2.1 rfl | tail _ q => cases q) (by intro b' q; cases q with | head => exact Nb.2.2 | tail _ q => cases q)) fun q hq => ?_
  cases hq with
  | head => exact ⟨K _ _ (by intro q; cases q with | head => exact h1 rfl | tail _ q => cases q) (N1 (dx, D) (.head _)).1, (N (dx, D) (.head _)).2⟩
  | tail _ hq => cases hq with
    | head => exact ⟨e, Nb.2⟩
    | tail _ hq => cases hq with
      | head => exact ⟨K _ _ (by intro q; cases q with | head => exact h2 rfl | tail _ q => cases q) (N1 (x, X) (.tail _ (.tail _ (.head _)))).1, (N (x, X) (.tail _ (.tail _ (.head _)))).2⟩
      | tail _ hq => cases hq
end
section
local macro_rules | `(tactic| walk_at "call type:type") => `(tactic| (k_here; (with_reducible show wpAny _ _ (call (Value.type "type") [Value.bytes _ _]) _ _ _); refine call_type_of (Tx := "bytes") rfl (by decide +kernel) ?_))
local macro_rules | `(tactic| walk_at "call type:type") => `(tactic| (k_here; (with_reducible show wpAny _ _ (call (Value.type "type") [Value.ref _]) _ _ _); refine call_type_of (Tx := "bytearray") (typeIs_ba (by (refine' News.get ?n ?q; (case n => k_asm); (case q => k_mem)))) (by decide +kernel) ?_))
variable {w : World} {p : Program} {loose : List Str} {mean : ExcName → Option Value} {mg mb : Str → Option Value} {dp un : Nat} {gd : Option (List Code)} {cn : Str} {cs : Scope} {a : Addr} {ccd : Value} {cl : List (Str × Addr)} {outer : List Env} {A₀ : Around} {base h₀ : Heap} {L : Addr} {m : Str → Option Value} {s : Shared} {Q E : Value → Shared → Prop}
theorem getvalue_tells {x dx ba : Addr} {t0 t1 : Tok} {p0 : Int} {t2 : Tok} {bt : Array UInt8} (B : Below A₀ base outer h₀) (F : Fr h₀ L s.heap m) (X : (Mine.hd.heap_1 w.params).In h₀) (T : Top p loose mean mg mb h₀) (hk : cs.kind = .function)
   (N : News h₀ L s.heap [(x, instObj 322 dx), (dx, bioD w t0 ba t1 p0 t2), (ba, baObj bt)]) (hz : bt.size < 1000)
   (hd : dp + 4 < recursionLimit) (hu : un + 40 < cLine)
   (ret : ∀ v h' tk', Fr h₀ L h' m → Kept [] s.heap h' → Q (.bytes bt v) { s with heap := h', toks := tk' }) :
   wpAny (model PG w) (ktrTop dp un gd cn cs L a ccd cl outer) (call (.ref 208) [.ref x]) Q E s := by
  refine wpAny_call ?_
  k_dflt cell_enter
  k_steps
  all_goals exact ret _ _ _ (by k_asm) (kept_same N (by assumption) (by assumption))
theorem write_tells {x dx ba : Addr} {t t0 t1 : Tok} {t2 : Tok} {bt c : Array UInt8} (B : Below A₀ base outer h₀) (F : Fr h₀ L s.heap m) (X : (Mine.hd.heap_1 w.params).In h₀) (T : Top p loose mean mg mb h₀) (hk : cs.kind = .function)
   (N : News h₀ L s.heap [(dx, bioD w t0 ba t1 (bt.size : Int) t2), (ba, baObj bt), (x, instObj 322 dx)])
   (hne : @Ne Nat x dx) (hne2 : @Ne Nat ba dx) (hne3 : @Ne Nat ba x) (hz : bt.size < 1000) (hz2 : c.size < 1000)
   (hd : dp + 4 < recursionLimit) (hu : un + 40 < cLine)
   (ret : ∀ v h' tk' t2', Fr h₀ L h' m → Kept [dx, ba] s.heap h' → News h₀ L h' [(dx, bioD w t0 ba t1 ((bt ++ c).size : Nat) t2'), (ba, baObj (bt ++ c)), (x, instObj 322 dx)] → Q (.int c.size v) { s with heap := h', toks := tk' }) :
   wpX (model PG w) (ktrTop dp un gd cn cs L a ccd cl outer) (call (.ref 305) [.ref x, .bytes c t]) Q E s := by
  refine wpX_call ?_
  k_dflt (refine' code_defX ?k1 ?k2 ?k3 ?k4 ?k5 ?kA ?kF ?kK ?k6 ?k7 ?k8 ?k9 ?kB ?_ ?c2 ?c3 ?c4 ?c5; (case kA => exact rfl); (case kF => exact rfl); (case kK => first | exact rfl | assumption); (case k1 => k_asm); (case k2 => k_asm); (case k3 => k_asm); (case k4 => k_asm); (case k5 => k_asm); (case k6 => k_is); (case k7 => k_is); (case k8 => ktr_room); (case k9 => first | exact BindsTo.of_eq rfl | exact binds_K (by k_in) rfl (by k_is) rfl rfl rfl); (case c5 => decide); (case kB => exact locs rfl); (case c2 => exact rfl); (case c3 => exact rfl); (case c4 => exact rfl); k_whole; intro g' L' h' FG' F' N' B' X' T' hgk; (try dsimp only))
  refine wpX_execs_cut 7 ?_
  dsimp only [List.take_succ_cons, List.take_zero, List.drop_succ_cons, List.drop_zero]
  k_fold
  k_steps
  · obtain rfl : c = #[] := Array.eq_empty_of_size_eq_zero (by omega)
    exact ret _ _ _ t2 (by k_asm) ((kept_same N (by assumption) (by assumption)).mono (by intro a ha; cases ha)) (by rw [Array.append_empty]; k_asm)
  · refine wpX_execs_cons (wpX_Assign_Subscript ?_)
    k_fold
    k_steps
    refine slice_set (by assumption) (by assumption) hne2 hne3 (by omega) (by omega) fun h9 F9 N9 => wpX_of ?_
    k_steps
    all_goals exact ret _ _ _ _ (by k_asm) (kept_but (chg := [(dx, bioD w t0 ba t1 (bt.size : Int) t2), (ba, baObj bt)]) (same := [(x, instObj 322 dx)]) (News.sub1 N (by k_mem)) (News.sub1 (by assumption) (by k_mem)) (by assumption)) (by rw [Array.size_append, Int.natCast_add]; k_asm)
end

section
open PySem.Calls PySem.Spec
section
variable {w : World} {h : Heap} {A : Around} {g : Array GenState} {d : Drawn} {t : Nat} {os : OsState} {R : Result → Shared → Prop}
theorem bio_made (X : (Mine.hd.heap_1 w.params).In h) : Looks (model PG w) h (Bind.madeBy (.ref 322)) none := Looks.of_peek X (by kernel_rfl)
theorem bio_check (X : (Mine.hd.heap_1 w.params).In h) : Looks (model PG w) h (checkBuiltinCall "object.__new__" ⟨[.ref 322], []⟩) () := Looks.of_peek X (by kernel_rfl)
theorem bio_here (X : (Mine.hd.heap_1 w.params).In h) : Looks (model PG w) h (Bind.madeHere "object.__new__" (.ref 322)) () := Looks.of_peek X (by kernel_rfl)
theorem bio_isType (X : (Mine.hd.heap_1 w.params).In h) : Looks (model PG w) h (isType (.ref 322)) true := Looks.of_peek X (by kernel_rfl)
theorem bio_mro (X : (Mine.hd.heap_1 w.params).In h) : Looks (model PG w) h (mroOf (.ref 322)) [.ref 322, .ref 80, .ref 65, .type "object"] := Looks.of_peek X (by kernel_rfl)
theorem bio_checkC (X : (Mine.hd.heap_1 w.params).In h) (rest : List Value) : Looks (model PG w) h (checkBuiltinCall "type.__call__" ⟨.ref 322 :: rest, []⟩) () := Looks.of_peek X (by kernel_rfl)
theorem bio_dunder (X : (Mine.hd.heap_1 w.params).In h) : Looks (model PG w) h (specialOf (.ref 322) "__call__") (some (.builtin "type.__call__")) := Looks.of_peek X (by kernel_rfl)
theorem bio_init (X : (Mine.hd.heap_1 w.params).In h) : Looks (model PG w) h (typeLookup (.ref 322) "__init__") (some (.ref 109)) := Looks.of_peek X (by kernel_rfl)
theorem bio_sub (X : (Mine.hd.heap_1 w.params).In h) : Looks (model PG w) h (isSubtype (.ref 322) (.ref 322)) true := Looks.of_peek X (by kernel_rfl)
theorem bio_bind (X : (Mine.hd.heap_1 w.params).In h) (self : Value) : Looks (model PG w) h (bindSpecial (.ref 109) self) (.ref 109, [self]) := Looks.of_peek X (by kernel_rfl)
theorem bio_obj (X : (Mine.hd.heap_1 w.params).In h) : ∃ oc od cd sl, h.get? 322 = some ⟨oc, od, .cls cd, sl⟩ ∧ cd.abstract = false ∧ cd.hasDel = false := ⟨_, _, _, _, X 322 _ (by k_is), rfl, rfl⟩
theorem bio_new (X : (Mine.hd.heap_1 w.params).In h) (hq : R (.ok (.ret (.ref (h.objs.size + 1)))) ⟨(h.push emptyDict).push (instObj 322 h.objs.size), g, d, t, os⟩) :
    codeAny (model PG w) A (.call (.builtin "object.__new__") ⟨[.ref 322], []⟩) R ⟨h, g, d, t, os⟩ := by
  obtain ⟨oc, od, cd, sl, hC, e1, e2⟩ := bio_obj X
  have F := PySem.F.objNew
  have chk := bio_check X
  have here := bio_here X
  have ity := bio_isType X
  refine codeAny_call_builtin_code (Code.quiet_builtin _ F.quiet) ?_
  refine chk.at ?_
  refine codeAny_builtin F.entry ?_
  unfold Builtin.«object.__new__»
  have hC' := Heap.get?_push_of_some (instObj 322 (h.push emptyDict).objs.size.pred) (Heap.get?_push_of_some emptyDict hC)
  have fin : ∀ A', wpAny (model PG w) A' (do
      let d ← if typeHasDict (.ref 322) then some <$> alloc { cls := .type "dict", data := .dict #[] } else pure none
      ret (← newObj (.ref 322) .plain d)) (fun fin s' => match fin with | .done f => R (.ok f) s' | .again c' => c'.quiet = true ∧ codeAny (model PG w) A c' R s') (fun e s' => R (.error e) s') ⟨h, g, d, t, os⟩ := by
    intro A'
    show wpAny _ _ ((alloc emptyDict >>= fun x => pure (some x)) >>= _) _ _ _
    refine wpAny_bind (wpAny_bind (wpAny_alloc (wpAny_pure (wpAny_bind ?_))))
    show wpAny _ _ (newObjAsIs _ _ _) _ _ _
    unfold newObjAsIs classHasDel
    refine wpAny_bind (wpAny_alloc (wpAny_bind (wpAny_bind (wpAny_load (Heap.get?_push_of_some _ (Heap.get?_push_of_some _ hC)) (wpAny_pure ?_)))))
    rw [e2]
    refine wpAny_pure (wpAny_pure ?_)
    show R _ _
    rw [Heap.size_push]
    exact hq
  repeat (first | simp only [e1, Bool.false_eq_true, if_false] | exact fin _ | lk)
end
end
section
open PySem.Calls
variable {w : World} {A : Around} {E : Value → Shared → Prop} {Q : Value → Shared → Prop} {s : Shared} {h₀ : Heap} {L : Addr} {m : Str → Option Value} {news : List (Addr × Obj)}
theorem call_new (F : Fr h₀ L s.heap m) (N : News h₀ L s.heap news) (X : (Mine.hd.heap_1 w.params).In h₀)
    (h : ∀ x dx h', Fr h₀ L h' m → News h₀ L h' ((x, instObj 322 dx) :: (dx, emptyDict) :: news) → (∀ p ∈ news, p.1 < dx) → dx < x → Q (.ref x) { s with heap := h' }) :
    wpAny (model PG w) A (call (.builtin "object.__new__") [.ref 322]) Q E s := by
  obtain ⟨hh, g, d, t, os⟩ := s
  refine wpAny_call (bio_new (X.keeps F.keep) (h _ hh.objs.size _ ((F.push _).push _) ?_ (fun p hp => Heap.lt_size (N p hp).1) (Nat.lt_succ_self _)))
  have := (N.push F emptyDict).push (F.push _) (instObj 322 hh.objs.size)
  rwa [Heap.size_push] at this
end

section
variable {w : World} {p : Program} {loose : List Str} {mean : ExcName → Option Value} {mg mb : Str → Option Value} {dp un : Nat} {gd : Option (List Code)} {cn : Str} {cs : Scope} {a : Addr} {ccd : Value} {cl : List (Str × Addr)} {outer : List Env} {A₀ : Around} {base h₀ : Heap} {L : Addr} {m : Str → Option Value} {s : Shared} {Q E : Value → Shared → Prop}
local macro_rules | `(tactic| cell_enter) => `(tactic| (refine' kp_both ?k1 ?k2 ?k3 ?k4 ?k5 ?kA ?kF ?kK ?k6 ?k7 ?k8 ?kV ?kX ?kQ ?kM ?kN ?kD ?kR ?kP ?kS ?kT ?kB ?_ ?c2 ?c3 ?c4 ?c5; (case kA => exact rfl); (case kF => exact rfl); (case kK => assumption); (case k1 => k_asm); (case k2 => k_asm); (case k3 => k_asm); (case k4 => k_asm); (case k5 => k_asm); (case k6 => k_is); (case k7 => k_is); (case k8 => ktr_room); (case kV => kp_lit); (case kX => kp_lit); (case kQ => exact rfl); (case kM => exact rfl); (case kN => exact rfl); (case kD => kp_flats); (case kR => exact rfl); (case kP => exact rfl); (case kS => exact fun _ => rfl); (case kT => exact fun _ _ => rfl); (case kB => exact fun _ _ => locs rfl); (case c5 => decide); (case c2 => exact rfl); (case c3 => exact rfl); (case c4 => exact rfl); k_whole; intro C' D' o' g' L' h' tk' l1 l2 lo' hs' fs' FG' F' N' B' X' T'; (try dsimp only); (try k_fold)))
theorem new_tells {rest : List Value} {news : List (Addr × Obj)} (hv : rest = [] ∨ ∃ v, rest = [v]) (B : Below A₀ base outer h₀) (F : Fr h₀ L s.heap m) (X : (Mine.hd.heap_1 w.params).In h₀) (T : Top p loose mean mg mb h₀) (hk : cs.kind = .function)
   (N : News h₀ L s.heap news)
   (hd : dp + 4 < recursionLimit) (hu : un + 40 < cLine)
   (ret : ∀ x dx h' tk', Fr h₀ L h' m → News h₀ L h' ((x, instObj 322 dx) :: (dx, emptyDict) :: news) → (∀ p ∈ news, p.1 < dx) → dx < x → Q (.ref x) { s with heap := h', toks := tk' }) :
   wpAny (model PG w) ((ktrTop dp un gd cn cs L a ccd cl outer).under (.builtin "type.__call__" ⟨.ref 322 :: rest, []⟩)) (call (.ref 62) (.ref 322 :: rest)) Q E s := by
  rcases hv with rfl | ⟨v, rfl⟩ <;>
  · refine wpAny_call ?_
    k_dflt cell_enter
    k_steps
    refine call_new (by k_asm) (by k_asm) (by k_asm) fun x dx h9 F9 N9 l9 l8 => ?_
    k_steps
    exact ret x dx _ _ (by k_asm) (News.sub (by k_asm) fun q hq => by
      rcases List.mem_cons.mp hq with rfl | hq
      · exact .head _
      · rcases List.mem_cons.mp hq with rfl | hq
        · exact .tail _ (.head _)
        · exact .tail _ (.tail _ (.tail _ (.tail _ hq)))) (fun p hp => l9 p (.tail _ (.tail _ hp))) l8
end

section
open PySem.Calls PySem.Spec
section
variable {M : Model} {A : Around} {E : Value → Shared → Prop} {s : Shared} {env : Env}
theorem wpX_IfExp {test body orelse : Expr} {pos : Pos} {Q : Value → Shared → Prop}
    (h : wpAny M A (isTrue test env (eval test env)) (fun b s₂ => if b = true then wpX M A (eval body env) Q E s₂ else wpX M A (eval orelse env) Q E s₂) E s) :
    wpX M A (eval (.IfExp test body orelse pos) env) Q E s := by
  rw [eval_IfExp]
  refine wpX_bindA (wpAny_mono h (fun b s₂ h₂ => ?_) fun _ _ x => x)
  cases b with
  | true => exact h₂
  | false => exact h₂
end
section
variable {h₀ : Heap} {L : Addr} {m : Str → Option Value} {s : Shared} {news : List (Addr × Obj)} {Q : Value → Shared → Prop} {b : Array UInt8}
theorem baNew_led (F : Fr h₀ L s.heap m) (N : News h₀ L s.heap news) (h : ∀ ba h', Fr h₀ L h' m → News h₀ L h' ((ba, baObj b) :: news) → (∀ p ∈ news, p.1 < ba) → Q (.ref ba) { s with heap := h' }) : baNew s b Q := fun h' hk he =>
  h _ h' (F.keeps hk) (News.cons (News.grown N hk) he (fun e => Nat.lt_irrefl _ (by have := F.ns.lt; rw [← e] at this; exact this)) F.fresh) fun _ hp => Heap.lt_size (N _ hp).1
end
section
variable {w : World} {A : Around} {s : Shared} {R : Result → Shared → Prop}
theorem make_coreX {rest : List Value} (X : (Mine.hd.heap_1 w.params).In s.heap)
    (hn : wpX (model PG w) (A.under (.builtin "type.__call__" ⟨.ref 322 :: rest, []⟩)) (call (.ref 62) (.ref 322 :: rest))
      (fun v s' => ∃ x dx, v = .ref x ∧ s'.heap.get? x = some (instObj 322 dx) ∧ (Mine.hd.heap_1 w.params).In s'.heap ∧
        codeX (model PG w) (A.under (.builtin "type.__call__" ⟨.ref 322 :: rest, []⟩)) (.call (.ref 109) ⟨.ref x :: rest, []⟩) (InitBack x R) s') (fun e s' => R (.error e) s') { s with toks := s.toks + 1 }) :
    codeX (model PG w) A (.call (.ref 322) ⟨rest, []⟩) R s := by
  obtain ⟨oc, od, cd, sl, hC, e1, e2⟩ := bio_obj X
  refine codeX_of_tree rfl ?_
  show wpX _ _ (callAny (.ref 322) _) _ _ _
  simp only [callAny]
  refine wpX_bindA (wpAny_load hC ?_)
  show wpX _ _ (callAny.viaDunder (.ref 322) _) _ _ _
  unfold callAny.viaDunder
  refine wpX_bindA ((bio_dunder X).here ?_)
  dsimp only
  rw [tc_bind]
  refine wpX_bind (wpX_pure (wpX_bind (wpX_pure ?_)))
  refine wpX_pure (a := Fin.again (.call (.builtin "type.__call__") ⟨.ref 322 :: rest, []⟩)) (And.intro rfl ?_)
  refine codeX_of_tree rfl ?_
  show wpX _ A.in1 (do checkBuiltinCall "type.__call__" ⟨.ref 322 :: rest, []⟩; again (.builtin "type.__call__" ⟨.ref 322 :: rest, []⟩)) _ _ s
  refine wpX_bindA ((bio_checkC X rest).here (wpX_pure ⟨Code.quiet_builtin _ (by decide +kernel), codeX_builtin (show badIds.contains "type.__call__" = false by decide +kernel) entry_typeCall ?_⟩))
  unfold Builtin.«type.__call__»
  refine wpX_if_false (by decide) ?_
  refine wpX_bindA ((bio_mro X).here ?_)
  refine wpX_if_false rfl ?_
  refine wpX_bindA ((bio_made X).here ?_)
  dsimp only
  refine wpX_bindA (cls_bind (K := Mine.hd.heap_1 w.params) (mc := .type "type") X (by k_is) (show findCls (Mine.hd.heap_1 w.params) (.ref 322) (.type "type") "__new__" = some (.get (.builtin "staticmethod.__get__") (.ref 66) .none (.ref 322)) by k_is)
    (wpAny_call (sm_get (K := Mine.hd.heap_1 w.params) (s := { s with toks := s.toks + 1 }) (f := .ref 62) (rest := []) X (by k_is) (handed_on rfl ?_))))
  refine wpX_bind (wpX_holding (wpX_mono hn (fun v s' z => ?_) fun _ _ z => z))
  obtain ⟨x, dx, rfl, hx, X', z⟩ := z
  have t1 : Looks (model PG w) s'.heap (typeOf (.ref x)) (.ref 322) := (Looks.ld hx).andThen .now
  have i1 : Looks (model PG w) s'.heap (isInstance (.ref x) (.ref 322)) true := Looks.andThen (f := fun t => isSubtype t (.ref 322)) t1 (bio_sub X')
  have i2 : Looks (model PG w) s'.heap (typeOf (.ref x) >>= fun t => typeLookup t "__init__") (some (.ref 109)) := Looks.andThen (f := fun t => typeLookup t "__init__") t1 (bio_init X')
  refine wpX_bindA (m := isInstance (.ref x) (.ref 322)) (i1.here ?_)
  refine wpX_if_false rfl ?_
  refine wpX_bind (wpX_holding ?_)
  unfold callSpecial? specialOf
  refine wpX_bindA (i2.here ?_)
  dsimp only
  refine wpX_holding (wpX_bindA ((bio_bind X' (.ref x)).here ?_))
  refine wpX_bind (wpX_call (codeX_mono z fun r s'' q => ?_))
  rcases r with e | (v | _ | _ | _) <;> first | exact q | exact q.elim | skip
  obtain ⟨rfl, q⟩ := q
  refine wpX_pure ?_
  dsimp only
  refine wpX_if_false rfl ?_
  exact wpX_pure q
end
end

local macro_rules | `(tactic| ktr_enter) => `(tactic| (refine' code_defX ?k1 ?k2 ?k3 ?k4 ?k5 ?kA ?kF ?kK ?k6 ?k7 ?k8 ?k9 ?kB ?_ ?c2 ?c3 ?c4 ?c5; (case kA => exact rfl); (case kF => exact rfl); (case kK => first | exact rfl | assumption); (case k1 => k_asm); (case k2 => k_asm); (case k3 => k_asm); (case k4 => k_asm); (case k5 => k_asm); (case k6 => k_is); (case k7 => k_is); (case k8 => ktr_room); (case k9 => first | exact BindsTo.of_eq rfl | exact binds_K (by k_in) rfl (by k_is) rfl rfl rfl); (case c5 => decide); (case kB => exact locs rfl); (case c2 => exact rfl); (case c3 => exact rfl); (case c4 => exact rfl); k_whole; intro g' L' h' FG' F' N' B' X' T' hgk; (try dsimp only)))
local macro_rules | `(tactic| walk_at "call type:type") => `(tactic| (k_here; (with_reducible show wpAny _ _ (call (Value.type "type") [Value.bytes _ _]) _ _ _); refine call_type_of (Tx := "bytes") rfl (by decide +kernel) ?_))
local macro_rules | `(tactic| walk_at "call type:type") => `(tactic| (k_here; (with_reducible show wpAny _ _ (call (Value.type "type") [Value.ref _]) _ _ _); refine call_type_of (Tx := "bytearray") (typeIs_ba (by (refine' News.get ?n ?q; (case n => k_asm); (case q => k_mem)))) (by decide +kernel) ?_))

section
open PySem.Calls
variable {w : World} {p : Program} {loose : List Str} {mean : ExcName → Option Value} {mg mb : Str → Option Value} {dp un : Nat} {gd : Option (List Code)} {cn : Str} {cs : Scope} {a : Addr} {ccd : Value} {cl : List (Str × Addr)} {outer : List Env} {A₀ : Around} {base h₀ : Heap} {L : Addr} {m : Str → Option Value} {s : Shared} {Q E : Value → Shared → Prop}
variable {R : Result → Shared → Prop}
theorem init0_tells {x dx : Addr} (B : Below A₀ base outer h₀) (F : Fr h₀ L s.heap m) (X : (Mine.hd.heap_1 w.params).In h₀) (T : Top p loose mean mg mb h₀) (hk : cs.kind = .function)
   (N : News h₀ L s.heap [(dx, dictOf [] 0), (x, instObj 322 dx)]) (hne : @LT.lt Nat _ dx x)
   (hd : dp + 4 < recursionLimit) (hu : un + 40 < cLine)
   (ret : ∀ ba t0 t1 t2 h' tk', Fr h₀ L h' m → Kept [dx] s.heap h' → News h₀ L h' [(x, instObj 322 dx), (dx, bioD w t0 ba t1 0 t2), (ba, baObj #[])] → x < ba → R (.ok (.ret (.ref x))) { s with heap := h', toks := tk' }) :
   codeX (model PG w) ((ktrTop dp un gd cn cs L a ccd cl outer).under (.builtin "type.__call__" ⟨.ref 322 :: [], []⟩)) (.call (.ref 109) ⟨.ref x :: [], []⟩) (InitBack x R) s := by
  have n3 : @Ne Nat x dx := Nat.ne_of_gt hne
  k_dflt ktr_enter
  refine wpX_execs_cut 1 ?_
  dsimp only [List.take_succ_cons, List.take_zero]
  k_fold
  k_steps
  refine wpX_execs_cons (wpX_Assign_Attribute (wpX_IfExp ?_))
  k_fold
  k_steps
  refine wpX_Call ?_
  k_steps
  refine wpX_callType0 (ba_new0 (baNew_led (by k_asm) (by k_asm) fun ba h9 F9 N9 l9 => ?_))
  have l8 : x < ba := l9 (x, instObj 322 dx) (by k_mem)
  have n1 : @Ne Nat ba x := Nat.ne_of_gt l8
  have n2 : @Ne Nat ba dx := Nat.ne_of_gt (Nat.lt_trans hne l8)
  k_steps
  refine wpX_of ?_
  k_steps
  all_goals exact ret _ _ _ _ _ _ (by k_asm) (kept_but (chg := [(dx, dictOf [] 0)]) (same := [(x, instObj 322 dx)]) (News.sub1 N (by k_mem) ) (News.sub1 (by assumption) (by k_mem) ) (by assumption)) (News.sub3 (by assumption) (by k_mem) (by k_mem) (by k_mem)) l8
theorem initB_tells {x dx : Addr} {t : Tok} {b : Array UInt8} (B : Below A₀ base outer h₀) (F : Fr h₀ L s.heap m) (X : (Mine.hd.heap_1 w.params).In h₀) (T : Top p loose mean mg mb h₀) (hk : cs.kind = .function)
   (N : News h₀ L s.heap [(dx, dictOf [] 0), (x, instObj 322 dx)]) (hne : @LT.lt Nat _ dx x)
   (hd : dp + 4 < recursionLimit) (hu : un + 40 < cLine) (hz : b.size < 1000)
   (ret : ∀ ba t0 t1 t2 h' tk', Fr h₀ L h' m → Kept [dx] s.heap h' → News h₀ L h' [(x, instObj 322 dx), (dx, bioD w t0 ba t1 0 t2), (ba, baObj b)] → x < ba → R (.ok (.ret (.ref x))) { s with heap := h', toks := tk' }) :
   codeX (model PG w) ((ktrTop dp un gd cn cs L a ccd cl outer).under (.builtin "type.__call__" ⟨.ref 322 :: [.bytes b t], []⟩)) (.call (.ref 109) ⟨.ref x :: [.bytes b t], []⟩) (InitBack x R) s := by
  have n3 : @Ne Nat x dx := Nat.ne_of_gt hne
  k_dflt ktr_enter
  refine wpX_execs_cut 1 ?_
  dsimp only [List.take_succ_cons, List.take_zero]
  k_fold
  k_steps
  refine wpX_execs_cons (wpX_Assign_Attribute (wpX_IfExp ?_))
  k_fold
  k_steps
  refine wpX_Call ?_
  k_steps
  refine wpX_callType1 ?_
  k_steps
  refine ba_new_bytes (by rw [sizeLine_eq]; omega) (baNew_led (by k_asm) (by k_asm) fun ba h9 F9 N9 l9 => ?_)
  have l8 : x < ba := l9 (x, instObj 322 dx) (by k_mem)
  have n1 : @Ne Nat ba x := Nat.ne_of_gt l8
  have n2 : @Ne Nat ba dx := Nat.ne_of_gt (Nat.lt_trans hne l8)
  k_steps
  refine wpX_of ?_
  k_steps
  all_goals exact ret _ _ _ _ _ _ (by k_asm) (kept_but (chg := [(dx, dictOf [] 0)]) (same := [(x, instObj 322 dx)]) (News.sub1 N (by k_mem) ) (News.sub1 (by assumption) (by k_mem) ) (by assumption)) (News.sub3 (by assumption) (by k_mem) (by k_mem) (by k_mem)) l8
theorem initA_tells {x dx d : Addr} {b : Array UInt8} (B : Below A₀ base outer h₀) (F : Fr h₀ L s.heap m) (X : (Mine.hd.heap_1 w.params).In h₀) (T : Top p loose mean mg mb h₀) (hk : cs.kind = .function)
   (N : News h₀ L s.heap [(dx, dictOf [] 0), (x, instObj 322 dx), (d, baObj b)]) (hne : @LT.lt Nat _ dx x) (hnd : @LT.lt Nat _ d dx)
   (hd : dp + 4 < recursionLimit) (hu : un + 40 < cLine) (hz : b.size < 1000)
   (ret : ∀ ba t0 t1 t2 h' tk', Fr h₀ L h' m → Kept [dx] s.heap h' → News h₀ L h' [(x, instObj 322 dx), (dx, bioD w t0 ba t1 0 t2), (ba, baObj b)] → x < ba → R (.ok (.ret (.ref x))) { s with heap := h', toks := tk' }) :
   codeX (model PG w) ((ktrTop dp un gd cn cs L a ccd cl outer).under (.builtin "type.__call__" ⟨.ref 322 :: [.ref d], []⟩)) (.call (.ref 109) ⟨.ref x :: [.ref d], []⟩) (InitBack x R) s := by
  have n3 : @Ne Nat x dx := Nat.ne_of_gt hne
  have n4 : @Ne Nat d dx := Nat.ne_of_lt hnd
  have n5 : @Ne Nat d x := Nat.ne_of_lt (Nat.lt_trans hnd hne)
  k_dflt ktr_enter
  refine wpX_execs_cut 1 ?_
  dsimp only [List.take_succ_cons, List.take_zero]
  k_fold
  k_steps
  refine wpX_execs_cons (wpX_Assign_Attribute (wpX_IfExp ?_))
  k_fold
  k_steps
  refine wpX_Call ?_
  k_steps
  refine wpX_callType1 ?_
  k_steps
  refine ba_new_ba (by first | exact News.get (by assumption) (by k_mem)) (by rw [sizeLine_eq]; omega) (baNew_led (by k_asm) (by k_asm) fun ba h9 F9 N9 l9 => ?_)
  have l8 : x < ba := l9 (x, instObj 322 dx) (by k_mem)
  have n1 : @Ne Nat ba x := Nat.ne_of_gt l8
  have n2 : @Ne Nat ba dx := Nat.ne_of_gt (Nat.lt_trans hne l8)
  k_steps
  refine wpX_of ?_
  k_steps
  all_goals exact ret _ _ _ _ _ _ (by k_asm) (kept_but (chg := [(dx, dictOf [] 0)]) (same := [(x, instObj 322 dx), (d, baObj b)]) (News.sub2 N (by k_mem) (by k_mem) ) (News.sub2 (by assumption) (by k_mem) (by k_mem) ) (by assumption)) (News.sub3 (by assumption) (by k_mem) (by k_mem) (by k_mem)) l8
end

section
open PySem.Calls
variable {w : World} {p : Program} {loose : List Str} {mean : ExcName → Option Value} {mg mb : Str → Option Value} {dp un : Nat} {gd : Option (List Code)} {cn : Str} {cs : Scope} {a : Addr} {ccd : Value} {cl : List (Str × Addr)} {outer : List Env} {A₀ : Around} {base h₀ : Heap} {L : Addr} {m : Str → Option Value} {s : Shared} {Q E : Value → Shared → Prop}
theorem bio0_tells {news : List (Addr × Obj)} (B : Below A₀ base outer h₀) (F : Fr h₀ L s.heap m) (X : (Mine.hd.heap_1 w.params).In h₀) (T : Top p loose mean mg mb h₀) (hk : cs.kind = .function)
   (N : News h₀ L s.heap news)
   (hd : dp + 5 < recursionLimit) (hu : un + 60 < cLine)
   (ret : ∀ x dx ba t0 t1 t2 h' tk', Fr h₀ L h' m → News h₀ L h' ((x, instObj 322 dx) :: (dx, bioD w t0 ba t1 0 t2) :: (ba, baObj #[]) :: news) → (∀ p ∈ news, p.1 < dx) → dx < x → x < ba → Q (.ref x) { s with heap := h', toks := tk' }) :
   wpX (model PG w) (ktrTop dp un gd cn cs L a ccd cl outer) (call (.ref 322) []) Q E s := by
  refine wpX_call (make_coreX (X.keeps F.keep) (wpX_of (new_tells (s := { s with toks := s.toks + 1 }) (.inl rfl) B F X T hk N (by omega) (by omega) fun x dx h₁ tk₁ F₁ N₁ l₁ l₂ => ?_)))
  refine ⟨x, dx, rfl, (N₁ _ (.head _)).1, X.keeps F₁.keep, ?_⟩
  refine init0_tells (s := { s with heap := h₁, toks := tk₁ }) B F₁ X T hk (News.sub2 N₁ (.tail _ (.head _)) (.head _)) l₂ (by omega) (by omega) fun ba t0 t1 t2 h' tk' F' k N' l₃ => ?_
  refine ret x dx ba t0 t1 t2 h' tk' F' (news_step N₁ k N' fun q hq => ?_) l₁ l₂ l₃
  rcases List.mem_cons.mp hq with rfl | hq
  · exact .inl (.head _)
  rcases List.mem_cons.mp hq with rfl | hq
  · exact .inl (.tail _ (.head _))
  rcases List.mem_cons.mp hq with rfl | hq
  · exact .inl (.tail _ (.tail _ (.head _)))
  · exact .inr ⟨.tail _ (.tail _ hq), fun e => Nat.lt_irrefl _ (by have := l₁ q hq; rw [List.mem_singleton.mp e] at this; exact this)⟩
theorem bioB_tells {news : List (Addr × Obj)} {t : Tok} {b : Array UInt8} (B : Below A₀ base outer h₀) (F : Fr h₀ L s.heap m) (X : (Mine.hd.heap_1 w.params).In h₀) (T : Top p loose mean mg mb h₀) (hk : cs.kind = .function)
   (N : News h₀ L s.heap news) (hz : b.size < 1000)
   (hd : dp + 5 < recursionLimit) (hu : un + 60 < cLine)
   (ret : ∀ x dx ba t0 t1 t2 h' tk', Fr h₀ L h' m → News h₀ L h' ((x, instObj 322 dx) :: (dx, bioD w t0 ba t1 0 t2) :: (ba, baObj b) :: news) → (∀ p ∈ news, p.1 < dx) → dx < x → x < ba → Q (.ref x) { s with heap := h', toks := tk' }) :
   wpX (model PG w) (ktrTop dp un gd cn cs L a ccd cl outer) (call (.ref 322) [.bytes b t]) Q E s := by
  refine wpX_call (make_coreX (X.keeps F.keep) (wpX_of (new_tells (s := { s with toks := s.toks + 1 }) (.inr ⟨_, rfl⟩) B F X T hk N (by omega) (by omega) fun x dx h₁ tk₁ F₁ N₁ l₁ l₂ => ?_)))
  refine ⟨x, dx, rfl, (N₁ _ (.head _)).1, X.keeps F₁.keep, ?_⟩
  refine initB_tells (s := { s with heap := h₁, toks := tk₁ }) B F₁ X T hk (News.sub2 N₁ (.tail _ (.head _)) (.head _)) l₂ (by omega) (by omega) hz fun ba t0 t1 t2 h' tk' F' k N' l₃ => ?_
  refine ret x dx ba t0 t1 t2 h' tk' F' (news_step N₁ k N' fun q hq => ?_) l₁ l₂ l₃
  rcases List.mem_cons.mp hq with rfl | hq
  · exact .inl (.head _)
  rcases List.mem_cons.mp hq with rfl | hq
  · exact .inl (.tail _ (.head _))
  rcases List.mem_cons.mp hq with rfl | hq
  · exact .inl (.tail _ (.tail _ (.head _)))
  · exact .inr ⟨.tail _ (.tail _ hq), fun e => Nat.lt_irrefl _ (by have := l₁ q hq; rw [List.mem_singleton.mp e] at this; exact this)⟩
theorem bioA_tells {news : List (Addr × Obj)} {d : Addr} {b : Array UInt8} (hm : (d, baObj b) ∈ news) (B : Below A₀ base outer h₀) (F : Fr h₀ L s.heap m) (X : (Mine.hd.heap_1 w.params).In h₀) (T : Top p loose mean mg mb h₀) (hk : cs.kind = .function)
   (N : News h₀ L s.heap news) (hz : b.size < 1000)
   (hd : dp + 5 < recursionLimit) (hu : un + 60 < cLine)
   (ret : ∀ x dx ba t0 t1 t2 h' tk', Fr h₀ L h' m → News h₀ L h' ((x, instObj 322 dx) :: (dx, bioD w t0 ba t1 0 t2) :: (ba, baObj b) :: news) → (∀ p ∈ news, p.1 < dx) → dx < x → x < ba → Q (.ref x) { s with heap := h', toks := tk' }) :
   wpX (model PG w) (ktrTop dp un gd cn cs L a ccd cl outer) (call (.ref 322) [.ref d]) Q E s := by
  refine wpX_call (make_coreX (X.keeps F.keep) (wpX_of (new_tells (s := { s with toks := s.toks + 1 }) (.inr ⟨_, rfl⟩) B F X T hk N (by omega) (by omega) fun x dx h₁ tk₁ F₁ N₁ l₁ l₂ => ?_)))
  refine ⟨x, dx, rfl, (N₁ _ (.head _)).1, X.keeps F₁.keep, ?_⟩
  refine initA_tells (s := { s with heap := h₁, toks := tk₁ }) B F₁ X T hk (News.sub3 N₁ (.tail _ (.head _)) (.head _) (.tail _ (.tail _ hm))) l₂ (l₁ _ hm) (by omega) (by omega) hz fun ba t0 t1 t2 h' tk' F' k N' l₃ => ?_
  refine ret x dx ba t0 t1 t2 h' tk' F' (news_step N₁ k N' fun q hq => ?_) l₁ l₂ l₃
  rcases List.mem_cons.mp hq with rfl | hq
  · exact .inl (.head _)
  rcases List.mem_cons.mp hq with rfl | hq
  · exact .inl (.tail _ (.head _))
  rcases List.mem_cons.mp hq with rfl | hq
  · exact .inl (.tail _ (.tail _ (.head _)))
  · exact .inr ⟨.tail _ (.tail _ hq), fun e => Nat.lt_irrefl _ (by have := l₁ q hq; rw [List.mem_singleton.mp e] at this; exact this)⟩
end

section
open PySem.Calls
section
variable {M : Model} {A : Around} {E : Value → Shared → Prop} {s : Shared} {env : Env}
theorem codeX_loop' {c : Code} {R : Result → Shared → Prop} (hq : c.quiet = true) (hb : badCode c = false) (I : Nat → Shared → Prop)
    (turn : ∀ n s, I n s → wpX M (A.under c) (M.den c)
      (fun fin s' => match fin with | .done f => R (.ok f) s' | .again c' => (c' = c ∧ ∃ m, m < n ∧ I m s') ∨ (c'.quiet = true ∧ codeX M A c' R s')) (fun e s' => R (.error e) s') s)
    (n : Nat) (h : I n s) : codeX M A c R s := by
  induction n using Nat.strongRecOn generalizing s with
  | ind n ih =>
    refine codeX_of_tree hb (wpX_mono (turn n s h) (fun fin s' hf => ?_) fun _ _ h' => h')
    cases fin with
    | done f => exact hf
    | again c' =>
      rcases hf with ⟨rfl, m, hm, hI⟩ | hf
      · exact ⟨hq, ih m hm hI⟩
      · exact hf
theorem wpX_runOwn {c : Code} {h : Option Value} {Q : Flow → Shared → Prop}
    (hc : codeX M (A.mark h) c (fun r s' => match r with | .ok f => Q f s' | .error e => cameBackBy M A env E e s') s) (hnb : h ≠ some byPass := by intro x; cases x) :
    wpX M A (runOwn c env h) Q E s := by
  unfold runOwn
  exact wpX_onRaise (wpX_mono (wpX_run hc hnb) (fun _ _ q => q) fun _ _ e => wpX_of e)
theorem wpX_For {target iter body orelse pos} {Q : Flow → Shared → Prop}
    (h : wpAny M A (eval iter env) (fun x s₁ => wpAny M A (pyIter x) (fun it s₂ =>
      codeX M A (.forLoop target it body orelse env) (fun r s' => match r with | .ok f => Q f s' | .error e => cameBackBy M A env E e s') s₂) E s₁) E s)
    (hs : ∀ x, foldedSetIterable iter env x = pure x := by intro _; rfl) :
    wpX M A (exec (.For target iter body orelse pos) env) Q E s := by
  rw [exec_For]
  exact wpX_bindA (wpAny_standAt (wpX_bindA (wpAny_mono h (fun x s₁ h₁ => wpX_bindA (wpAny_of_eq (hs x) (wpX_bindA (wpAny_standAt (wpX_bindA (wpAny_holding
    (wpAny_mono h₁ (fun it s₂ h₂ => wpX_runOwn h₂) fun _ _ h' => h'))))))) fun _ _ h' => h')))
end
section
variable {prog : Program} {w : World} {A : Around} {s : Shared}
theorem codeX_forLoop {R : Result → Shared → Prop} {target it body env} (I : Nat → Shared → Prop)
    (turn : ∀ n s, I n s → wpAny (model prog w) A (pyNext it) (fun r s₁ => match r with
      | none => R (.ok .next) s₁
      | some v => wpAny (model prog w) A (letOwnedTupleGo target it v) (fun _ s₁' => wpAny (model prog w) A (assign target env v) (fun _ s₂ => wpX (model prog w) A (execs body env) (fun f s₃ => match f with
          | .next | .cont => ∃ m, m < n ∧ I m s₃
          | .brk => R (.ok .next) s₃
          | .ret v => R (.ok (.ret v)) s₃) (notedBy (model prog w) A env fun e s' => R (.error e) s') s₂) (notedBy (model prog w) A env fun e s' => R (.error e) s') s₁') (notedBy (model prog w) A env fun e s' => R (.error e) s') s₁) (notedBy (model prog w) A env fun e s' => R (.error e) s') s)
    (n : Nat) (h : I n s) : codeX (model prog w) A (.forLoop target it body [] env) R s := by
  refine codeX_loop' rfl rfl I (fun n s hI => ?_) n h
  show wpX _ A ((forTurn target it body [] env).onRaise (fun x => do noteFrame x env; theTreesLotGoes x)) _ _ s
  refine wpX_onRaise (wpX_mono (E := notedBy (model prog w) A env fun e s' => R (.error e) s') ?_ (fun _ _ q => q) fun _ _ hx => wpX_bindA (wpAny_mono hx (fun _ _ e => wpX_of (wpAny_theTreesLotGoes e)) fun _ _ e => e))
  simp only [forTurn]
  refine wpX_bindA (wpAny_standAt (wpX_bindA (wpAny_onRaise (wpAny_mono (turn n s hI) (fun r s₁ h₁ => ?_) fun _ _ h' => wpAny_standAt h'))))
  cases r with
  | none => exact wpX_pure (.inr ⟨rfl, codeX_of (codeAny_block (wpAny_execs_nil h₁))⟩)
  | some v =>
    refine wpX_bindA (wpAny_mono h₁ (fun _ s₁' h₁' => ?_) fun _ _ h' => h')
    refine wpX_bindA (wpAny_mono h₁' (fun _ s₂ h₂ => wpX_bind (wpX_mono h₂ (fun f s₃ h₃ => ?_) fun _ _ h' => h')) fun _ _ h' => h')
    cases f with
    | next => exact wpX_pure (.inl ⟨rfl, h₃⟩)
    | cont => exact wpX_pure (.inl ⟨rfl, h₃⟩)
    | brk => exact wpX_pure h₃
    | ret v => exact wpX_pure h₃
end
end

section
open PySem.Calls
/-- where the walk halts: what follows is done by hand -/
def Stop (p : Prop) : Prop := p
theorem Stop.mk {p : Prop} (h : Stop p) : p := h
theorem Stop.out {p : Prop} (h : p) : Stop p := h
/-- an iterator whose whole state is one object; bs: the objects it reads -/
structure IterS (w : World) (bs : List (Addr × Obj)) (St : Nat → Obj → Prop) (n : Nat) (P : Nat → Value → Prop) (Dn : Addr → Heap → Prop) : Prop where
  item : ∀ (A : Around) (_ : A.handled = none) (i : Nat) (I : Addr) (o : Obj) (s : Shared) (Q : Option Value → Shared → Prop) (E : Value → Shared → Prop), i < n → (∀ q ∈ bs, s.heap.get? q.1 = some q.2) → (∀ q ∈ bs, q.1 ≠ I) → s.heap.get? I = some o → St i o →
    (∀ v o' h' tk, P i v → St (i + 1) o' → h'.get? I = some o' → Kept [I] s.heap h' → Q (some v) { s with heap := h', toks := tk }) → wpAny (model PG w) A (pyNext (.ref I)) Q E s
  done : ∀ (A : Around) (_ : A.handled = none) (I : Addr) (o : Obj) (s : Shared) (Q : Option Value → Shared → Prop) (E : Value → Shared → Prop), (∀ q ∈ bs, s.heap.get? q.1 = some q.2) → (∀ q ∈ bs, q.1 ≠ I) → s.heap.get? I = some o → St n o →
    (∀ h' tk, Dn I h' → Kept [I] s.heap h' → Q none { s with heap := h', toks := tk }) → wpAny (model PG w) A (pyNext (.ref I)) Q E s
def Opens (w : World) (bs itn : List (Addr × Obj)) (fv : Value) (St : Nat → Obj → Prop) : Prop :=
  (itn = [] ∧ ∀ (A : Around) (Q : Value → Shared → Prop) (E : Value → Shared → Prop) (s : Shared), (∀ q ∈ bs, s.heap.get? q.1 = some q.2) →
      (∀ o tk, St 0 o → o.isFreed = false → Q (.ref s.heap.objs.size) { s with heap := s.heap.push o, toks := tk }) → wpAny (model PG w) A (pyIter fv) Q E s)
  ∨ (∃ I o, itn = [(I, o)] ∧ fv = .ref I ∧ St 0 o ∧ ∀ (A : Around) (Q : Value → Shared → Prop) (E : Value → Shared → Prop) (s : Shared), s.heap.get? I = some o → Q (.ref I) s → wpAny (model PG w) A (pyIter fv) Q E s)
section
variable {w : World} {A : Around} {s : Shared} {E : Value → Shared → Prop} {Q : Value → Shared → Prop} {g : Heap} {L : Addr} {m : Str → Option Value} {bs itn core : List (Addr × Obj)} {fv : Value} {St : Nat → Obj → Prop}
theorem opens_use (hO : Opens w bs itn fv St) (F : Fr g L s.heap m) (N : News g L s.heap (itn ++ core)) (hb : ∀ q ∈ bs, s.heap.get? q.1 = some q.2) (h1 : ∀ q ∈ core, ∀ r ∈ itn, q.1 ≠ r.1) (h2 : ∀ q ∈ bs, ∀ r ∈ itn, q.1 ≠ r.1)
    (k : ∀ I o h' tk, Fr g L h' m → News g L h' ((I, o) :: core) → (∀ q ∈ core, q.1 ≠ I) → (∀ q ∈ bs, h'.get? q.1 = some q.2) → (∀ q ∈ bs, q.1 ≠ I) → St 0 o → (∀ I' o', itn = [(I', o')] → I' = I) → Q (.ref I) { s with heap := h', toks := tk }) :
    wpAny (model PG w) A (pyIter fv) Q E s := by
  rcases hO with ⟨rfl, hO⟩ | ⟨I, o, rfl, rfl, st, hO⟩
  · refine hO A Q E s hb fun o tk st hf => k _ o _ tk (F.push o) (N.push F o hf) (fun q hq => Nat.ne_of_lt (Heap.lt_size (N q hq).1)) (fun q hq => Heap.get?_push_of_some _ (hb q hq)) (fun q hq => Nat.ne_of_lt (Heap.lt_size (hb q hq))) st (fun _ _ e => nomatch e)
  · have e : s = { s with heap := s.heap, toks := s.toks } := rfl
    refine hO A Q E s (N _ (.head _)).1 ?_
    rw [e]
    refine k I o s.heap s.toks F N (fun q hq => h1 q hq _ (.head _)) hb (fun q hq => h2 q hq _ (.head _)) st fun I' o' e => ?_
    cases e
    rfl
end
theorem mem6 {α : Type} {a b c d e f q : α} {l1 l2 : List α} (h : q ∈ l1 ++ (a :: b :: c :: d :: e :: f :: l2)) : q ∈ a :: b :: c :: d :: e :: f :: (l1 ++ l2) := by
  simp only [List.mem_append, List.mem_cons] at h ⊢
  rcases h with h | h | h | h | h | h | h | h <;> simp only [h, true_or, or_true]
theorem all6 {α : Type} {a b c d e f : α} {l : List α} {p : α → Prop} (ha : p a) (hb : p b) (hc : p c) (hd : p d) (he : p e) (hf : p f) (hl : ∀ q ∈ l, p q) : ∀ q ∈ a :: b :: c :: d :: e :: f :: l, p q := by
  intro q hq
  simp only [List.mem_cons] at hq
  rcases hq with h | h | h | h | h | h | h
  · exact h ▸ ha
  · exact h ▸ hb
  · exact h ▸ hc
  · exact h ▸ hd
  · exact h ▸ he
  · exact h ▸ hf
  · exact hl q h
/-- int(v) is n -/
def IntsTo (w : World) (v : Value) (n : Int) : Prop := ∀ (A : Around) (Q : Value → Shared → Prop) (E : Value → Shared → Prop) (s : Shared), (∀ t tk, Q (.int n t) { s with toks := tk }) → wpAny (model PG w) A (call (.type "int") [v]) Q E s
/-- what the walk keeps -/
def swStep (b : Array UInt8) (z : Nat × Array UInt8) (c : Int) : Nat × Array UInt8 := (rdNew b.size z.1 c, z.2 ++ (rdGot b z.1 c).reverse)
def swOk (b : Array UInt8) (z : Nat × Array UInt8) : Prop := z.2.size + (b.size - z.1) ≤ b.size
theorem rdGot_len (b : Array UInt8) (p : Nat) (c : Int) : (rdGot b p c).size = rdStop b.size p c - p := by
  have := rdStop_le b.size p c
  unfold rdGot
  simp only [List.size_toArray, List.length_take, List.length_drop, Array.length_toList]
  omega
theorem swOk_step {b : Array UInt8} {z : Nat × Array UInt8} (c : Int) (h : swOk b z) : swOk b (swStep b z c) := by
  unfold swOk swStep at *
  have e := rdGot_len b z.1 c
  have l := rdStop_le b.size z.1 c
  simp only [Array.size_append, Array.size_reverse, e]
  have l2 : ¬ b.size ≤ z.1 → z.1 ≤ rdStop b.size z.1 c := fun q => by unfold rdStop; split <;> omega
  unfold rdNew
  split
  · omega
  · have := l2 (by assumption)
    omega
end

section
open PySem.Calls
abbrev canon (m : Str → Option Value) (av bv : Option Value) : Str → Option Value := fun z => if z = "swapped" then av else if z = "f" then bv else m z
section
variable {w : World} {A : Around} {s : Shared} {g : Heap} {L : Addr} {m : Str → Option Value} {bs : List (Addr × Obj)} {St : Nat → Obj → Prop} {P : Nat → Value → Prop} {Dn : Addr → Heap → Prop}
theorem swap_loop {R : Result → Shared → Prop} {px : Pos} {body : List Stmt} {env : Env} {I : Addr} {o : Obj} {n : Nat} {ns : List Int} {b : Array UInt8} {z0 : Nat × Array UInt8} {ta tb : Tok} (G : Nat → Prop) (core : Nat × Array UInt8 → Tok → Tok → List (Addr × Obj))
    (hI : IterS w bs St n P Dn) (hns : n ≤ ns.length) (hA : A.handled = none) (hL : env.locals = L) (hkf : env.kindOf "f" = some .local) (hp : (env.scope.kind == .class || (env.scope.kind == .module && env.locals != env.globals)) = false)
    (F : Fr g L s.heap m) (hm1 : m "swapped" = none) (hm2 : m "f" = none) (N : News g L s.heap ((I, o) :: core z0 ta tb)) (st : St 0 o) (hbg : ∀ q ∈ bs, g.get? q.1 = some q.2) (hbI : ∀ q ∈ bs, q.1 ≠ I)
    (hcI : ∀ z ta tb, ∀ q ∈ core z ta tb, q.1 ≠ I) (hz0 : swOk b z0)
    (hbody : ∀ (i : Nat) (v : Value) (av bv : Option Value) (h : Heap) (tk : Nat) (o' : Obj) (z : Nat × Array UInt8) (ta tb : Tok), i < n → P i v → swOk b z →
      Fr g L h (fun q => if q = "f" then some v else canon m av bv q) → News g L h ((I, o') :: core z ta tb) →
      wpX (model PG w) A (execs body env) (fun f s₃ => match f with
        | .next => G i ∧ ∃ v1 v2 h' tk' ta' tb', s₃ = { s with heap := h', toks := tk' } ∧ Fr g L h' (fun q => if q = "swapped" then some v1 else if q = "f" then some v2 else canon m av bv q) ∧ News g L h' ((I, o') :: core (swStep b z (ns.getD i 0)) ta' tb')
        | _ => False) (notedBy (model PG w) A env fun e s' => R (.error e) s') { s with heap := h, toks := tk })
    (hR : ∀ av bv h tk ta tb, (∀ j, j < n → G j) → Fr g L h (canon m av bv) → News g L h (core ((ns.take n).foldl (swStep b) z0) ta tb) → swOk b ((ns.take n).foldl (swStep b) z0) → Dn I h → R (.ok .next) { s with heap := h, toks := tk }) :
    codeX (model PG w) A (.forLoop (.Name "f" px) (.ref I) body [] env) R s := by
  subst hL
  refine codeX_forLoop (fun k s' => ∃ i av bv h tk o' ta tb, k = n - i ∧ i ≤ n ∧ (∀ j, j < i → G j) ∧ s' = { s with heap := h, toks := tk } ∧ Fr g env.locals h (canon m av bv) ∧ St i o' ∧ swOk b ((ns.take i).foldl (swStep b) z0) ∧ News g env.locals h ((I, o') :: core ((ns.take i).foldl (swStep b) z0) ta tb)) ?_ n
    ⟨0, none, none, s.heap, s.toks, o, ta, tb, rfl, Nat.zero_le _, fun j q => absurd q (Nat.not_lt_zero j), rfl, ?_, st, hz0, N⟩
  · rintro k s' ⟨i, av, bv, h, tk, o', ta, tb, rfl, hi, gi, rfl, F1, st1, ok1, N1⟩
    have NI := N1 _ (.head _)
    have hb1 : ∀ q ∈ bs, h.get? q.1 = some q.2 := fun q hq => F1.keep _ _ (hbg q hq)
    have hIL : env.locals ∉ [I] := by intro q; exact NI.2.1 (List.mem_singleton.mp q).symm
    have hI0 : ∀ c ∈ [I], g.get? c = none := by intro c q; rw [List.mem_singleton.mp q]; exact NI.2.2
    by_cases hlt : i < n
    · refine hI.item A hA i I o' _ _ _ hlt hb1 hbI NI.1 st1 fun v o2 h2 tk2 hv st2 e2 k2 => ?_
      have F2 := Fr.kept F1 k2 hIL hI0
      have N2 : News g env.locals h2 ((I, o2) :: core ((ns.take i).foldl (swStep b) z0) ta tb) := by
        intro q hq
        rcases List.mem_cons.mp hq with rfl | hq
        · exact ⟨e2, NI.2⟩
        · exact ⟨k2 _ _ (fun e => hcI _ _ _ q hq (List.mem_singleton.mp e)) (N1 q (.tail _ hq)).1, (N1 q (.tail _ hq)).2⟩
      refine wpAny_of_eq (a := ()) rfl ?_
      refine wpAny_assign_Name (wpAny_storeName_local hkf F2.ns (fun h3 hn3 hs3 => ?_) hp)
      have F3 := F2.set hn3 hs3
      have N3 := N2.set hs3
      refine wpX_mono (hbody i v av bv h3 _ o2 _ ta tb hlt hv ok1 F3 N3) (fun f s₃ z => ?_) fun _ _ z => z
      cases f with
      | next =>
        obtain ⟨gz, v1, v2, h', tk', ta', tb', rfl, F4, N4⟩ := z
        have e : (ns.take (i + 1)).foldl (swStep b) z0 = swStep b ((ns.take i).foldl (swStep b) z0) (ns.getD i 0) := by
          have hil : i < ns.length := by omega
          rw [List.take_succ_eq_append_getElem hil, List.foldl_append]
          simp only [List.foldl_cons, List.foldl_nil]
          rw [List.getD_eq_getElem?_getD, List.getElem?_eq_getElem hil]
          rfl
        refine ⟨n - (i + 1), by omega, i + 1, some v1, some v2, h', tk', o2, ta', tb', rfl, hlt, fun j hj => (Nat.lt_or_eq_of_le (Nat.lt_succ_iff.mp hj)).elim (gi j) fun e => e ▸ gz, rfl, ?_, st2, ?_, ?_⟩
        · have ec : (fun (q : Str) => if q = "swapped" then some v1 else if q = "f" then some v2 else canon m av bv q) = canon m (some v1) (some v2) := by
            funext q
            unfold canon
            by_cases q1 : q = "swapped" <;> by_cases q2 : q = "f" <;> simp [q1, q2]
          exact ec ▸ F4
        · rw [e]; exact swOk_step _ ok1
        · rw [e]; exact N4
      | cont => exact z.elim
      | brk => exact z.elim
      | ret _ => exact z.elim
    · have hin : i = n := by omega
      subst hin
      refine hI.done A hA I o' _ _ _ hb1 hbI NI.1 st1 fun h2 tk2 dn2 k2 => ?_
      exact hR av bv h2 tk2 ta tb gi (Fr.kept F1 k2 hIL hI0) (fun q hq => ⟨k2 _ _ (fun e => hcI _ _ _ q hq (List.mem_singleton.mp e)) (N1 q (.tail _ hq)).1, (N1 q (.tail _ hq)).2⟩) ok1 dn2
  · have ec : canon m none none = m := by
      funext q
      unfold canon
      by_cases q1 : q = "swapped"
      · rw [if_pos q1, q1, hm1]
      · rw [if_neg q1]
        by_cases q2 : q = "f"
        · rw [if_pos q2, q2, hm2]
        · rw [if_neg q2]
    rw [ec]; exact F
end
end

section
open PySem.Calls PySem.Spec PyProof.V
theorem range_rev (n : Nat) : sliceRange ((n : Int) - 1) (-1) (-1) = (List.range n).reverse := by
  unfold sliceRange
  have hc : (if (-1 : Int) > 0 then (if (n : Int) - 1 < -1 then (-1 - ((n : Int) - 1) + -1 - 1) / -1 else 0) else (if (n : Int) - 1 > -1 then ((n : Int) - 1 - -1 - -1 - 1) / (- -1) else 0)) = (n : Int) := by
    rw [if_neg (by decide)]
    split
    · rw [show (- -1 : Int) = 1 by decide, Int.ediv_one]; omega
    · omega
  simp only [hc, Int.toNat_natCast]
  apply List.ext_getElem
  · simp
  · intro i h1 h2
    simp only [List.length_map, List.length_range] at h1
    simp only [List.getElem_map, List.getElem_range, List.getElem_reverse, List.length_range]
    omega
theorem sliced_rev (b : Array UInt8) : Builtin.Bytes.sliced b ((b.size : Int) - 1) (-1) (-1) = b.reverse := by
  unfold Builtin.Bytes.sliced
  rw [range_rev]
  have key : (List.range b.size).filterMap (fun i => b[i]?) = b.toList := by
    apply List.ext_getElem?
    intro i
    have : (List.range b.size).filterMap (fun i => b[i]?) = (List.range b.size).attach.map (fun i => b[i.1]'(List.mem_range.mp i.2)) := by
      rw [← List.filterMap_eq_map]
      conv => lhs; rw [← List.attach_map_subtype_val (l := List.range b.size), List.filterMap_map]
      congr 1
      funext x
      simp [List.mem_range.mp x.2]
    rw [this]
    by_cases hi : i < b.size
    · simp [hi]
    · simp [hi]
  apply Array.toList_inj.mp
  rw [Array.toList_reverse, List.filterMap_reverse, key]
theorem rev_meets (b : Array UInt8) (t : Tok) (a : Addr) {u : Tok} :
    Meets (Builtin.«bytes.__getitem__» ⟨[.bytes b t, .ref a], []⟩) (fun _ R s => s.heap.IsSliceOf a .none .none (.int (-1) u) ∧ b.size ≤ sizeLine ∧ ∀ t' k, R (.ok (.ret (.bytes b.reverse t'))) { s with toks := k }) := by
  refine .of_wp fun prog w A R s hS => ?_
  obtain ⟨⟨o, ho, hc, hd⟩, hsz, h⟩ := hS
  have hT : s.TypeIs (.ref a) "slice" := ⟨o, ho, hc⟩
  show wpAny _ _ (Builtin.Bytes.payload (.bytes b t) >>= fun r => _) _ _ s
  refine wpAny_bind (wpAny_of_eq (a := b) rfl ?_)
  show wpAny _ _ (Builtin.Bytes.subscript? (.ref a) >>= fun r => _) _ _ s
  refine wpAny_bind ?_
  unfold Builtin.Bytes.subscript?
  refine wpAny_bind (wpAny_specialOf hT slice_no_index (wpAny_pure ?_))
  refine wpAny_bind (wpAny_typeOf hT ?_)
  show wpAny _ _ (Builtin.Bytes.sliceParts (.ref a) >>= fun r => _) _ _ s
  refine wpAny_bind ?_
  unfold Builtin.Bytes.sliceParts
  refine wpAny_bind (wpAny_field (x := .int (-1) u) ho hd rfl ?_)
  kby_int
  refine wpAny_ite (KBy.ite_no (show ¬ ((rawInt (-1) == rawInt 0) = true) by decide) ?_)
  refine wpAny_bind (wpAny_field (x := .none) ho hd rfl ?_)
  kby_none
  refine wpAny_bind (wpAny_field (x := .none) ho hd rfl ?_)
  kby_none
  refine wpAny_pure ?_
  have go : wpAny (model prog w) A.in1 (sliceIndices (rawPart none) (rawPart none) (rawPart (some (-1))) b.size) (fun r s' => r = ((b.size : Int) - 1, -1, -1) ∧ s' = s) (fun _ _ => False) s :=
    wpAny_of_eq (sliceIndices_raw none none (some (-1)) b.size (fun e => nomatch e)) ⟨rfl, rfl⟩
  refine wpAny_bind (wpAny_mono go (fun r s' hr => ?_) fun _ _ e => e.elim)
  obtain ⟨hr1, hr2⟩ := hr
  subst hr1 hr2
  refine wpAny_ite (KBy.ite_no (by simp) ?_)
  refine wpAny_bind (wpAny_mkBytes (wpAny_pure ⟨_, rfl, ?_⟩) (by rw [sliced_rev, Array.size_reverse]; exact hsz))
  rw [sliced_rev]
  exact h _ _
section
variable {prog : Program} {w : World} {A : Around} {E : Value → Shared → Prop} {s : Shared} {value slice : PySem.Expr} {b : Array UInt8} {t : Tok} {h₀ : Heap} {L : Addr} {m : PySem.Str → Option Value} {news : List (Addr × Obj)} {Q : Value → Shared → Prop}
theorem bytes_rev {u : Tok} (hF : Fr h₀ L s.heap m) (hN : News h₀ L s.heap news) (hz : b.size ≤ 16777216)
    (h : ∀ h' t' k, Fr h₀ L h' m → News h₀ L h' news → Q (.bytes b.reverse t') { s with heap := h', toks := k })
    (hs : subscripted slice false (.bytes b t) (.ref s.heap.objs.size) = operate [.ref s.heap.objs.size, .bytes b t] (getItem (.bytes b t) (.ref s.heap.objs.size)) := by with_unfolding_all rfl)
    (ht : ∀ r, letTemporaryGo value (.bytes b t) r = pure () := by intro _; with_unfolding_all rfl) :
    wpAny (model prog w) A (subscriptTail value slice (.bytes b t) (.ref s.heap.objs.size)) Q E { s with heap := s.heap.push { cls := .type "slice", data := .fields #[.none, .none, .int (-1) u] } } :=
  tail_of_ItemOn ⟨"bytes", _, FB.slot_bytes_getitem.lookup, typeIs_bytes _ _ _, getItem_meets (typeIs_bytes _ _ _) (by decide) FB.slot_bytes_getitem FB.entry_bytes_getitem (FB.args_bytes_getitem_2 _ _) (rev_meets b t _)
    ⟨Heap.IsSliceOf.new _ _ _ _, by rw [sizeLine_eq]; exact hz, fun t' k => h _ _ _ (hF.push _) (News.pushKeep hN _)⟩⟩ hs ht
end
end

section
open PySem.Calls PySem.Spec PyProof.V
section
variable {prog : Program} {w : World} {A : Around} {E : Value → Shared → Prop} {s : Shared}
theorem wpX_stack {M : Model} {Q : List (Code × Pos) → Shared → Prop} (h : ∀ st : List (Code × Pos), (∃ c ∈ st, c.1 = Code.builtin "claim.caller" {}) → Q st s) : wpX M A stack Q E s := fun Γ p _ _ hc => by
  show Q ((Γ.code, p) :: Γ.below) s
  refine h _ ?_
  rcases hc.2 with e | ⟨x, hx, e⟩
  · exact ⟨_, .head _, e⟩
  · exact ⟨x, .tail _ hx, e⟩
theorem wpX_mark {M : Model} {own : List String} {e : Value} {Q : Unit → Shared → Prop} (h : Q () s) : wpX M A (markTheRefusal own e) Q E s := by
  unfold markTheRefusal
  refine wpX_bind (wpX_stack fun st hst => ?_)
  obtain ⟨c, hc, he⟩ := hst
  have hno : pythonCodeMadeTheCall own (st.map (·.1)) = false := by
    unfold pythonCodeMadeTheCall
    refine Bool.and_eq_false_iff.mpr (.inl (Bool.and_eq_false_iff.mpr (.inl ?_)))
    rw [Bool.not_eq_false']
    refine List.any_eq_true.mpr ⟨c.1, List.mem_map_of_mem hc, ?_⟩
    rw [he]
    rfl
  rw [hno]
  exact wpX_pure h
theorem call_int_X {x : Value} {Q : Value → Shared → Prop} (hinit : ∀ A' : Around, A'.handled = A.handled → wpX (model prog w) A' (Builtin.«int.__new__» ⟨[.type "int", x], []⟩) (fun _ _ => False) E s) :
    wpX (model prog w) A (call (.type "int") [x]) Q E s := by
  have hct : checkTypeCall "int" ⟨[x], []⟩ = pure () := F.typeCall_int_1 x
  obtain ⟨c, tl, hmro⟩ := F.called_int.mro
  have hmade := F.called_int.made
  refine wpX_call (codeX_of_tree rfl ?_)
  show wpX _ _ (callAny (.type "int") _) _ _ _
  refine wpX_pure ⟨Code.quiet_builtin _ (by decide +kernel), codeX_builtin (show badIds.contains "type.__call__" = false by decide +kernel) F.entry_type_call ?_⟩
  rw [Around.under_plain (weight_type_call_type "int" [x] []) rfl]
  have h1 := F.called_int.notType
  have h2 := F.called_int.canCreate
  unfold Builtin.«type.__call__»
  refine wpX_if_false h1 ?_
  refine wpX_if_false h2 ?_
  refine wpX_eq_bind hct ?_
  refine wpX_eq_bind hmro ?_
  refine wpX_if_false rfl ?_
  refine wpX_eq_bind hmade ?_
  refine wpX_bind (wpX_pure ?_)
  refine wpX_bind (wpX_holding (wpX_call (codeX_call_builtin (show badIds.contains "int.__new__" = false by decide +kernel) (by decide +kernel) F.entry_int_new ?_)))
  refine wpAny_of_eq (F.newCall_int_1 x) ?_
  exact wpX_mono (hinit _ rfl) (fun _ _ z => z.elim) fun _ _ z => z
theorem none_int : typeLookup (.type "NoneType") "__int__" = pure none := by rw [typeLookup_type, builtinLookup_eq_fast]; kernel_rfl
theorem none_idx : typeLookup (.type "NoneType") "__index__" = pure none := by rw [typeLookup_type, builtinLookup_eq_fast]; kernel_rfl
theorem none_trunc : typeLookup (.type "NoneType") "__trunc__" = pure none := by rw [typeLookup_type, builtinLookup_eq_fast]; kernel_rfl
theorem none_buf : typeLookup (.type "NoneType") "__buffer__" = pure none := by rw [typeLookup_type, builtinLookup_eq_fast]; kernel_rfl
theorem str_buf : typeLookup (.type "str") "__buffer__" = pure none := by rw [typeLookup_type, builtinLookup_eq_fast]; kernel_rfl
theorem two_invalid : (int_private% "readNumeral") 0 10 [116, 119, 111] = (int_private% "Numeral.invalid") := by kernel_rfl
end
end

section
open PySem.Calls PySem.Spec PyProof.V
section
variable {prog : Program} {w : World} {A : Around} {E : Value → Shared → Prop} {s : Shared}
theorem int_two {t : Tok} {Q : Value → Shared → Prop} (hh : A.handled = none)
    (h : ∀ e h' tk, Heap.NewExc s.heap h' e "ValueError" → E (.ref e) { s with heap := h', toks := tk }) : wpX (model prog w) A (call (.type "int") [.str "two" t]) Q E s := by
  refine call_int_X fun A' hA' => ?_
  have hh' : A'.handled = none := hA'.trans hh
  have f1 := F.conv_sub_int
  have f2 := F.madeHere_int
  have hsub : isSubtype (.type "int") (.type "int") = pure true := F.conv_sub_int
  unfold Builtin.«int.__new__»
  refine wpX_eq_bind (a := true) rfl ?_
  refine wpX_eq_bind (a := true) f1 ?_
  refine wpX_eq_bind (a := ()) f2 ?_
  refine wpX_eq_bind (a := PUnit.unit) rfl ?_
  refine wpX_bind ?_
  refine wpX_bindA (wpAny_callSpecial?_none (T := "str") rfl KIN.str_int ?_)
  refine wpX_bindA (wpAny_specialOf_val (T := "str") rfl KIN.str_idx ?_)
  refine wpX_bindA (wpAny_specialOf_val (T := "str") rfl KIN.str_trunc ?_)
  refine wpX_eq_bind (a := some [116, 119, 111]) (by kernel_rfl) ?_
  refine wpX_bind ?_
  refine wpX_pure ?_
  have two : (int_private% "readNumeral") 0 10 (List.takeWhile (fun x => x != 0) [116, 119, 111]) = (int_private% "Numeral.invalid") := by kernel_rfl
  dsimp only
  rw [two]
  dsimp only
  refine wpX_eq_bind (a := none) (by kernel_rfl) ?_
  refine wpX_bindA (wpAny_rule ?_)
  refine wpX_eq_bind (a := none) (by kernel_rfl) ?_
  refine wpX_bindA (wpAny_pyRepr_str ?_ (by decide +kernel))
  refine wpX_bindA (wpAny_mkStr ?_ (by decide +kernel))
  refine wpX_bindA (wpAny_newExc_plain plainExc_ValueError fun h' e hm => ?_)
  refine wpX_bind (wpX_mark ?_)
  exact wpX_of (wpAny_raiseNew_none hh' (h e h' _ hm.newExc))
/-- int(None) raises TypeError -/
theorem int_none {Q : Value → Shared → Prop} (hh : A.handled = none)
    (h : ∀ e h' tk, Heap.NewExc s.heap h' e "TypeError" → E (.ref e) { s with heap := h', toks := tk }) : wpX (model prog w) A (call (.type "int") [.none]) Q E s := by
  refine call_int_X fun A' hA' => ?_
  have hh' : A'.handled = none := hA'.trans hh
  have f1 := F.conv_sub_int
  have f2 := F.madeHere_int
  unfold Builtin.«int.__new__»
  refine wpX_eq_bind (a := true) rfl ?_
  refine wpX_eq_bind (a := true) f1 ?_
  refine wpX_eq_bind (a := ()) f2 ?_
  refine wpX_eq_bind (a := PUnit.unit) rfl ?_
  refine wpX_bind ?_
  refine wpX_bindA (wpAny_callSpecial?_none (T := "NoneType") rfl none_int ?_)
  refine wpX_bindA (wpAny_specialOf_val (T := "NoneType") rfl none_idx ?_)
  refine wpX_bindA (wpAny_specialOf_val (T := "NoneType") rfl none_trunc ?_)
  refine wpX_eq_bind (a := none) (by kernel_rfl) ?_
  refine wpX_bindA (wpAny_specialOf_val (T := "NoneType") rfl none_buf ?_)
  refine wpX_bindA (wpAny_rule ?_)
  refine wpX_eq_bind (m := typeNameOf .none) (a := "NoneType") (by kernel_rfl) ?_
  exact wpX_of (wpAny_raiseErrorWords plainExc_TypeError hh' fun h' tk e hm => h e h' tk hm)
end
end

section
open PySem.Calls PySem.Spec
section
variable {M : Model} {A : Around} {E : Value → Shared → Prop} {s : Shared} {env : Env}
theorem wpX_Subscript_raise {value slice : Expr} {pos : Pos} {Q : Value → Shared → Prop} (h : wpX M A (eval value env) (fun _ _ => False) E s) : wpX M A (eval (.Subscript value slice pos) env) Q E s := by
  rw [arm_eval_Subscript]
  exact wpX_bind (wpX_mono h (fun _ _ z => z.elim) fun _ _ z => z)
theorem wpX_callWith1_raise {f : Value} {first : List Value} {pos : Pos} {e : Expr} {rest : List Expr} {Q : Value → Shared → Prop} (h : wpX M A (eval e env) (fun _ _ => False) E s)
    (he : starEach (e :: rest) env = (false, eval e env) :: starEach rest env := by rfl) :
    wpX M A (callWith pos f first (backTo pos (starEach (e :: rest) env)) []) Q E s := by
  rw [he]
  unfold callWith
  refine wpX_bind (wpX_holding ?_)
  unfold evalArgs
  show wpX M A (spliced ((false, eval e env) :: backTo pos (starEach rest env)) >>= _) _ E s
  refine wpX_bind ?_
  unfold spliced
  exact wpX_bind (wpX_mono h (fun _ _ z => z.elim) fun _ _ z => z)
theorem wpX_tryStmt_except {body orelse : Sem Flow} {h₀ : ExceptHandler} {hs : List ExceptHandler} {Q : Flow → Shared → Prop}
    (h : wpX M A body (fun f s₁ => match f with | .next => wpX M A orelse Q E s₁ | f => Q f s₁)
      (fun e s₁ => wpAny M A (noteFrame e env) (fun _ s₂ => wpAny M A (setFlight e none) (fun _ s₃ => wpAny M A (handleBy e env (h₀ :: hs)) Q E s₃) E s₂) E s₁) s) :
    wpX M A (tryStmt false body (h₀ :: hs) orelse [] env) Q E s := by
  unfold tryStmt
  simp only [List.isEmpty_nil, if_true, List.isEmpty_cons, Bool.false_and, Bool.false_eq_true, if_false]
  refine wpX_bind (wpX_attempt (wpX_mono h (fun f s₁ h₁ => ?_) fun e s₁ h₁ => ?_))
  · cases f <;> first | exact h₁ | exact wpX_pure h₁
  · exact wpX_of (wpAny_bind (wpAny_mono h₁ (fun _ _ h₂ => wpAny_bind h₂) fun _ _ x => x))
end
theorem wpX_Try_except {prog : Program} {w : World} {A : Around} {E : Value → Shared → Prop} {s : Shared} {env : Env} {body orelse : List Stmt} {h₀ : ExceptHandler} {hs : List ExceptHandler} {pos : Pos} {Q : Flow → Shared → Prop}
    (h : wpX (model prog w) A (execs body env) (fun f s₁ => match f with | .next => wpX (model prog w) A (execs orelse env) Q E s₁ | f => Q f s₁)
      (fun e s₁ => wpAny (model prog w) A (noteFrame e env) (fun _ s₂ => wpAny (model prog w) A (setFlight e none) (fun _ s₃ => wpAny (model prog w) A (handleBy e env (h₀ :: hs)) Q E s₃) E s₂) E s₁) s) :
    wpX (model prog w) A (exec (.Try body (h₀ :: hs) orelse [] pos) env) Q E s := by
  rw [arm_exec_Try]
  exact wpX_bindA (wpAny_standAt (wpX_tryStmt_except h))
theorem wpX_passesOwnAt {α : Type} {M : Model} {A' A : Around} {env : Env} {E : Value → Shared → Prop} {s : Shared} {t : Sem α} {Q : α → Shared → Prop}
    (hE : PassesOwnAt M A' A env E) (h : wpX M A' t Q E s) : wpX M A' t Q (notedBy M A' env (cameBackBy M A env E)) s :=
  wpX_mono h (fun _ _ x => x) hE
end

section
open PySem.Calls
local macro_rules | `(tactic| walk_at "leaving ref") => `(tactic| (k_here; refine Stop.mk ?_))
variable {w : World} {p : Program} {loose : List Str} {mean : ExcName → Option Value} {mg mb : Str → Option Value} {dp un : Nat} {gd : Option (List Code)} {cn : Str} {cs : Scope} {a : Addr} {ccd : Value} {cl : List (Str × Addr)} {outer : List Env} {A₀ : Around} {base h₀ : Heap} {L : Addr} {m : Str → Option Value} {s : Shared} {Q E : Value → Shared → Prop}
/-- where an exception comes back to the caller -/
def RaisTo (base h₀ : Heap) (l : List Env) (L : Addr) (m : Str → Option Value) (cls : String) (news : List (Addr × Obj)) (E : Value → Shared → Prop) (s : Shared) : Prop :=
  ∀ G e h' tk, Fr h₀ L G m → RaisedSN base G l e (.type cls) news h' → G.UpToSlots h' → E (.ref e) { s with heap := h', toks := tk }
theorem seek_raises {x dx ba : Addr} {pos : Int} {t t0 t1 : Tok} {p0 : Int} {t2 : Tok} {news : List (Addr × Obj)} (B : Below A₀ base outer h₀) (F : Fr h₀ L s.heap m) (X : (Mine.hd.heap_1 w.params).In h₀) (T : Top p loose mean mg mb h₀) (hk : cs.kind = .function)
   (N : News h₀ L s.heap ((dx, bioD w t0 ba t1 p0 t2) :: (x, instObj 322 dx) :: news))
   (hne : @Ne Nat x dx)
   (h0 : pos < 0) (h1 : -1000 < pos)
   (hd : dp + 4 < recursionLimit) (hu : un + 40 < cLine)
   (rais : RaisTo base h₀ (envX cn cs L a ccd cl :: outer) L m "ValueError" news E s) :
   wpAny (model PG w) (ktrTop dp un gd cn cs L a ccd cl outer) (call (.ref 230) [.ref x, .int pos t]) Q E s := by
  refine wpAny_call ?_
  k_dflt cell_enter
  rename_i g' L' hh FGg Fg Ng Bg Xg Tg
  k_steps
  refine Stop.out ?_
  rename Fr g' L' _ _ => F9
  rename News g' L' _ _ => N9
  rename Heap.NewExc _ _ _ _ => x9
  exact leave_newS (news := news) Bg x9 F9 (News.sub N9 fun q hq => .tail _ (.tail _ hq)) fun h' R U UT => rais _ _ _ _ FGg R UT
end

local macro_rules | `(tactic| walk_at "call ref") => `(tactic| (k_here; (try dsimp only [List.cons_append, List.nil_append, List.append_nil]); (first | (with_reducible show wpAny _ _ (call (Value.ref 246) _) _ _ _) | (with_reducible show wpAny _ _ (call (Value.ref 208) _) _ _ _) | (with_reducible show wpAny _ _ (call (Value.ref 586) _) _ _ _) | (with_reducible show wpAny _ _ (call (Value.ref 593) _) _ _ _) | (with_reducible show wpAny _ _ (call (Value.ref 600) _) _ _ _) | (with_reducible show wpAny _ _ (call (Value.ref 607) _) _ _ _)); refine Stop.mk ?_))

section
open PySem.Calls
variable {w : World} {p : Program} {loose : List Str} {mean : ExcName → Option Value} {mg mb : Str → Option Value} {dp un : Nat} {gd : Option (List Code)} {cn : Str} {cs : Scope} {a : Addr} {ccd : Value} {cl : List (Str × Addr)} {outer : List Env} {A₀ : Around} {base h₀ : Heap} {L : Addr} {m : Str → Option Value} {s : Shared} {Q E : Value → Shared → Prop}
def DataOk (dn : List (Addr × Obj)) (v : Value) (b : Array UInt8) : Prop := (∃ t, v = .bytes b t) ∨ (∃ d, v = .ref d ∧ (d, baObj b) ∈ dn)
theorem bio_tells {news : List (Addr × Obj)} {dv : Value} {b : Array UInt8} (hv : DataOk news dv b) (B : Below A₀ base outer h₀) (F : Fr h₀ L s.heap m) (X : (Mine.hd.heap_1 w.params).In h₀) (T : Top p loose mean mg mb h₀) (hk : cs.kind = .function)
   (N : News h₀ L s.heap news) (hz : b.size < 1000)
   (hd : dp + 5 < recursionLimit) (hu : un + 60 < cLine)
   (ret : ∀ x dx ba t0 t1 t2 h' tk', Fr h₀ L h' m → News h₀ L h' ((x, instObj 322 dx) :: (dx, bioD w t0 ba t1 0 t2) :: (ba, baObj b) :: news) → (∀ p ∈ news, p.1 < dx) → dx < x → x < ba → Q (.ref x) { s with heap := h', toks := tk' }) :
   wpX (model PG w) (ktrTop dp un gd cn cs L a ccd cl outer) (call (.ref 322) [dv]) Q E s := by
  rcases hv with ⟨t, rfl⟩ | ⟨d, rfl, hm⟩
  · exact bioB_tells B F X T hk N hz hd hu ret
  · exact bioA_tells hm B F X T hk N hz hd hu ret
/-- int(v) raises -/
def IntBad (w : World) (v : Value) (cls : String) : Prop := ∀ (A : Around) (Q : Value → Shared → Prop) (E : Value → Shared → Prop) (s : Shared), A.handled = none →
  (∀ e h' tk, Heap.NewExc s.heap h' e cls → E (.ref e) { s with heap := h', toks := tk }) → wpX (model PG w) A (call (.type "int") [v]) Q E s
theorem swap_any {fv dv : Value} {start : Int} {ts : Tok} {sp : Nat} {cls : String} {b : Array UInt8} {dn itn bs : List (Addr × Obj)} {St : Nat → Obj → Prop} {P : Nat → Value → Prop} {Dn : Addr → Heap → Prop} {ns : List Int}
   (hv : DataOk (itn ++ dn) dv b) (B : Below A₀ base outer h₀) (F : Fr h₀ L s.heap m) (X : (Mine.hd.heap_1 w.params).In h₀) (T : Top p loose mean mg mb h₀) (hk : cs.kind = .function)
   (N : News h₀ L s.heap (itn ++ dn)) (hz : b.size < 900) (h0 : 0 ≤ start) (h1 : start < 1000000)
   (hI : IterS w bs St ns.length P Dn) (hO : Opens w bs itn fv St) (hP : ∀ i v, i < ns.length → P i v → (i ≠ sp → IntsTo w v (ns.getD i 0)) ∧ (i = sp → IntBad w v cls)) (hr : ∀ c ∈ ns, -1000 < c ∧ c < 1000)
   (hbs : ∀ q ∈ bs, s.heap.get? q.1 = some q.2) (hbn : ∀ q ∈ bs, ∀ r ∈ itn ++ dn, q.1 ≠ r.1) (hdi : ∀ q ∈ dn, ∀ r ∈ itn, q.1 ≠ r.1)
   (hDn : ∀ I h h', Dn I h → (∀ o, h.get? I = some o → h'.get? I = some o) → Dn I h')
   (hd : dp + 8 < recursionLimit) (hu : un + 100 < cLine)
   (rais : sp < ns.length → RaisTo base h₀ (envX cn cs L a ccd cl :: outer) L m cls dn E s)
   (ret : ∀ v h' tk', ¬ sp < ns.length → Fr h₀ L h' m → Kept (itn.map (·.1)) s.heap h' → (∀ I o, itn = [(I, o)] → Dn I h') → Q (.bytes (ns.foldl (swStep b) (start.toNat, #[])).2 v) { s with heap := h', toks := tk' }) :
   wpX (model PG w) (ktrTop dp un gd cn cs L a ccd cl outer) (call (.ref 579) [fv, dv, .int start ts]) Q E s := by
  refine wpX_call ?_
  k_dflt ktr_enter
  rename_i g' L' hh FGg Fg Ng Bg Xg Tg hgk
  refine wpX_execs_cons (wpX_Assign_Name ?_)
  refine wpX_Call ?_
  k_fold
  k_steps
  refine wpX_callWith1 (K := Mine.hd.heap_1 w.params) (by k_is) ?_
  k_steps
  refine bio_tells hv (by k_asm) (by k_asm) (by k_asm) (by k_asm) rfl (by k_asm) (by omega) (by ktr_room) (by ktr_units) fun x1 dx1 ba1 t01 t11 t21 h1' tk1' F1 N1 l1 l2 l3 => ?_
  k_steps
  have a1 : @Ne Nat x1 dx1 := Nat.ne_of_gt l2
  have a2 : @Ne Nat ba1 dx1 := Nat.ne_of_gt (Nat.lt_trans l2 l3)
  refine wpX_execs_cons (wpX_Expr (wpX_MethodCall ?_))
  k_fold
  k_steps
  refine wpX_callWith1 (K := Mine.hd.heap_1 w.params) (by k_is) ?_
  k_steps
  rename Fr _ _ _ _ => F2
  rename News _ _ _ _ => N2
  refine wpX_of (seek_tells (by k_asm) (by k_asm) (by k_asm) (by k_asm) rfl (News.sub2 N2 (by k_mem) (by k_mem)) a1 h0 h1 (by ktr_room) (by ktr_units) fun v h3 tk3 t22 F3 k3 N3 => ?_)
  have N4 := news_step (full' := (x1, instObj 322 dx1) :: (dx1, bioD w t01 ba1 t11 (start.toNat : Int) t22) :: (ba1, baObj b) :: (itn ++ dn)) N2 k3 N3 fun q hq => by
    rcases List.mem_cons.mp hq with rfl | hq
    · exact .inl (.tail _ (.head _))
    rcases List.mem_cons.mp hq with rfl | hq
    · rw [Int.toNat_of_nonneg h0]; exact .inl (.head _)
    rcases List.mem_cons.mp hq with rfl | hq
    · exact .inr ⟨.tail _ (.tail _ (.head _)), fun e => a2 (List.mem_singleton.mp e)⟩
    · exact .inr ⟨.tail _ (.tail _ (.tail _ hq)), fun e => Nat.lt_irrefl _ (by have := l1 q hq; rw [List.mem_singleton.mp e] at this; exact this)⟩
  clear N2 F2 N3 k3
  dsimp only
  refine wpX_execs_cons (wpX_Assign_Name ?_)
  refine wpX_Call ?_
  k_fold
  k_steps
  refine wpX_callWith0 (K := Mine.hd.heap_1 w.params) (by k_in) (by k_is) ?_
  dsimp only [List.append_nil, List.nil_append]
  refine bio0_tells (by k_asm) (by k_asm) (by k_asm) (by k_asm) rfl (by k_asm) (by ktr_room) (by ktr_units) fun x2 dx2 ba2 t02 t12 t2b h5 tk5 F5 N5 l4 l5 l6 => ?_
  k_steps
  refine wpX_execs_cons (wpX_For ?_)
  k_fold
  k_steps
  rename Fr _ _ _ _ => F7
  rename News _ _ _ _ => N7
  have hbg : ∀ q ∈ bs, g'.get? q.1 = some q.2 := fun q hq => hgk _ _ (fun e => by obtain ⟨r, hr', e'⟩ := List.mem_map.mp e; exact hbn q hq r hr' e'.symm) (hbs q hq)
  have o1 : @LT.lt Nat _ dx1 x1 := l2
  have o2 : @LT.lt Nat _ x1 ba1 := l3
  have o3 : @LT.lt Nat _ ba1 dx2 := l4 (ba1, baObj b) (by k_mem)
  have o4 : @LT.lt Nat _ dx2 x2 := l5
  have o5 : @LT.lt Nat _ x2 ba2 := l6
  refine opens_use (bs := bs) (core := (x2, instObj 322 dx2) :: (dx2, bioD w t02 ba2 t12 0 t2b) :: (ba2, baObj #[]) :: (x1, instObj 322 dx1) :: (dx1, bioD w t01 ba1 t11 (start.toNat : Int) t22) :: (ba1, baObj b) :: dn) hO F7 (News.sub N7 fun q hq => mem6 hq) (fun q hq => F7.keep _ _ (hbg q hq)) ?_ (fun q hq r hr => hbn q hq r (List.mem_append_left _ hr)) fun I o h8 tk8 F8 N8 c8 b8 bI st8 hself => ?_
  · have lo : ∀ r ∈ itn, @LT.lt Nat _ r.1 dx1 := fun r hr => l1 r (List.mem_append_left _ hr)
    refine all6 ?_ ?_ ?_ ?_ ?_ ?_ hdi <;> (intro r hr; have := lo r hr; show @Ne Nat _ _; omega)
  have cIdx1 : @Ne Nat I dx1 := fun e => c8 (dx1, bioD w t01 ba1 t11 (start.toNat : Int) t22) (by k_mem) e.symm
  have cIdx2 : @Ne Nat I dx2 := fun e => c8 (dx2, bioD w t02 ba2 t12 0 t2b) (by k_mem) e.symm
  have cIba2 : @Ne Nat I ba2 := fun e => c8 (ba2, baObj #[]) (by k_mem) e.symm
  have lq : ∀ q ∈ dn, @LT.lt Nat _ q.1 dx1 := fun q hq => l1 q (List.mem_append_right _ hq)
  refine swap_loop (b := b) (fun i => i ≠ sp) (core := fun z ta tb => (x2, instObj 322 dx2) :: (dx2, bioD w t02 ba2 t12 (z.2.size : Int) tb) :: (ba2, baObj z.2) :: (x1, instObj 322 dx1) :: (dx1, bioD w t01 ba1 t11 (z.1 : Int) ta) :: (ba1, baObj b) :: dn) (z0 := (start.toNat, #[])) (ns := ns) hI (Nat.le_refl _) rfl rfl rfl rfl F8 rfl rfl N8 st8 hbg bI ?_ ?_ ?_ ?_
  · intro z ta tb q hq
    have hq' : q.1 ∈ ([(x2, instObj 322 dx2), (dx2, bioD w t02 ba2 t12 0 t2b), (ba2, baObj #[]), (x1, instObj 322 dx1), (dx1, bioD w t01 ba1 t11 (start.toNat : Int) t22), (ba1, baObj b)] ++ dn).map (·.1) := by
      have := List.mem_map_of_mem (f := (·.1)) hq
      exact this
    obtain ⟨r, hr, e⟩ := List.mem_map.mp hq'
    exact e ▸ c8 r hr
  · unfold swOk
    show 0 + _ ≤ _
    omega
  · intro i v av bv h tk o' z ta tb hlt hPv ok F9 N9
    by_cases hsp : i = sp
    · refine wpX_execs_cons (wpX_Assign_Name (wpX_Subscript_raise (wpX_MethodCall ?_)))
      k_fold
      k_steps
      refine wpX_callWith1_raise (wpX_Call ?_)
      k_steps
      refine wpX_callType1 ?_
      k_steps
      refine (hP i v hlt hPv).2 hsp _ _ _ _ rfl fun e h10 tk10 x10 => ?_
      refine (show PassesOwnAt _ _ _ _ _ from by passes_own) _ _ ?_
      rename Fr _ _ _ _ => F10
      rename News _ _ _ _ => N10
      exact leave_newS (news := dn) Bg x10 F10 (News.sub N10 fun q hq => .tail _ (.tail _ (.tail _ (.tail _ (.tail _ (.tail _ (.tail _ hq))))))) fun h' R U UT => rais (hsp ▸ hlt) _ _ _ _ FGg R UT
    refine wpX_execs_cut 1 ?_
    dsimp only [List.take_succ_cons, List.take_zero]
    k_fold
    k_steps
    have hc := hr (ns.getD i 0) (by rw [List.getD_eq_getElem?_getD, List.getElem?_eq_getElem hlt]; exact List.getElem_mem hlt)
    refine (hP i v hlt hPv).1 hsp _ _ _ _ fun tq tkq => ?_
    k_steps
    refine Stop.out (read_tells (by k_asm) (by k_asm) (by k_asm) (by k_asm) rfl (News.sub3 N9 (by k_mem) (by k_mem) (by k_mem)) a1 a2 (by omega) hc.1 hc.2 (by ktr_room) (by ktr_units) fun vg h10 tk10 t2r F10 k10 N10 => ?_)
    have N11 := news_step (full' := (I, o') :: (x2, instObj 322 dx2) :: (dx2, bioD w t02 ba2 t12 (z.2.size : Int) tb) :: (ba2, baObj z.2) :: (x1, instObj 322 dx1) :: (dx1, bioD w t01 ba1 t11 ((rdNew b.size z.1 (ns.getD i 0) : Nat) : Int) t2r) :: (ba1, baObj b) :: dn) N9 k10 N10 fun q hq => by
      rcases List.mem_cons.mp hq with rfl | hq
      · exact .inr ⟨.head _, fun e => cIdx1 (List.mem_singleton.mp e)⟩
      rcases List.mem_cons.mp hq with rfl | hq
      · exact .inr ⟨by k_mem, fun e => by have h9 : @Eq Nat _ _ := List.mem_singleton.mp e; dsimp only at h9; omega⟩
      rcases List.mem_cons.mp hq with rfl | hq
      · exact .inr ⟨by k_mem, fun e => by have h9 : @Eq Nat _ _ := List.mem_singleton.mp e; dsimp only at h9; omega⟩
      rcases List.mem_cons.mp hq with rfl | hq
      · exact .inr ⟨by k_mem, fun e => by have h9 : @Eq Nat _ _ := List.mem_singleton.mp e; dsimp only at h9; omega⟩
      rcases List.mem_cons.mp hq with rfl | hq
      · exact .inr ⟨by k_mem, fun e => by have h9 : @Eq Nat _ _ := List.mem_singleton.mp e; dsimp only at h9; omega⟩
      rcases List.mem_cons.mp hq with rfl | hq
      · exact .inl (.head _)
      rcases List.mem_cons.mp hq with rfl | hq
      · exact .inr ⟨by k_mem, fun e => by have h9 : @Eq Nat _ _ := List.mem_singleton.mp e; dsimp only at h9; omega⟩
      · exact .inr ⟨.tail _ (.tail _ (.tail _ (.tail _ (.tail _ (.tail _ (.tail _ hq)))))), fun e => by have h9 : @Eq Nat _ _ := List.mem_singleton.mp e; have := lq q hq; omega⟩
    clear N10
    k_steps
    rename Fr _ _ _ _ => F12
    refine bytes_rev (s := ⟨h10, _, _, _, _⟩) F12 N11 (by have := rdGot_size b z.1 (ns.getD i 0); omega) fun h13 t13 tk13 F13 N13 => ?_
    k_steps
    clear F9 N9 k10 N11
    refine wpX_execs_cons (wpX_Expr (wpX_MethodCall ?_))
    k_fold
    k_steps
    refine wpX_callWith1 (K := Mine.hd.heap_1 w.params) (by k_is) ?_
    k_steps
    rename Fr _ _ _ _ => F14
    rename News _ _ _ _ => N14
    have hsz := rdGot_size b z.1 (ns.getD i 0)
    refine write_tells (by k_asm) (by k_asm) (by k_asm) (by k_asm) rfl (News.sub3 N14 (by k_mem) (by k_mem) (by k_mem)) (by omega) (by omega) (by omega) (by unfold swOk at ok; omega) (by rw [Array.size_reverse]; omega) (by ktr_room) (by ktr_units) fun vw h15 tk15 t2w F15 k15 N15 => ?_
    have N16 := news_step (full' := (I, o') :: (x2, instObj 322 dx2) :: (dx2, bioD w t02 ba2 t12 (((z.2 ++ (rdGot b z.1 (ns.getD i 0)).reverse).size : Nat) : Int) t2w) :: (ba2, baObj (z.2 ++ (rdGot b z.1 (ns.getD i 0)).reverse)) :: (x1, instObj 322 dx1) :: (dx1, bioD w t01 ba1 t11 ((rdNew b.size z.1 (ns.getD i 0) : Nat) : Int) t2r) :: (ba1, baObj b) :: dn) N14 k15 N15 fun q hq => by
      have two : ∀ {y : Addr}, @Ne Nat y dx2 → @Ne Nat y ba2 → y ∉ [dx2, ba2] := fun n1 n2 e => by
        rcases List.mem_cons.mp e with e | e
        · exact n1 e
        · exact n2 (List.mem_singleton.mp e)
      rcases List.mem_cons.mp hq with rfl | hq
      · exact .inr ⟨.head _, two cIdx2 cIba2⟩
      rcases List.mem_cons.mp hq with rfl | hq
      · exact .inl (by k_mem)
      rcases List.mem_cons.mp hq with rfl | hq
      · exact .inl (by k_mem)
      rcases List.mem_cons.mp hq with rfl | hq
      · exact .inl (by k_mem)
      rcases List.mem_cons.mp hq with rfl | hq
      · exact .inr ⟨by k_mem, two (by omega) (by omega)⟩
      rcases List.mem_cons.mp hq with rfl | hq
      · exact .inr ⟨by k_mem, two (by omega) (by omega)⟩
      rcases List.mem_cons.mp hq with rfl | hq
      · exact .inr ⟨by k_mem, two (by omega) (by omega)⟩
      · exact .inr ⟨.tail _ (.tail _ (.tail _ (.tail _ (.tail _ (.tail _ (.tail _ hq)))))), two (by have := lq q hq; omega) (by have := lq q hq; omega)⟩
    dsimp only
    refine wpX_execs_nil ?_
    exact ⟨hsp, _, _, h15, tk15, t2r, t2w, rfl, F15, N16⟩
  · intro av bv h tk ta tb hall F9 N9 ok dn9
    refine wpX_of ?_
    k_fold
    k_steps
    refine Stop.out (getvalue_tells (by k_asm) (by k_asm) (by k_asm) (by k_asm) rfl (News.sub3 N9 (by k_mem) (by k_mem) (by k_mem)) (by unfold swOk at ok; omega) (by ktr_room) (by ktr_units) fun vg h10 tk10 F10 k10 => ?_)
    have N10 := News.kept N9 k10 (fun _ _ q => nomatch q)
    k_steps
    rw [List.take_length]
    exact ret _ _ _ (fun q => hall sp q rfl) (by k_asm) (kept_but (chg := itn) (same := dn) (News.sub N fun q hq => List.mem_append_right _ hq) (News.sub N10 fun q hq => .tail _ (.tail _ (.tail _ (.tail _ (.tail _ (.tail _ hq)))))) (by assumption))
      fun I' o' e => hself I' o' e ▸ hDn _ _ _ dn9 fun o => k10 _ o (fun q => nomatch q)
theorem swap_tells {fv dv : Value} {start : Int} {ts : Tok} {b : Array UInt8} {dn itn bs : List (Addr × Obj)} {St : Nat → Obj → Prop} {P : Nat → Value → Prop} {Dn : Addr → Heap → Prop} {ns : List Int}
   (hv : DataOk (itn ++ dn) dv b) (B : Below A₀ base outer h₀) (F : Fr h₀ L s.heap m) (X : (Mine.hd.heap_1 w.params).In h₀) (T : Top p loose mean mg mb h₀) (hk : cs.kind = .function)
   (N : News h₀ L s.heap (itn ++ dn)) (hz : b.size < 900) (h0 : 0 ≤ start) (h1 : start < 1000000)
   (hI : IterS w bs St ns.length P Dn) (hO : Opens w bs itn fv St) (hP : ∀ i v, i < ns.length → P i v → IntsTo w v (ns.getD i 0)) (hr : ∀ c ∈ ns, -1000 < c ∧ c < 1000)
   (hbs : ∀ q ∈ bs, s.heap.get? q.1 = some q.2) (hbn : ∀ q ∈ bs, ∀ r ∈ itn ++ dn, q.1 ≠ r.1) (hdi : ∀ q ∈ dn, ∀ r ∈ itn, q.1 ≠ r.1)
   (hDn : ∀ I h h', Dn I h → (∀ o, h.get? I = some o → h'.get? I = some o) → Dn I h')
   (hd : dp + 8 < recursionLimit) (hu : un + 100 < cLine)
   (ret : ∀ v h' tk', Fr h₀ L h' m → Kept (itn.map (·.1)) s.heap h' → (∀ I o, itn = [(I, o)] → Dn I h') → Q (.bytes (ns.foldl (swStep b) (start.toNat, #[])).2 v) { s with heap := h', toks := tk' }) :
   wpX (model PG w) (ktrTop dp un gd cn cs L a ccd cl outer) (call (.ref 579) [fv, dv, .int start ts]) Q E s :=
  swap_any (sp := ns.length) (cls := "TypeError") hv B F X T hk N hz h0 h1 hI hO (fun i v hi hp => ⟨fun _ => hP i v hi hp, fun e => absurd hi (e ▸ Nat.lt_irrefl _)⟩) hr hbs hbn hdi hDn hd hu (fun q => absurd q (Nat.lt_irrefl _)) fun v h' tk' _ => ret v h' tk'
/-- byteswap, a start below zero -/
theorem swap_start {fv dv : Value} {start : Int} {ts : Tok} {b : Array UInt8} {dn : List (Addr × Obj)} (hv : DataOk dn dv b) (B : Below A₀ base outer h₀) (F : Fr h₀ L s.heap m) (X : (Mine.hd.heap_1 w.params).In h₀) (T : Top p loose mean mg mb h₀) (hk : cs.kind = .function)
   (N : News h₀ L s.heap dn) (hz : b.size < 900) (h0 : start < 0) (h1 : -1000 < start)
   (hd : dp + 8 < recursionLimit) (hu : un + 100 < cLine)
   (rais : RaisTo base h₀ (envX cn cs L a ccd cl :: outer) L m "ValueError" dn E s) :
   wpX (model PG w) (ktrTop dp un gd cn cs L a ccd cl outer) (call (.ref 579) [fv, dv, .int start ts]) Q E s := by
  refine wpX_call ?_
  k_dflt ktr_enter
  rename_i g' L' hh FGg Fg Ng Bg Xg Tg hgk
  refine wpX_execs_cons (wpX_Assign_Name ?_)
  refine wpX_Call ?_
  k_fold
  k_steps
  refine wpX_callWith1 (K := Mine.hd.heap_1 w.params) (by k_is) ?_
  k_steps
  refine bio_tells hv (by k_asm) (by k_asm) (by k_asm) (by k_asm) rfl (by k_asm) (by omega) (by ktr_room) (by ktr_units) fun x1 dx1 ba1 t01 t11 t21 h1' tk1' F1 N1 l1 l2 l3 => ?_
  k_steps
  have a1 : @Ne Nat x1 dx1 := Nat.ne_of_gt l2
  refine wpX_execs_cons (wpX_Expr (wpX_MethodCall ?_))
  k_fold
  k_steps
  refine wpX_callWith1 (K := Mine.hd.heap_1 w.params) (by k_is) ?_
  k_steps
  rename Fr _ _ _ _ => F2
  rename News _ _ _ _ => N2
  refine wpX_of (seek_raises (t0 := t01) (ba := ba1) (t1 := t11) (p0 := 0) (t2 := t21) (news := dn) (by k_asm) (by k_asm) (by k_asm) (by k_asm) rfl (News.sub N2 fun q hq => ?_) a1 h0 h1 (by ktr_room) (by ktr_units) fun G e h3 tk3 FG R U => ?_)
  · rcases List.mem_cons.mp hq with rfl | hq
    · exact .tail _ (.head _)
    rcases List.mem_cons.mp hq with rfl | hq
    · exact .head _
    · exact .tail _ (.tail _ (.tail _ hq))
  · exact leave_onSN Bg FG R U fun h' R' U' UT => rais _ _ _ _ FGg R' UT
end

section
open PySem.Calls
variable {w : World} {p : Program} {loose : List Str} {mean : ExcName → Option Value} {mg mb : Str → Option Value} {dp un : Nat} {gd : Option (List Code)} {cn : Str} {cs : Scope} {a : Addr} {ccd : Value} {cl : List (Str × Addr)} {outer : List Env} {A₀ : Around} {base h₀ : Heap} {L : Addr} {m : Str → Option Value} {s : Shared} {Q E : Value → Shared → Prop}
/-- byteswap without its start -/
theorem swap_two {fv dv : Value} {b : Array UInt8} {dn itn bs : List (Addr × Obj)} {St : Nat → Obj → Prop} {P : Nat → Value → Prop} {Dn : Addr → Heap → Prop} {ns : List Int}
   (hv : DataOk (itn ++ dn) dv b) (B : Below A₀ base outer h₀) (F : Fr h₀ L s.heap m) (X : (Mine.hd.heap_1 w.params).In h₀) (T : Top p loose mean mg mb h₀) (hk : cs.kind = .function)
   (N : News h₀ L s.heap (itn ++ dn)) (hz : b.size < 900)
   (hI : IterS w bs St ns.length P Dn) (hO : Opens w bs itn fv St) (hP : ∀ i v, i < ns.length → P i v → IntsTo w v (ns.getD i 0)) (hr : ∀ c ∈ ns, -1000 < c ∧ c < 1000)
   (hbs : ∀ q ∈ bs, s.heap.get? q.1 = some q.2) (hbn : ∀ q ∈ bs, ∀ r ∈ itn ++ dn, q.1 ≠ r.1) (hdi : ∀ q ∈ dn, ∀ r ∈ itn, q.1 ≠ r.1)
   (hDn : ∀ I h h', Dn I h → (∀ o, h.get? I = some o → h'.get? I = some o) → Dn I h')
   (hd : dp + 8 < recursionLimit) (hu : un + 100 < cLine)
   (ret : ∀ v h' tk', Fr h₀ L h' m → Kept (itn.map (·.1)) s.heap h' → (∀ I o, itn = [(I, o)] → Dn I h') → Q (.bytes (ns.foldl (swStep b) (0, #[])).2 v) { s with heap := h', toks := tk' }) :
   wpX (model PG w) (ktrTop dp un gd cn cs L a ccd cl outer) (call (.ref 579) [fv, dv]) Q E s := by
  refine wpX_call ?_
  k_dflt ktr_enter
  rename_i g' L' hh FGg Fg Ng Bg Xg Tg hgk
  refine wpX_execs_cons (wpX_Assign_Name ?_)
  refine wpX_Call ?_
  k_fold
  k_steps
  refine wpX_callWith1 (K := Mine.hd.heap_1 w.params) (by k_is) ?_
  k_steps
  refine bio_tells hv (by k_asm) (by k_asm) (by k_asm) (by k_asm) rfl (by k_asm) (by omega) (by ktr_room) (by ktr_units) fun x1 dx1 ba1 t01 t11 t21 h1' tk1' F1 N1 l1 l2 l3 => ?_
  k_steps
  have a1 : @Ne Nat x1 dx1 := Nat.ne_of_gt l2
  have a2 : @Ne Nat ba1 dx1 := Nat.ne_of_gt (Nat.lt_trans l2 l3)
  refine wpX_execs_cons (wpX_Expr (wpX_MethodCall ?_))
  k_fold
  k_steps
  refine wpX_callWith1 (K := Mine.hd.heap_1 w.params) (by k_is) ?_
  k_steps
  rename Fr _ _ _ _ => F2
  rename News _ _ _ _ => N2
  refine wpX_of (seek_tells (by k_asm) (by k_asm) (by k_asm) (by k_asm) rfl (News.sub2 N2 (by k_mem) (by k_mem)) a1 (by decide) (by decide) (by ktr_room) (by ktr_units) fun v h3 tk3 t22 F3 k3 N3 => ?_)
  have N4 := news_step (full' := (x1, instObj 322 dx1) :: (dx1, bioD w t01 ba1 t11 (0 : Int) t22) :: (ba1, baObj b) :: (itn ++ dn)) N2 k3 N3 fun q hq => by
    rcases List.mem_cons.mp hq with rfl | hq
    · exact .inl (.tail _ (.head _))
    rcases List.mem_cons.mp hq with rfl | hq
    · exact .inl (.head _)
    rcases List.mem_cons.mp hq with rfl | hq
    · exact .inr ⟨.tail _ (.tail _ (.head _)), fun e => a2 (List.mem_singleton.mp e)⟩
    · exact .inr ⟨.tail _ (.tail _ (.tail _ hq)), fun e => Nat.lt_irrefl _ (by have := l1 q hq; rw [List.mem_singleton.mp e] at this; exact this)⟩
  clear N2 F2 N3 k3
  dsimp only
  refine wpX_execs_cons (wpX_Assign_Name ?_)
  refine wpX_Call ?_
  k_fold
  k_steps
  refine wpX_callWith0 (K := Mine.hd.heap_1 w.params) (by k_in) (by k_is) ?_
  dsimp only [List.append_nil, List.nil_append]
  refine bio0_tells (by k_asm) (by k_asm) (by k_asm) (by k_asm) rfl (by k_asm) (by ktr_room) (by ktr_units) fun x2 dx2 ba2 t02 t12 t2b h5 tk5 F5 N5 l4 l5 l6 => ?_
  k_steps
  refine wpX_execs_cons (wpX_For ?_)
  k_fold
  k_steps
  rename Fr _ _ _ _ => F7
  rename News _ _ _ _ => N7
  have hbg : ∀ q ∈ bs, g'.get? q.1 = some q.2 := fun q hq => hgk _ _ (fun e => by obtain ⟨r, hr', e'⟩ := List.mem_map.mp e; exact hbn q hq r hr' e'.symm) (hbs q hq)
  have o1 : @LT.lt Nat _ dx1 x1 := l2
  have o2 : @LT.lt Nat _ x1 ba1 := l3
  have o3 : @LT.lt Nat _ ba1 dx2 := l4 (ba1, baObj b) (by k_mem)
  have o4 : @LT.lt Nat _ dx2 x2 := l5
  have o5 : @LT.lt Nat _ x2 ba2 := l6
  refine opens_use (bs := bs) (core := (x2, instObj 322 dx2) :: (dx2, bioD w t02 ba2 t12 0 t2b) :: (ba2, baObj #[]) :: (x1, instObj 322 dx1) :: (dx1, bioD w t01 ba1 t11 (0 : Int) t22) :: (ba1, baObj b) :: dn) hO F7 (News.sub N7 fun q hq => mem6 hq) (fun q hq => F7.keep _ _ (hbg q hq)) ?_ (fun q hq r hr => hbn q hq r (List.mem_append_left _ hr)) fun I o h8 tk8 F8 N8 c8 b8 bI st8 hself => ?_
  · have lo : ∀ r ∈ itn, @LT.lt Nat _ r.1 dx1 := fun r hr => l1 r (List.mem_append_left _ hr)
    refine all6 ?_ ?_ ?_ ?_ ?_ ?_ hdi <;> (intro r hr; have := lo r hr; show @Ne Nat _ _; omega)
  have cIdx1 : @Ne Nat I dx1 := fun e => c8 (dx1, bioD w t01 ba1 t11 (0 : Int) t22) (by k_mem) e.symm
  have cIdx2 : @Ne Nat I dx2 := fun e => c8 (dx2, bioD w t02 ba2 t12 0 t2b) (by k_mem) e.symm
  have cIba2 : @Ne Nat I ba2 := fun e => c8 (ba2, baObj #[]) (by k_mem) e.symm
  have lq : ∀ q ∈ dn, @LT.lt Nat _ q.1 dx1 := fun q hq => l1 q (List.mem_append_right _ hq)
  refine swap_loop (b := b) (fun _ => True) (core := fun z ta tb => (x2, instObj 322 dx2) :: (dx2, bioD w t02 ba2 t12 (z.2.size : Int) tb) :: (ba2, baObj z.2) :: (x1, instObj 322 dx1) :: (dx1, bioD w t01 ba1 t11 (z.1 : Int) ta) :: (ba1, baObj b) :: dn) (z0 := (0, #[])) (ns := ns) hI (Nat.le_refl _) rfl rfl rfl rfl F8 rfl rfl N8 st8 hbg bI ?_ ?_ ?_ ?_
  · intro z ta tb q hq
    have hq' : q.1 ∈ ([(x2, instObj 322 dx2), (dx2, bioD w t02 ba2 t12 0 t2b), (ba2, baObj #[]), (x1, instObj 322 dx1), (dx1, bioD w t01 ba1 t11 (0 : Int) t22), (ba1, baObj b)] ++ dn).map (·.1) := by
      have := List.mem_map_of_mem (f := (·.1)) hq
      exact this
    obtain ⟨r, hr, e⟩ := List.mem_map.mp hq'
    exact e ▸ c8 r hr
  · unfold swOk
    show 0 + _ ≤ _
    omega
  · intro i v av bv h tk o' z ta tb hlt hPv ok F9 N9
    refine wpX_execs_cut 1 ?_
    dsimp only [List.take_succ_cons, List.take_zero]
    k_fold
    k_steps
    have hc := hr (ns.getD i 0) (by rw [List.getD_eq_getElem?_getD, List.getElem?_eq_getElem hlt]; exact List.getElem_mem hlt)
    refine hP i v hlt hPv _ _ _ _ fun tq tkq => ?_
    k_steps
    refine Stop.out (read_tells (by k_asm) (by k_asm) (by k_asm) (by k_asm) rfl (News.sub3 N9 (by k_mem) (by k_mem) (by k_mem)) a1 a2 (by omega) hc.1 hc.2 (by ktr_room) (by ktr_units) fun vg h10 tk10 t2r F10 k10 N10 => ?_)
    have N11 := news_step (full' := (I, o') :: (x2, instObj 322 dx2) :: (dx2, bioD w t02 ba2 t12 (z.2.size : Int) tb) :: (ba2, baObj z.2) :: (x1, instObj 322 dx1) :: (dx1, bioD w t01 ba1 t11 ((rdNew b.size z.1 (ns.getD i 0) : Nat) : Int) t2r) :: (ba1, baObj b) :: dn) N9 k10 N10 fun q hq => by
      rcases List.mem_cons.mp hq with rfl | hq
      · exact .inr ⟨.head _, fun e => cIdx1 (List.mem_singleton.mp e)⟩
      rcases List.mem_cons.mp hq with rfl | hq
      · exact .inr ⟨by k_mem, fun e => by have h9 : @Eq Nat _ _ := List.mem_singleton.mp e; dsimp only at h9; omega⟩
      rcases List.mem_cons.mp hq with rfl | hq
      · exact .inr ⟨by k_mem, fun e => by have h9 : @Eq Nat _ _ := List.mem_singleton.mp e; dsimp only at h9; omega⟩
      rcases List.mem_cons.mp hq with rfl | hq
      · exact .inr ⟨by k_mem, fun e => by have h9 : @Eq Nat _ _ := List.mem_singleton.mp e; dsimp only at h9; omega⟩
      rcases List.mem_cons.mp hq with rfl | hq
      · exact .inr ⟨by k_mem, fun e => by have h9 : @Eq Nat _ _ := List.mem_singleton.mp e; dsimp only at h9; omega⟩
      rcases List.mem_cons.mp hq with rfl | hq
      · exact .inl (.head _)
      rcases List.mem_cons.mp hq with rfl | hq
      · exact .inr ⟨by k_mem, fun e => by have h9 : @Eq Nat _ _ := List.mem_singleton.mp e; dsimp only at h9; omega⟩
      · exact .inr ⟨.tail _ (.tail _ (.tail _ (.tail _ (.tail _ (.tail _ (.tail _ hq)))))), fun e => by have h9 : @Eq Nat _ _ := List.mem_singleton.mp e; have := lq q hq; omega⟩
    clear N10
    k_steps
    rename Fr _ _ _ _ => F12
    refine bytes_rev (s := ⟨h10, _, _, _, _⟩) F12 N11 (by have := rdGot_size b z.1 (ns.getD i 0); omega) fun h13 t13 tk13 F13 N13 => ?_
    k_steps
    clear F9 N9 k10 N11
    refine wpX_execs_cons (wpX_Expr (wpX_MethodCall ?_))
    k_fold
    k_steps
    refine wpX_callWith1 (K := Mine.hd.heap_1 w.params) (by k_is) ?_
    k_steps
    rename Fr _ _ _ _ => F14
    rename News _ _ _ _ => N14
    have hsz := rdGot_size b z.1 (ns.getD i 0)
    refine write_tells (by k_asm) (by k_asm) (by k_asm) (by k_asm) rfl (News.sub3 N14 (by k_mem) (by k_mem) (by k_mem)) (by omega) (by omega) (by omega) (by unfold swOk at ok; omega) (by rw [Array.size_reverse]; omega) (by ktr_room) (by ktr_units) fun vw h15 tk15 t2w F15 k15 N15 => ?_
    have N16 := news_step (full' := (I, o') :: (x2, instObj 322 dx2) :: (dx2, bioD w t02 ba2 t12 (((z.2 ++ (rdGot b z.1 (ns.getD i 0)).reverse).size : Nat) : Int) t2w) :: (ba2, baObj (z.2 ++ (rdGot b z.1 (ns.getD i 0)).reverse)) :: (x1, instObj 322 dx1) :: (dx1, bioD w t01 ba1 t11 ((rdNew b.size z.1 (ns.getD i 0) : Nat) : Int) t2r) :: (ba1, baObj b) :: dn) N14 k15 N15 fun q hq => by
      have two : ∀ {y : Addr}, @Ne Nat y dx2 → @Ne Nat y ba2 → y ∉ [dx2, ba2] := fun n1 n2 e => by
        rcases List.mem_cons.mp e with e | e
        · exact n1 e
        · exact n2 (List.mem_singleton.mp e)
      rcases List.mem_cons.mp hq with rfl | hq
      · exact .inr ⟨.head _, two cIdx2 cIba2⟩
      rcases List.mem_cons.mp hq with rfl | hq
      · exact .inl (by k_mem)
      rcases List.mem_cons.mp hq with rfl | hq
      · exact .inl (by k_mem)
      rcases List.mem_cons.mp hq with rfl | hq
      · exact .inl (by k_mem)
      rcases List.mem_cons.mp hq with rfl | hq
      · exact .inr ⟨by k_mem, two (by omega) (by omega)⟩
      rcases List.mem_cons.mp hq with rfl | hq
      · exact .inr ⟨by k_mem, two (by omega) (by omega)⟩
      rcases List.mem_cons.mp hq with rfl | hq
      · exact .inr ⟨by k_mem, two (by omega) (by omega)⟩
      · exact .inr ⟨.tail _ (.tail _ (.tail _ (.tail _ (.tail _ (.tail _ (.tail _ hq)))))), two (by have := lq q hq; omega) (by have := lq q hq; omega)⟩
    dsimp only
    refine wpX_execs_nil ?_
    exact ⟨trivial, _, _, h15, tk15, t2r, t2w, rfl, F15, N16⟩
  · intro av bv h tk ta tb hall F9 N9 ok dn9
    refine wpX_of ?_
    k_fold
    k_steps
    refine Stop.out (getvalue_tells (by k_asm) (by k_asm) (by k_asm) (by k_asm) rfl (News.sub3 N9 (by k_mem) (by k_mem) (by k_mem)) (by unfold swOk at ok; omega) (by ktr_room) (by ktr_units) fun vg h10 tk10 F10 k10 => ?_)
    have N10 := News.kept N9 k10 (fun _ _ q => nomatch q)
    k_steps
    rw [List.take_length]
    exact ret _ _ _ (by k_asm) (kept_but (chg := itn) (same := dn) (News.sub N fun q hq => List.mem_append_right _ hq) (News.sub N10 fun q hq => .tail _ (.tail _ (.tail _ (.tail _ (.tail _ (.tail _ hq)))))) (by assumption))
      fun I' o' e => hself I' o' e ▸ hDn _ _ _ dn9 fun o => k10 _ o (fun q => nomatch q)
end

section
open PySem.Calls PySem.Spec
section
variable {prog : Program} {w : World} {A₀ : Around} {E : Value → Shared → Prop} {s' : Shared} {base g g₀ G : Heap} {outer : List Env} {L a e : Addr} {m : Str → Option Value} {name : Str} {scope : Scope} {cd : Value}
  {b₀ b₁ : Stmt} {suite suite₁ : List Stmt} {pos np pos₁ np₁ : Pos} {rest : List ExceptHandler} {Q : Flow → Shared → Prop} {news : List (Addr × Obj)} {KF : Frag}
  {p : Program} {loose : List Str} {mean : ExcName → Option Value} {mg mb : Str → Option Value} {x x₁ : Str} {X T' T₁ : String}
/-- the second clause catches -/
theorem caught_SN2 (R : RaisedSN base G (envOf name scope L a cd :: outer) e (.type X) news s'.heap) (F : Fr g L G m) (K : Below A₀ base outer g) (hsm : G.UpToSlots s'.heap) (XB : KF.In base) (TB : Top p loose mean mg mb base)
    (D : KtsDicts (outer.filterMap (·.frame)) g) (T0 : KtsTurn (outer.filterMap (·.frame)) g₀ g)
    (ex₁ : nsIn KF mainGlobals x₁ = some none) (hv₁ : bootBuiltins x₁ = some (.type T₁)) (hn₁ : x₁ ≠ "__name__")
    (hexc₁ : isSubtype (.type T₁) (.type "BaseException") = pure true) (hnt₁ : isSubtype (.type ((Manifest.find? T₁).elim "type" fun y => y.metatype)) (.type "tuple") = pure false) (hsub₁ : isSubtype (.type X) (.type T₁) = pure false)
    (ex : nsIn KF mainGlobals x = some none) (hv : bootBuiltins x = some (.type T')) (hn' : x ≠ "__name__")
    (hexc : isSubtype (.type T') (.type "BaseException") = pure true) (hnt : isSubtype (.type ((Manifest.find? T').elim "type" fun y => y.metatype)) (.type "tuple") = pure false) (hsub : isSubtype (.type X) (.type T') = pure true)
    (k : ∀ h' g', KtsTurn (outer.filterMap (·.frame)) g₀ g' → Fr g' L h' m → News g' L h' news → Below A₀ base outer g' → KF.In g' → Top p loose mean mg mb g' → KtsDicts (outer.filterMap (·.frame)) g' →
      wpAny (model prog w) ((A₀.deeper (envOf name scope L a cd)).mark (some (.ref e))) (execs (b₀ :: suite) (envOf name scope L a cd)) Q E { s' with heap := h' })
    (hk : scope.kind = .function := by rfl) (hx : (envOf name scope L a cd).kindOf x = some .globalImplicit := by rfl) (hd : (x == ("__debug__" : Str)) = false := by decide)
    (hx₁ : (envOf name scope L a cd).kindOf x₁ = some .globalImplicit := by rfl) (hd₁ : (x₁ == ("__debug__" : Str)) = false := by decide)
    (hE : PassesOwnAt (model prog w) ((A₀.deeper (envOf name scope L a cd)).mark (some (.ref e))) (A₀.deeper (envOf name scope L a cd)) (envOf name scope L a cd) E := by passes_own) :
    wpAny (model prog w) (A₀.deeper (envOf name scope L a cd)) (noteFrame (.ref e) (envOf name scope L a cd))
      (fun _ s₂ => wpAny (model prog w) (A₀.deeper (envOf name scope L a cd)) (setFlight (.ref e) none) (fun _ s₃ =>
        wpAny (model prog w) (A₀.deeper (envOf name scope L a cd)) (handleBy (.ref e) (envOf name scope L a cd) (.ExceptHandler (some (.Name x₁ np₁)) none (b₁ :: suite₁) pos₁ :: .ExceptHandler (some (.Name x np)) none (b₀ :: suite) pos :: rest)) Q E s₃) E s₂) E s' := by
  obtain ⟨B, a0, hB, hBG, hl, hfl⟩ := R
  have hL : B.get? L = none := by
    obtain ⟨_, ⟨L', _, hf, hn', _⟩, _⟩ := hfl.2.2.1
    obtain rfl : L = L' := Option.some.inj hf
    exact hn'
  refine wpAny_looks_onW (Around.frames_deeper K.stack) rfl hfl fun h₄ hheld₄ hsm₄ => ?_
  refine wpAny_landsW hheld₄ fun h₅ hheld hsm₅' => ?_
  have hsm₅ := hsm₄.trans hsm₅'
  obtain ⟨g₅, T₅, F₅, K₅⟩ := kts_ground K F hBG hheld.1 (hsm.trans hsm₅)
  have X₅ : KF.In g₅ := XB.keeps K₅.stays
  have P₅ : TopRead p loose mg mb g₅ := topRead_of (TB.keeps K₅.stays)
  obtain ⟨ob, hob, hobc⟩ := hheld.there
  refine wpAny_handleBy_builtin (X := X) (T := T₁) (b := false) hexc₁ hnt₁ hsub₁ (name_B F₅ X₅ P₅ ex₁ hv₁ hn₁ ⟨rfl, ⟨ob, hob, hobc⟩, ?_⟩ hk hx₁ hd₁)
  rw [if_neg (by decide)]
  refine wpAny_handleBy_builtin (X := X) (T := T') (b := true) hexc hnt hsub (name_B F₅ X₅ P₅ ex hv hn' ⟨rfl, ⟨ob, hob, hobc⟩, ?_⟩ hk hx hd)
  refine lands_againW hheld fun h₆ hfl₆ hsm₆ => ?_
  obtain ⟨g₆, T₆, F₆, K₆⟩ := kts_ground K F hBG hfl₆.1 ((hsm.trans hsm₅).trans hsm₆)
  have Nl : News g₆ L h₆ news := fun q hq => ⟨hfl₆.1 _ _ (hl q hq).1, (fun z => by have := (hl q hq).1; rw [z, hL] at this; cases this), T₆.none_ _ (kts_none F.keep (hl q hq).2.1)⟩
  have X₆ : KF.In g₆ := XB.keeps K₆.stays
  have P₆ : Top p loose mean mg mb g₆ := TB.keeps K₆.stays
  have D₆ : KtsDicts (outer.filterMap (·.frame)) g₆ := D.turn T₆
  exact wpAny_passesOwnAt hE (k h₆ g₆ (T0.trans T₆) F₆ Nl K₆ X₆ P₆ D₆)
end

section
variable {prog : Program} {w : World} {A₀ A : Around} {s : Shared} {base h₀ : Heap} {env : Env} {L : Addr} {m : Str → Option Value} {news : List (Addr × Obj)} {K : Frag} {p : Program} {loose : List Str} {mean : ExcName → Option Value} {mg mb : Str → Option Value}
    {R : Result → Shared → Prop} {name qual : Str} {params : Arguments} {body : List Stmt} {scope : Scope} {dV kV doc pm cdv ct oc : Value} {an od : Option Addr} {osl : Array (Option Value)} {f : Addr} {args : Args} {binds : List (Str × Value)}
/-- how a function leaves that has caught: the frames behind it are as they were up to their slots -/
def LeaveT (h₀ : Heap) (L : Addr) (m : Str → Option Value) (g : Heap) (R : Result → Shared → Prop) (v : Value) (s' : Shared) : Prop :=
  ∃ g' L' m' news', KtsTurn [L] g g' ∧ Fr g' L' s'.heap m' ∧ News g' L' s'.heap news' ∧ (Fr h₀ L s'.heap m → News h₀ L s'.heap news' → Kept [L] g s'.heap → R (.ok (.ret v)) s')
theorem code_defXT (B : Below A₀ base [] h₀) (F : Fr h₀ L s.heap m) (X₀ : K.In h₀) (N : News h₀ L s.heap news) (T : Top p loose mean mg mb h₀) (hA : A.frames = some [env]) (hf : env.frame = some L) (hke : env.scope.kind = .function)
    (ho : K.lookup f = some ⟨oc, od, .func (fnOf name qual params body scope dV kV doc pm an cdv ct), osl⟩) (hcd : codeIn K cdv qual = true) (hroom : A.depth < recursionLimit)
    (hbind : BindsTo s (fnOf name qual params body scope dV kV doc pm an cdv ct) args binds) (hloc : ∀ y ∈ binds, scope.names.lookup y.1 = some .local)
    (h : ∀ g L' h₁, Fr h₀ L g m → Fr g L' h₁ (fun y => binds.reverse.lookup y) → News g L' h₁ news → Below A base [env] g → K.In g → Top p loose mean mg mb g → Kept (news.map (·.1)) s.heap g → KtsDicts [L] g →
      wpX (model prog w) (A.deeper (envOf qual scope L' f cdv)) (execs body (envOf qual scope L' f cdv))
        (fun fl s' => LeaveT h₀ L m g R (match fl with | .ret v => v | _ => .none) s')
        (fun e s' => wpAny (model prog w) (A.deeper (envOf qual scope L' f cdv)) (leaving (envOf qual scope L' f cdv) e) (fun _ s'' => R (.error e) s'') (fun e' s'' => R (.error e') s'') s')
        { s with heap := h₁, toks := s.toks + binds.length })
    (hco : scope.isCoroutine = false) (hgen : scope.isGenerator = false) (hk : scope.kind = .function)
    (hcell : ∀ x ∈ scope.names, x.2 ≠ .cell) : codeX (model prog w) A (.call (.ref f) args) R s := by
  obtain ⟨FG, BG, st, _⟩ := groundX (R := R) B F N hA hf hke
  obtain ⟨oL, es, ep, hLg, hLd, hLr⟩ := FG.ns
  have nL₀ : h₀.get? L = none := kts_self F
  refine codeX_call_def (fd := fnOf name qual params body scope dV kV doc pm an cdv ct) (body := body) (binds := binds) hroom ((X₀.keeps F.keep) _ _ ho) rfl (T.nolimit.keeps F.keep) (codeRec_of (X₀.keeps F.keep) hcd) rfl hbind hcell hloc (fun h₁ hns hk₁ => ?_) hco hgen hk
  have hgk : Kept (news.map (·.1)) s.heap (hideAll s.heap (news.map (·.1))) := fun b o hb e => hideAll_get _ e hb
  refine wpX_mono (h _ s.heap.objs.size h₁ FG ⟨hns, fun b o e => hk₁ b o (of_hideAll _ e), Nat.le_of_eq (hideAll_size _ _)⟩
    (fun p hp => ⟨hk₁ _ _ (N p hp).1, Nat.ne_of_lt (Heap.lt_size (N p hp).1), hideAll_none _ (List.mem_map_of_mem hp)⟩) BG (X₀.keeps st) (T.keeps st) hgk
    (fun b hb => by rw [List.mem_singleton.mp hb]; exact ⟨oL, es, ep, hLg, hLd⟩)) (fun fl s' hl => ?_) fun _ _ y => y
  obtain ⟨g', L', m', news', T', F', N', k⟩ := hl
  obtain ⟨sl, hs⟩ := T'.up hLg
  refine k ⟨⟨_, es, ep, F'.keep _ _ hs, hLd, hLr⟩, fun b o e => F'.keep b o (T'.other b o (st b o e) (fun q => by
    rw [List.mem_singleton.mp q, nL₀] at e
    cases e)), F.above⟩ (fun p hp => ⟨(N' p hp).1, fun q => ?_, ?_⟩) fun b o hb e => F'.keep b o (T'.other b o e hb)
  · have := (N' p hp).2.2; rw [q, hs] at this; cases this
  · cases q : h₀.get? p.1 with
    | none => rfl
    | some o =>
      obtain ⟨sl', hs'⟩ := T'.up (st _ _ q)
      have := (N' p hp).2.2
      rw [hs'] at this
      cases this
end
end

section
open PySem.Calls
section
variable {w : World} {bs : List (Addr × Obj)} {St : Nat → Obj → Prop} {n : Nat} {P : Nat → Value → Prop}
theorem IterS.of_walks (fp : Addr → List Addr) (Stw : Addr → Nat → Heap → Prop) (W : ∀ (A : Around), A.handled = none → ∀ I, (∀ q ∈ bs, q.1 ≠ I) → Walks PG w A I (fp I) [I] n P (Stw I))
    (to : ∀ I i o h, (∀ q ∈ bs, h.get? q.1 = some q.2) → h.get? I = some o → St i o → Stw I i h) (fro : ∀ I i h, Stw I i h → ∃ o, h.get? I = some o ∧ St i o) : IterS w bs St n P (fun _ _ => True) where
  item := fun A hh i I o s Q E hi hb hI he hs hQ => (W A hh I hI).item i s Q E hi (to I i o s.heap hb he hs) fun v h' tk hv st hk => by
    obtain ⟨o', e, st'⟩ := fro I _ _ st
    exact hQ v o' h' tk hv st' e hk
  done := fun A hh I o s Q E hb hI he hs hQ => (W A hh I hI).done s Q E (to I n o s.heap hb he hs) fun h' tk hk => hQ h' tk trivial hk
theorem IterS.weak {P' : Nat → Value → Prop} {Dn : Addr → Heap → Prop} (x : IterS w bs St n P Dn) (h : ∀ i v, P i v → P' i v) : IterS w bs St n P' Dn where
  item := fun A hh i I o s Q E hi hb hI he hs hQ => x.item A hh i I o s Q E hi hb hI he hs fun v o' h' tk hv => hQ v o' h' tk (h i v hv)
  done := x.done
end
abbrev recIt (T : String) (vs : Array Value) (o : Obj) : Prop := o.cls = .type T ∧ o.data = .fields vs
section
variable {w : World}
theorem iter_list {l : Addr} {vs : Array Value} {e : Nat} : IterS w [(l, listOf vs e)] (fun i o => recIt "list_iterator" #[.ref l, .int i 0] o) vs.size (fun i v => vs[i]? = some v) (fun _ _ => True) :=
  IterS.of_walks (fun I => [I, l]) (fun I i h => h.IsListIter I l i ∧ h.IsList l vs) (fun A hh I hI => Walks.list hh I l (hI _ (.head _)) vs)
    (fun I i o h hb he hs => ⟨⟨o, he, hs⟩, ⟨_, hb _ (.head _), rfl, _, rfl⟩⟩) fun I i h hs => hs.1
theorem opens_list {l : Addr} {vs : Array Value} {e : Nat} : Opens w [(l, listOf vs e)] [] (.ref l) (fun i o => recIt "list_iterator" #[.ref l, .int i 0] o) :=
  .inl ⟨rfl, fun A Q E s hb hQ => wpAny_pyIter_list ⟨_, hb _ (.head _), rfl, _, rfl⟩ (hQ _ s.toks ⟨rfl, rfl⟩ rfl)⟩
theorem iter_tuple {l : Addr} {vs : Array Value} {ob : Obj} {e : Nat} (hc : ob.cls = .type "tuple") (hd : ob.data = .seq vs e) : IterS w [(l, ob)] (fun i o => recIt "tuple_iterator" #[.ref l, .int i 0] o) vs.size (fun i v => vs[i]? = some v) (fun _ _ => True) :=
  IterS.of_walks (fun I => [I, l]) (fun I i h => h.IsTupleIter I l i ∧ h.IsTuple l vs) (fun A hh I hI => Walks.tuple hh I l (hI _ (.head _)) vs)
    (fun I i o h hb he hs => ⟨⟨o, he, hs⟩, ⟨_, hb _ (.head _), hc, _, hd⟩⟩) fun I i h hs => hs.1
theorem opens_tuple {l : Addr} {vs : Array Value} {ob : Obj} {e : Nat} (hc : ob.cls = .type "tuple") (hd : ob.data = .seq vs e) : Opens w [(l, ob)] [] (.ref l) (fun i o => recIt "tuple_iterator" #[.ref l, .int i 0] o) :=
  .inl ⟨rfl, fun A Q E s hb hQ => wpAny_pyIter_tuple ⟨_, hb _ (.head _), hc, _, hd⟩ (hQ _ s.toks ⟨rfl, rfl⟩ rfl)⟩
theorem iter_dict {K : Type} [DecidableEq K] {knd : KeyKind PG w K} {d : Addr} {ob : Obj} {kvs : List (K × Value)} {ep : Nat} (hd : ∀ h : Heap, h.get? d = some ob → h.DictAt knd d kvs ep) :
    IterS w [(d, ob)] (fun i o => recIt "dict_keyiterator" #[.ref d, .int i 0, .int kvs.length 0, .int ep 0] o) kvs.length (fun i v => ∃ k x, kvs[i]? = some (k, x) ∧ knd.is k v = true) (fun _ _ => True) :=
  IterS.of_walks (fun I => [I, d]) (fun I i h => h.IsKeyIter I d i kvs.length ep ∧ h.DictAt knd d kvs ep) (fun A hh I hI => Walks.dictKeys hh I d (hI _ (.head _)) kvs ep)
    (fun I i o h hb he hs => ⟨⟨o, he, hs⟩, hd h (hb _ (.head _))⟩) fun I i h hs => hs.1
theorem opens_dict {K : Type} [DecidableEq K] {knd : KeyKind PG w K} {d : Addr} {ob : Obj} {kvs : List (K × Value)} {ep : Nat} (hs : (d == sysModules) = false) (hd : ∀ h : Heap, h.get? d = some ob → h.DictAt knd d kvs ep) :
    Opens w [(d, ob)] [] (.ref d) (fun i o => recIt "dict_keyiterator" #[.ref d, .int i 0, .int kvs.length 0, .int ep 0] o) :=
  .inl ⟨rfl, fun A Q E s hb hQ => wpAny_pyIter_dict hs (hd s.heap (hb _ (.head _))) (hQ _ s.toks ⟨rfl, rfl⟩ rfl)⟩
theorem iter_bytes {b : Array UInt8} {t : Tok} : IterS w [] (fun i o => recIt "bytes_iterator" #[.bytes b t, .int i 0] o) b.size (fun i v => ∃ c u, b[i]? = some c ∧ v = .int c.toNat u) (fun _ _ => True) :=
  IterS.of_walks (fun I => [I]) (fun I i h => KBw.IsBytesIter h I b t i) (fun A hh I _ => KBw.walks hh I b t) (fun I i o h hb he hs => ⟨o, he, hs⟩) fun I i h hs => hs
theorem opens_bytes {b : Array UInt8} {t : Tok} : Opens w [] [] (.bytes b t) (fun i o => recIt "bytes_iterator" #[.bytes b t, .int i 0] o) :=
  .inl ⟨rfl, fun A Q E s hb hQ => KBw.pyIter_bytes (hQ _ s.toks ⟨rfl, rfl⟩ rfl)⟩
theorem iter_range {r : Addr} {a c : Int} {n : Nat} {bs : List (Addr × Obj)} : IterS w bs (fun i o => o = { cls := .type "range_iterator", dict := none, data := .fields #[rawInt (a + (i : Nat) * c), rawInt ((n : Int) - (i : Nat)), rawInt c], slots := #[] }) n (fun i v => ∃ t, v = .int (a + i * c) t) (fun _ _ => True) :=
  IterS.of_walks (fun I => [I]) (fun I i h => IsRangeIter h I (a + (i : Nat) * c) ((n : Int) - (i : Nat)) c) (fun A hh I hI => Walks.range hh I a c n)
    (fun I i o h hb he hs => by subst hs; exact he) fun I i h hs => ⟨_, hs, rfl⟩
theorem opens_range {r : Addr} {a b c : Int} {t u v : Tok} {n : Nat} (hs : Builtin.Range.small a b c = true) (hn : Builtin.Range.rangeSize a b c = (n : Int)) :
    Opens w [(r, { cls := .type "range", dict := none, data := .fields #[.int a t, .int b u, .int c v], slots := #[] })] [] (.ref r) (fun i o => o = { cls := .type "range_iterator", dict := none, data := .fields #[rawInt (a + (i : Nat) * c), rawInt ((n : Int) - (i : Nat)), rawInt c], slots := #[] }) :=
  .inl ⟨rfl, fun A Q E s hb hQ => wpAny_pyIter_range (hb _ (.head _)) hs (hQ _ s.toks (by rw [hn]; simp) rfl)⟩
end
end

section
open PySem.Calls PySem.Spec
variable {w : World} {p : Program} {loose : List Str} {mean : ExcName → Option Value} {mg mb : Str → Option Value} {dp un : Nat} {gd : Option (List Code)} {cn : Str} {cs : Scope} {a : Addr} {ccd : Value} {cl : List (Str × Addr)} {outer : List Env} {A₀ : Around} {base h₀ : Heap} {L : Addr} {m : Str → Option Value} {s : Shared} {Q E : Value → Shared → Prop}
/-- byteswap raises -/
def SwapRaises (w : World) (fv dv : Value) (start : Int) (ts : Tok) (dn bs : List (Addr × Obj)) (cls : String) : Prop :=
  ∀ {p : Program} {loose : List Str} {mean : ExcName → Option Value} {mg mb : Str → Option Value} {dp un : Nat} {gd : Option (List Code)} {cn : Str} {cs : Scope} {a : Addr} {ccd : Value} {cl : List (Str × Addr)} {outer : List Env} {A₀ : Around} {base h₀ : Heap} {L : Addr} {m : Str → Option Value} {s : Shared} {Q E : Value → Shared → Prop},
    Below A₀ base outer h₀ → Fr h₀ L s.heap m → (Mine.hd.heap_1 w.params).In h₀ → Top p loose mean mg mb h₀ → cs.kind = .function → News h₀ L s.heap dn → (∀ q ∈ bs, s.heap.get? q.1 = some q.2) →
    dp + 8 < recursionLimit → un + 100 < cLine → RaisTo base h₀ (envX cn cs L a ccd cl :: outer) L m cls dn E s →
    wpX (model PG w) (ktrTop dp un gd cn cs L a ccd cl outer) (call (.ref 579) [fv, dv, .int start ts]) Q E s
theorem raises_start {fv dv : Value} {start : Int} {ts : Tok} {b : Array UInt8} {dn : List (Addr × Obj)} (hv : DataOk dn dv b) (hz : b.size < 900) (h0 : start < 0) (h1 : -1000 < start) : SwapRaises w fv dv start ts dn [] "ValueError" :=
  fun B F X T hk N _ hd hu rais => swap_start hv B F X T hk N hz h0 h1 hd hu rais
theorem raises_item {dv : Value} {start : Int} {ts : Tok} {b : Array UInt8} {dn : List (Addr × Obj)} {l : Addr} {vs : Array Value} {e sp : Nat} {cls : String} {ns : List Int} (hv : DataOk dn dv b) (hz : b.size < 900) (h0 : 0 ≤ start) (h1 : start < 1000000)
    (hn : vs.size = ns.length) (hsp : sp < ns.length) (hr : ∀ c ∈ ns, -1000 < c ∧ c < 1000) (hvs : ∀ i v, vs[i]? = some v → (i ≠ sp → IntsTo w v (ns.getD i 0)) ∧ (i = sp → IntBad w v cls)) (hl : ∀ r ∈ dn, l ≠ r.1) :
    SwapRaises w (.ref l) dv start ts dn [(l, listOf vs e)] cls :=
  fun B F X T hk N hbs hd hu rais => swap_any (itn := []) (bs := [(l, listOf vs e)]) (sp := sp) (cls := cls) hv B F X T hk N hz h0 h1 (hn ▸ iter_list) opens_list (fun i v _ hp => hvs i v hp) hr hbs (fun q hq r hr' => by rw [List.mem_singleton.mp hq]; exact hl r hr') (fun _ _ _ q => nomatch q) (fun _ _ _ _ _ => trivial) hd hu
    (fun _ => rais) fun _ _ _ q => absurd hsp q
theorem kept_told {h g h4 : Heap} {dn : List (Addr × Obj)} (N : News h₀ L h dn) (N9 : News h₀ L h4 dn) (hgk : Kept (dn.map (·.1)) h g) (K9 : Kept [L] g h4) : Kept [L] h h4 := fun b o hb e => by
  by_cases hm : b ∈ dn.map (·.1)
  · obtain ⟨q, hq, rfl⟩ := List.mem_map.mp hm
    have e2 := (N q hq).1
    rw [e] at e2
    rw [(N9 q hq).1, e2]
  · exact K9 _ _ hb (hgk _ _ hm e)
theorem told_raises {fv dv : Value} {start : Int} {ts : Tok} {dn bs : List (Addr × Obj)} {cls : String} {res : Str} (hc : cls = "ValueError" ∧ res = "value" ∨ cls = "TypeError" ∧ res = "type") (hS : SwapRaises w fv dv start ts dn bs cls)
   (B : Below A₀ base [] h₀) (F : Fr h₀ L s.heap m) (X : (Mine.hd.heap_1 w.params).In h₀) (T : Top p loose mean mg mb h₀) (XB : (Mine.hd.heap_1 w.params).In base) (TB : Top p loose mean mg mb base) (hk : cs.kind = .function)
   (N : News h₀ L s.heap dn) (hbs : ∀ q ∈ bs, s.heap.get? q.1 = some q.2) (hbn : ∀ q ∈ bs, ∀ r ∈ dn, q.1 ≠ r.1)
   (hd : dp + 12 < recursionLimit) (hu : un + 140 < cLine)
   (ret : ∀ t h' tk', Fr h₀ L h' m → Kept [L] s.heap h' → Q (.str res t) { s with heap := h', toks := tk' }) :
   wpX (model PG w) (ktrTop dp un gd cn cs L a ccd cl []) (call (.ref 614) [fv, dv, .int start ts]) Q E s := by
  refine wpX_call ?_
  k_dflt (refine' code_defXT ?k1 ?k2 ?k3 ?k4 ?k5 ?kA ?kF ?kK ?k6 ?k7 ?k8 ?k9 ?kB ?_ ?c2 ?c3 ?c4 ?c5; (case kA => exact rfl); (case kF => exact rfl); (case kK => first | exact rfl | assumption); (case k1 => k_asm); (case k2 => k_asm); (case k3 => k_asm); (case k4 => k_asm); (case k5 => k_asm); (case k6 => k_is); (case k7 => k_is); (case k8 => ktr_room); (case k9 => first | exact BindsTo.of_eq rfl | exact binds_K (by k_in) rfl (by k_is) rfl rfl rfl); (case c5 => decide); (case kB => exact locs rfl); (case c2 => exact rfl); (case c3 => exact rfl); (case c4 => exact rfl); k_whole; intro g' L' hh FGg Fg Ng Bg Xg Tg hgk Dg; (try dsimp only))
  refine wpX_execs_cons (wpX_Try_except ?_)
  refine wpX_execs_cons (wpX_Return_some (wpX_Call ?_))
  k_fold
  k_steps
  refine wpX_callWith1 (K := Mine.hd.heap_1 w.params) (by k_is) ?_
  k_steps
  refine hS Bg Fg Xg Tg rfl Ng (fun q hq => Fg.keep _ _ (hgk _ _ (fun z => by obtain ⟨r, hr, e'⟩ := List.mem_map.mp z; exact hbn q hq r hr e'.symm) (hbs q hq))) (by ktr_room) (by ktr_units) fun G e h3 tk3 FG R U => ?_
  rcases hc with ⟨rfl, rfl⟩ | ⟨rfl, rfl⟩
  · k_dflt (refine' caught_SN0 (T' := "ValueError") R FG Bg U XB TB Dg KtsTurn.refl ?ex PyProof.Rows.Boot.«ValueError» ?hn PySem.F.isExc_ValueError PySem.F.notTuple_ValueError ?hs ?_; (case hs => kts_sub); (case ex => k_is); (case hn => decide); k_whole)
    intro h4 g4 T4 F4 N4 K4 X4 P4 D4
    k_fold
    k_steps
    exact ⟨g4, L', _, dn, T4, F4, N4, fun F9 N9 K9 => ret _ _ _ F9 (kept_told N N9 hgk K9)⟩
  · k_dflt (refine' caught_SN2 (T₁ := "ValueError") (T' := "TypeError") R FG Bg U XB TB Dg KtsTurn.refl ?ex1 PyProof.Rows.Boot.«ValueError» ?hn1 PySem.F.isExc_ValueError PySem.F.notTuple_ValueError ?hs1 ?ex PyProof.Rows.Boot.«TypeError» ?hn PySem.F.isExc_TypeError PySem.F.notTuple_TypeError ?hs ?_; (case hs => kts_sub); (case hs1 => rw [isSubtype_type]; kernel_rfl); (case ex => k_is); (case hn => decide); (case ex1 => k_is); (case hn1 => decide); k_whole)
    intro h4 g4 T4 F4 N4 K4 X4 P4 D4
    k_fold
    k_steps
    exact ⟨g4, L', _, dn, T4, F4, N4, fun F9 N9 K9 => ret _ _ _ F9 (kept_told N N9 hgk K9)⟩
end

section
open PySem.Calls
variable {w : World} {p : Program} {loose : List Str} {mean : ExcName → Option Value} {mg mb : Str → Option Value} {dp un : Nat} {gd : Option (List Code)} {cn : Str} {cs : Scope} {a : Addr} {ccd : Value} {cl : List (Str × Addr)} {outer : List Env} {A₀ : Around} {base h₀ : Heap} {L : Addr} {m : Str → Option Value} {s : Shared} {Q E : Value → Shared → Prop}
theorem draw_tells {bx fw : Addr} {vs : List Value} {ns : List Int} {k lim : Int} {tk t : Tok} {e1 e2 : Nat} (B : Below A₀ base outer h₀) (F : Fr h₀ L s.heap m) (X : (Mine.hd.heap_1 w.params).In h₀) (T : Top p loose mean mg mb h₀) (hk : cs.kind = .function)
   (N : News h₀ L s.heap [(bx, listOf #[.ref fw, .int k tk] e1), (fw, listOf vs.toArray e2)])
   (hne : @Ne Nat bx fw)
   (hi : IntsAre vs ns) (hns : 0 < ns.length) (hlen : ns.length ≤ 40) (hpos : ∀ n ∈ ns, 0 ≤ n ∧ n < 1000003) (h0 : 0 ≤ k) (h1 : k < 2^40) (hl : 0 < lim) (hl2 : lim ≤ 256)
   (hd : dp + 1 < recursionLimit) (hu : un + 8 < cLine)
   (ret : ∀ r t h' tk' t', 0 ≤ r → r < lim → Fr h₀ L h' m → Kept [bx] s.heap h' → News h₀ L h' [(bx, listOf #[.ref fw, .int (k+1) t'] e1), (fw, listOf vs.toArray e2)] → Q (.int r t) { s with heap := h', toks := tk' }) :
   wpAny (model PG w) (ktrTop dp un gd cn cs L a ccd cl outer) (call (.ref 586) [.ref bx, .int lim t]) Q E s := by
  refine wpAny_call ?_
  k_dflt cell_enter
  k_steps
  all_goals exact ret _ _ _ _ _ (Int.fmod_nonneg_of_pos _ hl) (Int.fmod_lt_of_pos _ hl) (by k_asm) (kept_but (chg := [(bx, listOf #[.ref fw, .int k tk] e1)]) (same := [(fw, listOf vs.toArray e2)]) (News.sub1 N (by k_mem)) (News.sub1 (by with_reducible assumption) (by k_mem)) (by assumption)) (by assumption)
end

section
open PySem.Calls
section
variable {M : Model} {A : Around} {E : Value → Shared → Prop} {s : Shared} {env : Env}
theorem wpA_app {Γ : PySem.Ctx} (hΓ : Γ.In A) {rest : List Stmt} {Q : Flow → Shared → Prop} : ∀ {pre : List Stmt} {p : Pos} {s : Shared},
    Sem.wp M Γ (execs pre env) (fun f _ s' => match f with | .next => wpAny M A (execs rest env) Q E s' | f => Q f s') (fun e _ s' => E e s') p s →
    Sem.wp M Γ (execs (pre ++ rest) env) (fun f _ s' => Q f s') (fun e _ s' => E e s') p s
  | [], p, s, h => (show wpAny M A (execs rest env) Q E s from h) Γ p hΓ
  | st :: pre, p, s, h => by
    rw [execs_cons, Sem.wp_bind'] at h
    show Sem.wp M Γ (execs (st :: (pre ++ rest)) env) _ _ p s
    rw [execs_cons, Sem.wp_bind']
    refine Sem.wp_mono M Γ _ (fun f p' s' h' => ?_) (fun _ _ _ e => e) p s h
    cases f with
    | next => exact wpA_app hΓ h'
    | _ => exact h'
/-- the first n statements up to a joint, then the rest -/
theorem wpA_mid (n : Nat) (Mid : Shared → Prop) {l : List Stmt} {Q : Flow → Shared → Prop}
    (h1 : wpAny M A (execs (l.take n) env) (fun f s' => match f with | .next => Mid s' | f => Q f s') E s) (h2 : ∀ s', Mid s' → wpAny M A (execs (l.drop n) env) Q E s') : wpAny M A (execs l env) Q E s := by
  intro Γ p hΓ
  have := wpA_app hΓ (pre := l.take n) (rest := l.drop n) (Q := Q) ((wpAny_mono h1 (fun f s' z => by cases f with | next => exact h2 s' z | _ => exact z) fun _ _ e => e) Γ p hΓ)
  rwa [List.take_append_drop] at this
theorem wpX_mid (n : Nat) (Mid : Shared → Prop) {l : List Stmt} {Q : Flow → Shared → Prop}
    (h1 : wpAny M A (execs (l.take n) env) (fun f s' => match f with | .next => Mid s' | f => Q f s') E s) (h2 : ∀ s', Mid s' → wpX M A (execs (l.drop n) env) Q E s') : wpX M A (execs l env) Q E s :=
  wpX_execs_cut n (wpAny_mono h1 (fun f s' z => by cases f with | next => exact h2 s' z | _ => exact z) fun _ _ e => e)
theorem wpX_midX (n : Nat) (Mid : Shared → Prop) {l : List Stmt} {Q : Flow → Shared → Prop}
    (h1 : wpX M A (execs (l.take n) env) (fun f s' => match f with | .next => Mid s' | f => Q f s') E s) (h2 : ∀ s', Mid s' → wpX M A (execs (l.drop n) env) Q E s') : wpX M A (execs l env) Q E s := by
  intro Γ p hΓ hb hc
  have := wp_execs_app hΓ hb hc (pre := l.take n) (rest := l.drop n) (Q := Q) ((wpX_mono h1 (fun f s' z => by cases f with | next => exact h2 s' z | _ => exact z) fun _ _ e => e) Γ p hΓ hb hc)
  rwa [List.take_append_drop] at this
end
section
variable {w : World} {A : Around} {s : Shared} {g : Heap} {m : Str → Option Value} {bs : List (Addr × Obj)} {St : Nat → Obj → Prop} {P : Nat → Value → Prop} {Dn : Addr → Heap → Prop}
/-- a for-loop over an iterator, its state in words -/
theorem forA {R : Result → Shared → Prop} {x : Str} {px : Pos} {body : List Stmt} {env : Env} {I : Addr} {o : Obj} {n : Nat} {core : List (Addr × Obj)}
    (Inv : Nat → List (Addr × Obj) → (Str → Option Value) → Prop)
    (hI : IterS w bs St n P Dn) (hA : A.handled = none) (hkf : env.kindOf x = some .local) (hp : (env.scope.kind == .class || (env.scope.kind == .module && env.locals != env.globals)) = false)
    (F : Fr g env.locals s.heap m) (N : News g env.locals s.heap ((I, o) :: core)) (st : St 0 o) (hcI : ∀ q ∈ core, q.1 ≠ I) (hbg : ∀ q ∈ bs, g.get? q.1 = some q.2) (hbI : ∀ q ∈ bs, q.1 ≠ I) (h0 : Inv 0 core m)
    (hbody : ∀ (i : Nat) (v : Value) (m : Str → Option Value) (h : Heap) (tk : Nat) (o' : Obj) (core : List (Addr × Obj)), i < n → P i v → Inv i core m → (∀ q ∈ core, q.1 ≠ I) →
      Fr g env.locals h (fun q => if q = x then some v else m q) → News g env.locals h ((I, o') :: core) →
      wpAny (model PG w) A (execs body env) (fun f s₃ => match f with
        | .next => Stop (∃ m' core' h' tk', s₃ = { s with heap := h', toks := tk' } ∧ Fr g env.locals h' m' ∧ News g env.locals h' ((I, o') :: core') ∧ (∀ q ∈ core', q.1 ≠ I) ∧ Inv (i + 1) core' m')
        | .ret v => R (.ok (.ret v)) s₃
        | _ => False) (notedBy (model PG w) A env fun e s' => R (.error e) s') { s with heap := h, toks := tk })
    (hR : ∀ m core h tk, Inv n core m → Fr g env.locals h m → News g env.locals h core → Dn I h → R (.ok .next) { s with heap := h, toks := tk }) :
    codeAny (model PG w) A (.forLoop (.Name x px) (.ref I) body [] env) R s := by
  refine codeAny_forLoop (fun k s' => ∃ i m core h tk o', k = n - i ∧ i ≤ n ∧ s' = { s with heap := h, toks := tk } ∧ Fr g env.locals h m ∧ St i o' ∧ Inv i core m ∧ (∀ q ∈ core, q.1 ≠ I) ∧ News g env.locals h ((I, o') :: core)) ?_ n
    ⟨0, m, core, s.heap, s.toks, o, rfl, Nat.zero_le _, rfl, F, st, h0, hcI, N⟩
  rintro k s' ⟨i, m, core, h, tk, o', rfl, hi, rfl, F1, st1, iv, hcI, N1⟩
  have NI := N1 _ (.head _)
  have hb1 : ∀ q ∈ bs, h.get? q.1 = some q.2 := fun q hq => F1.keep _ _ (hbg q hq)
  have hIL : env.locals ∉ [I] := by intro q; exact NI.2.1 (List.mem_singleton.mp q).symm
  have hI0 : ∀ c ∈ [I], g.get? c = none := by intro c q; rw [List.mem_singleton.mp q]; exact NI.2.2
  by_cases hlt : i < n
  · refine hI.item A hA i I o' _ _ _ hlt hb1 hbI NI.1 st1 fun v o2 h2 tk2 hv st2 e2 k2 => ?_
    have F2 := Fr.kept F1 k2 hIL hI0
    have N2 : News g env.locals h2 ((I, o2) :: core) := by
      intro q hq
      rcases List.mem_cons.mp hq with rfl | hq
      · exact ⟨e2, NI.2⟩
      · exact ⟨k2 _ _ (fun e => hcI q hq (List.mem_singleton.mp e)) (N1 q (.tail _ hq)).1, (N1 q (.tail _ hq)).2⟩
    refine wpAny_assign_Name (wpAny_storeName_local hkf F2.ns (fun h3 hn3 hs3 => ?_) hp)
    refine wpAny_mono (hbody i v m h3 _ o2 core hlt hv iv hcI (F2.set hn3 hs3) (N2.set hs3)) (fun f s₃ z => ?_) fun _ _ z => z
    cases f with
    | next =>
      obtain ⟨m', core', h', tk', rfl, F4, N4, c4, iv'⟩ := z
      exact ⟨n - (i + 1), by omega, i + 1, m', core', h', tk', o2, rfl, hlt, rfl, F4, st2, iv', c4, N4⟩
    | cont => exact z.elim
    | brk => exact z.elim
    | ret _ => exact z
  · have hin : i = n := by omega
    subst hin
    refine hI.done A hA I o' _ _ _ hb1 hbI NI.1 st1 fun h2 tk2 dn2 k2 => ?_
    exact wpAny_execs_nil (hR m core h2 tk2 iv (Fr.kept F1 k2 hIL hI0) (fun q hq => ⟨k2 _ _ (fun e => hcI q hq (List.mem_singleton.mp e)) (N1 q (.tail _ hq)).1, (N1 q (.tail _ hq)).2⟩) dn2)
end
end
section
variable {prog : Program} {w : World} {A A₀ : Around} {E : Value → Shared → Prop} {s : Shared} {K : Frag} {C L : Addr} {h₀ base : Heap} {m mg mb : Str → Option Value} {news : List (Addr × Obj)} {p : Program} {loose : List Str} {mean : ExcName → Option Value}
  {env : Env} {outer : List Env} {R : Result → Shared → Prop} {name qual : Str} {params : Arguments} {body : List Stmt} {scope : Scope} {dV kV doc pm cdv ct oc : Value} {an od : Option Addr} {osl : Array (Option Value)} {f : Addr} {args : Args} {binds : List (Str × Value)}

theorem code_defK
    (B : Below A₀ base outer h₀) (F : Fr h₀ L s.heap m) (X₀ : K.In h₀) (N : News h₀ L s.heap news) (T : Top p loose mean mg mb h₀) (hA : A.frames = some (env :: outer)) (hf : env.frame = some L) (hke : env.scope.kind = .function)
    (ho : K.lookup f = some ⟨oc, od, .func (fnOf name qual params body scope dV kV doc pm an cdv ct), osl⟩) (hcd : codeIn K cdv qual = true) (hroom : A.depth < recursionLimit)
    (hbind : BindsTo s (fnOf name qual params body scope dV kV doc pm an cdv ct) args binds) (hloc : ∀ y ∈ binds, scope.names.lookup y.1 = some .local)
    (h : ∀ g L' h₁, Fr h₀ L g m → Fr g L' h₁ (fun y => binds.reverse.lookup y) → News g L' h₁ news → Below A base (env :: outer) g → K.In g → Top p loose mean mg mb g → Kept (news.map (·.1)) s.heap g →
      wpAny (model prog w) (A.deeper (envOf qual scope L' f cdv)) (execs body (envOf qual scope L' f cdv))
        (fun fl s' => LeaveK h₀ L m g (fun r s'' => Kept (news.map (·.1)) s.heap s''.heap → R r s'') (match fl with | .ret v => v | _ => .none) s')
        (fun e s' => wpAny (model prog w) (A.deeper (envOf qual scope L' f cdv)) (leaving (envOf qual scope L' f cdv) e) (fun _ s'' => R (.error e) s'') (fun e' s'' => R (.error e') s'') s')
        { s with heap := h₁, toks := s.toks + binds.length })
    (hco : scope.isCoroutine = false) (hgen : scope.isGenerator = false) (hk : scope.kind = .function)
    (hcell : ∀ x ∈ scope.names, x.2 ≠ .cell) : codeAny (model prog w) A (.call (.ref f) args) R s := by
  obtain ⟨FG, BG, st, lv⟩ := groundX (R := R) B F N hA hf hke
  refine codeAny_call_def (fd := fnOf name qual params body scope dV kV doc pm an cdv ct) (body := body) (binds := binds) hroom ((X₀.keeps F.keep) _ _ ho) rfl (T.nolimit.keeps F.keep) (codeRec_of (X₀.keeps F.keep) hcd) rfl hbind hcell hloc (fun h₁ hns hk₁ => ?_) hco hgen hk
  exact wpAny_mono (h _ s.heap.objs.size h₁ FG ⟨hns, fun b o e => hk₁ b o (of_hideAll _ e), Nat.le_of_eq (hideAll_size _ _)⟩
    (fun p hp => ⟨hk₁ _ _ (N p hp).1, Nat.ne_of_lt (Heap.lt_size (N p hp).1), hideAll_none _ (List.mem_map_of_mem hp)⟩) BG (X₀.keeps st) (T.keeps st) (fun b o hb e => hideAll_get _ e hb))
    (fun fl s' hl => lv _ _ (leaveK_kept (fun b o hb e => hideAll_get _ e hb) hl)) fun _ _ y => y

end
section
variable {w : World} {A : Around} {s : Shared}
theorem whileA {R : Result → Shared → Prop} {test : Expr} {body : List Stmt} {env : Env} (I : Nat → Shared → Prop)
    (turn : ∀ n s, I n s → wpAny (model PG w) A (isTrue test env (eval test env)) (fun b s₂ => if b = true then wpAny (model PG w) A (execs body env) (fun f s₃ => match f with
            | .next => Stop (∃ m, m < n ∧ I m s₃)
            | _ => False) (notedBy (model PG w) A env fun e s' => R (.error e) s') s₂
        else Stop (R (.ok .next) s₂)) (notedBy (model PG w) A env fun e s' => R (.error e) s') s)
    (n : Nat) (h : I n s) : codeAny (model PG w) A (.whileLoop test body [] env) R s := by
  refine codeAny_whileLoop I (fun n s hI => wpAny_mono (turn n s hI) (fun b s₂ z => ?_) fun _ _ e => e) n h
  cases b with
  | true =>
    refine wpAny_mono z (fun f s₃ q => ?_) fun _ _ e => e
    cases f with
    | next => exact q
    | cont => exact q.elim
    | brk => exact q.elim
    | ret _ => exact q.elim
  | false => exact wpAny_execs_nil z
end

local macro_rules | `(tactic| kc_enter) => `(tactic| (refine' code_defK ?k1 ?k2 ?k3 ?k4 ?k5 ?kA ?kF ?kK ?k6 ?k7 ?k8 ?k9 ?kB ?_ ?c2 ?c3 ?c4 ?c5; (case kA => exact rfl); (case kF => exact rfl); (case kK => first | exact rfl | assumption); (case k1 => k_asm); (case k2 => k_asm); (case k3 => k_asm); (case k4 => k_asm); (case k5 => k_asm); (case k6 => k_is); (case k7 => k_is); (case k8 => ktr_room); (case k9 => first | exact BindsTo.of_eq rfl | exact binds_K (by k_in) rfl (by k_is) rfl rfl rfl); (case c5 => decide); (case kB => exact locs rfl); (case c2 => exact rfl); (case c3 => exact rfl); (case c4 => exact rfl); k_whole; intro g' L' h' FG' F' N' B' X' T' hgk; (try dsimp only)))

section
open PySem.Calls
theorem Fr.eqm {g h : Heap} {L : Addr} {m m' : Str → Option Value} (F : Fr g L h m) (e : ∀ z, m z = m' z) : Fr g L h m' := (funext e : m = m') ▸ F
def wkStep (ks : List Int) (z : Nat × List Int) (c : Int) : Nat × List Int := (rdStop ks.length z.1 c, z.2 ++ ((ks.drop z.1).take (rdStop ks.length z.1 c - z.1)).reverse)
def wkOut (ks ns : List Int) (start : Nat) : List Int := (ns.foldl (wkStep ks) (min start ks.length, [])).2
abbrev wkM (B : Str → Option Value) (kv ev cv av ov : Option Value) : Str → Option Value := fun z => if z = "k" then kv else if z = "end" then ev else if z = "count" then cv else if z = "at" then av else if z = "out" then ov else B z
def wkOk (ks : List Int) (z : Nat × List Int) : Prop := z.1 ≤ ks.length ∧ z.2.length ≤ z.1 ∧ KBa.In z.2
theorem rdStop_ge {n p : Nat} (c : Int) (h : p ≤ n) : p ≤ rdStop n p c := by unfold rdStop; split <;> omega
theorem rd_if {n p : Nat} {c : Int} (h : 0 ≤ c) : (if (n : Int) < (p : Int) + c then (n : Int) else (p : Int) + c) = ((rdStop n p c : Nat) : Int) := by
  have e : rdStop n p c = min (p + c.toNat) n := by
    unfold rdStop
    rw [if_neg (by omega)]
  rw [e]
  split <;> omega
theorem rd_no {n p : Nat} {c : Int} (h : ¬ 0 ≤ c) : (n : Int) = ((rdStop n p c : Nat) : Int) := by
  unfold rdStop
  rw [if_pos (by omega)]
theorem wkOk_step {ks : List Int} {z : Nat × List Int} (c : Int) (hin : KBa.In ks) (h : wkOk ks z) : wkOk ks (wkStep ks z c) := by
  obtain ⟨h1, h2, h3⟩ := h
  have h4 := rdStop_ge c h1
  have h5 := rdStop_le ks.length z.1 c
  refine ⟨h5, ?_, ?_⟩
  · show (z.2 ++ ((ks.drop z.1).take (rdStop ks.length z.1 c - z.1)).reverse).length ≤ rdStop ks.length z.1 c
    simp only [List.length_append, List.length_reverse, List.length_take, List.length_drop]
    omega
  · intro k hk
    rcases List.mem_append.mp hk with hk | hk
    · exact h3 k hk
    · exact hin k (List.mem_of_mem_drop (List.mem_of_mem_take (List.mem_reverse.mp hk)))
theorem wk_take {ks : List Int} {ns : List Int} {z0 : Nat × List Int} {i : Nat} (hi : i < ns.length) : (ns.take (i + 1)).foldl (wkStep ks) z0 = wkStep ks ((ns.take i).foldl (wkStep ks) z0) (ns.getD i 0) := by
  rw [List.take_succ_eq_append_getElem hi, List.foldl_append]
  simp only [List.foldl_cons, List.foldl_nil]
  rw [List.getD_eq_getElem?_getD, List.getElem?_eq_getElem hi]
  rfl
theorem wk_tail {ks : List Int} {stop j : Nat} (h : stop ≤ ks.length) (hj : j < stop) : ((ks.take stop).drop (stop - (j + 1))).reverse = ((ks.take stop).drop (stop - j)).reverse ++ [ks.getD (stop - 1 - j) 0] := by
  have e : stop - (j + 1) < (ks.take stop).length := by rw [List.length_take]; omega
  rw [List.drop_eq_getElem_cons e, List.reverse_cons, show stop - (j + 1) + 1 = stop - j by omega]
  congr 1
  rw [List.getElem_take, List.getD_eq_getElem?_getD, List.getElem?_eq_getElem (by omega)]
  simp only [show stop - (j + 1) = stop - 1 - j by omega]
  rfl
variable {w : World} {p : Program} {loose : List Str} {mean : ExcName → Option Value} {mg mb : Str → Option Value} {dp un : Nat} {gd : Option (List Code)} {cn : Str} {cs : Scope} {a : Addr} {ccd : Value} {cl : List (Str × Addr)} {outer : List Env} {A₀ : Around} {base h₀ : Heap} {L : Addr} {m : Str → Option Value} {s : Shared} {Q E : Value → Shared → Prop}
theorem walk_tells {l : Addr} {vs : List Value} {ns ks : List Int} {e1 : Nat} {t ts : Tok} {start : Int} (B : Below A₀ base outer h₀) (F : Fr h₀ L s.heap m) (X : (Mine.hd.heap_1 w.params).In h₀) (T : Top p loose mean mg mb h₀) (hk : cs.kind = .function)
   (hl : s.heap.get? l = some (listOf vs.toArray e1))
   (hi : IntsAre vs ns) (hlen : ns.length ≤ 20) (hr : ∀ c ∈ ns, -100 < c ∧ c < 100) (hin : KBa.In ks) (hz : ks.length ≤ 20) (h0 : 0 ≤ start) (h1 : start < 100)
   (hd : dp + 1 < recursionLimit) (hu : un + 8 < cLine)
   (ret : ∀ v h' tk', Fr h₀ L h' m → Kept [] s.heap h' → Q (.bytes (byteArr (wkOut ks ns start.toNat)) v) { s with heap := h', toks := tk' }) :
   wpAny (model PG w) (ktrTop dp un gd cn cs L a ccd cl outer) (call (.ref 593) [.ref l, .bytes (byteArr ks) t, .int start ts]) Q E s := by
  have N : News h₀ L s.heap [] := News.nil
  have hbk := KBa.ints_make hin
  refine wpAny_call ?_
  k_dflt kc_enter
  rename_i g' L' hh FGg Fg Ng Bg Xg Tg hgk
  obtain ⟨B0, hB0, -⟩ : ∃ B0, B0 = _ ∧ Fr g' L' hh B0 := ⟨_, rfl, Fg⟩
  refine wpA_mid 2 (fun s' => Stop (∃ h tk ol e ta, s' = { s with heap := h, toks := tk } ∧ Fr g' L' h (wkM B0 none none none (some (.int ((min start.toNat ks.length : Nat) : Int) ta)) (some (.ref ol))) ∧ News g' L' h [(ol, listOf #[] e)])) ?_ ?_
  · subst hB0
    dsimp only [List.take_succ_cons, List.take_zero]
    k_fold
    k_steps
    rename Fr _ _ _ _ => F9
    rename News _ _ _ _ => N9
    have ea : (if (ks.length : Int) < start then (ks.length : Int) else start) = ((min start.toNat ks.length : Nat) : Int) := by split <;> omega
    rw [ea] at F9
    refine' Stop.out ⟨_, _, _, _, _, rfl, Fr.eqm F9 ?_, N9⟩
    rotate_left
    intro z
    by_cases q1 : z = "k"
    · subst q1; rfl
    by_cases q2 : z = "end"
    · subst q2; rfl
    by_cases q3 : z = "count"
    · subst q3; rfl
    by_cases q4 : z = "at"
    · subst q4; rfl
    by_cases q5 : z = "out"
    · subst q5; rfl
    simp only [wkM, q1, q2, q3, q4, q5, if_false]
  · rintro s' ⟨h, tk, ol, e, ta, rfl, F1, N1⟩
    refine wpAny_execs_cons (wpAny_For ?_)
    k_fold
    rw [hB0] at F1
    k_steps
    rw [← hB0] at F1
    have hbg : ∀ q ∈ [(l, listOf vs.toArray e1)], g'.get? q.1 = some q.2 := fun q hq => by
      rw [List.mem_singleton.mp hq]
      exact hgk _ _ (fun e => nomatch e) hl
    refine opens_use (itn := []) (core := [(ol, listOf #[] e)]) opens_list F1 N1 (fun q hq => F1.keep _ _ (hbg q hq)) (fun _ _ _ e => nomatch e) (fun _ _ _ e => nomatch e) fun I o h8 tk8 F8 N8 c8 b8 bI st8 _ => ?_
    have hpos : ∀ i, i ≤ ns.length → wkOk ks ((ns.take i).foldl (wkStep ks) (min start.toNat ks.length, [])) := by
      intro i
      induction i with
      | zero => exact fun _ => ⟨Nat.min_le_right _ _, Nat.zero_le _, fun _ e => nomatch e⟩
      | succ i ih => exact fun hi => by rw [wk_take hi]; exact wkOk_step _ hin (ih (Nat.le_of_succ_le hi))
    refine forA (fun i core m => ∃ kv ev cv ta its e', core = [(ol, listOf its.toArray e')] ∧ m = wkM B0 kv ev cv (some (.int (((ns.take i).foldl (wkStep ks) (min start.toNat ks.length, [])).1 : Nat) ta)) (some (.ref ol)) ∧ IntsAre its ((ns.take i).foldl (wkStep ks) (min start.toNat ks.length, [])).2)
      iter_list rfl rfl rfl F8 N8 st8 c8 hbg bI ⟨none, none, none, ta, [], e, rfl, by subst hB0; rfl, .nil⟩ ?_ ?_
    · rintro i v m h tk o' core hlt hPv ⟨kv, ev, cv, ta, its, e', rfl, rfl, hits⟩ cI F9 N9
      have hlt' : i < ns.length := by rw [← hi.length]; simpa using hlt
      obtain ⟨tv, rfl⟩ := hi.int_at i v (by simpa using hPv)
      have hc := hr (ns.getD i 0) (by rw [List.getD_eq_getElem?_getD, List.getElem?_eq_getElem hlt']; exact List.getElem_mem hlt')
      rw [wk_take hlt']
      have ok := hpos i (Nat.le_of_lt hlt')
      generalize (ns.take i).foldl (wkStep ks) (min start.toNat ks.length, []) = z at *
      generalize ns.getD i 0 = c at *
      obtain ⟨ok1, ok2, ok3⟩ := ok
      have hstop := rdStop_le ks.length z.1 c
      have hstop2 := rdStop_ge c ok1
      refine wpA_mid 3 (fun s' => Stop (∃ h tk te tk2, s' = { s with heap := h, toks := tk } ∧ Fr g' L' h (wkM B0 (some (.int (((rdStop ks.length z.1 c : Nat) : Int) - 1) tk2)) (some (.int ((rdStop ks.length z.1 c : Nat) : Int) te)) (some (.int c tv)) (some (.int (z.1 : Nat) ta)) (some (.ref ol))) ∧ News g' L' h [(I, o'), (ol, listOf its.toArray e')])) ?_ ?_
      · subst hB0
        dsimp only [List.take_succ_cons, List.take_zero]
        k_fold
        k_steps
        all_goals
          rename Fr _ _ _ _ => F10
          rename News _ _ _ _ => N10
          first
            | rw [rd_if (n := ks.length) (p := z.1) (by omega : 0 ≤ c)] at F10
            | (have ea2 := rd_no (n := ks.length) (p := z.1) (by omega : ¬ 0 ≤ c)
               rw [ea2] at F10)
          refine' Stop.out ⟨_, _, _, _, rfl, Fr.eqm F10 ?_, N10⟩
          rotate_left
          rotate_left
          intro z
          by_cases q1 : z = "k"
          · subst q1; rfl
          by_cases q2 : z = "end"
          · subst q2; rfl
          by_cases q3 : z = "count"
          · subst q3; rfl
          by_cases q4 : z = "at"
          · subst q4; rfl
          by_cases q5 : z = "out"
          · subst q5; rfl
          simp only [wkM, q1, q2, q3, q4, q5, if_false]
      · rintro s' ⟨h, tk, te, tk2, rfl, F11, N11⟩
        refine wpA_mid 1 (fun s' => Stop (∃ h tk tk2 its2 e2, s' = { s with heap := h, toks := tk } ∧ Fr g' L' h (wkM B0 (some (.int ((z.1 : Int) - 1) tk2)) (some (.int ((rdStop ks.length z.1 c : Nat) : Int) te)) (some (.int c tv)) (some (.int (z.1 : Nat) ta)) (some (.ref ol))) ∧ News g' L' h [(I, o'), (ol, listOf its2.toArray e2)] ∧ IntsAre its2 (z.2 ++ ((ks.take (rdStop ks.length z.1 c)).drop z.1).reverse))) ?_ ?_
        · refine wpAny_execs_cons (wpAny_While ?_)
          refine whileA (fun nn s' => ∃ j h tk its2 e2 tkk, nn = rdStop ks.length z.1 c - z.1 - j ∧ j ≤ rdStop ks.length z.1 c - z.1 ∧ s' = { s with heap := h, toks := tk } ∧ Fr g' L' h (wkM B0 (some (.int (((rdStop ks.length z.1 c : Nat) : Int) - 1 - (j : Int)) tkk)) (some (.int ((rdStop ks.length z.1 c : Nat) : Int) te)) (some (.int c tv)) (some (.int (z.1 : Nat) ta)) (some (.ref ol))) ∧ News g' L' h [(I, o'), (ol, listOf its2.toArray e2)] ∧ IntsAre its2 (z.2 ++ ((ks.take (rdStop ks.length z.1 c)).drop (rdStop ks.length z.1 c - j)).reverse)) ?_ (rdStop ks.length z.1 c - z.1) ?_
          · rintro nn s' ⟨j, h, tk, its2, e2, tkk, rfl, hj, rfl, F12, N12, hits2⟩
            have hl2 := hits2.length
            simp only [List.length_append, List.length_reverse, List.length_drop, List.length_take] at hl2
            have n1 : @Ne Nat ol I := cI _ (.head _)
            have n2 : @Ne Nat I ol := Ne.symm n1
            have hl3 : its2.length ≤ 1000 := by omega
            have hl4 : its2.toArray.size ≤ 1000 := hl3
            rw [hB0] at F12
            k_steps
            · rename Fr _ _ _ _ => F13
              rename News _ _ _ _ => N13
              dsimp only
              have hjl : j < rdStop ks.length z.1 c := by omega
              have ek : ((rdStop ks.length z.1 c : Nat) : Int) - 1 - (j : Int) - 1 = ((rdStop ks.length z.1 c : Nat) : Int) - 1 - ((j + 1 : Nat) : Int) := by omega
              have ei : (((rdStop ks.length z.1 c : Nat) : Int) - 1 - (j : Int)).toNat = rdStop ks.length z.1 c - 1 - j := by omega
              rw [ek] at F13
              rw [List.push_toArray] at N13
              refine' Stop.out ⟨rdStop ks.length z.1 c - z.1 - (j + 1), by omega, j + 1, _, _, _, _, _, rfl, by omega, rfl, Fr.eqm F13 ?_, N13, ?_⟩
              rotate_left
              · rw [hB0]
                intro z'
                by_cases q1 : z' = "k"
                · subst q1; rfl
                by_cases q2 : z' = "end"
                · subst q2; rfl
                by_cases q3 : z' = "count"
                · subst q3; rfl
                by_cases q4 : z' = "at"
                · subst q4; rfl
                by_cases q5 : z' = "out"
                · subst q5; rfl
                simp only [wkM, q1, q2, q3, q4, q5, if_false]
              · rw [wk_tail hstop hjl, ← List.append_assoc, ei]
                exact hits2.append (.cons _ _ .nil)
            · have hjj : j = rdStop ks.length z.1 c - z.1 := by omega
              refine Stop.out ?_
              dsimp only
              refine wpAny_execs_nil (Stop.out ⟨_, _, tkk, its2, e2, rfl, ?_, N12, ?_⟩)
              · have ek : ((rdStop ks.length z.1 c : Nat) : Int) - 1 - (j : Int) = (z.1 : Int) - 1 := by omega
                rw [ek, ← hB0] at F12
                exact F12
              · have ej : rdStop ks.length z.1 c - j = z.1 := by omega
                rw [ej] at hits2
                exact hits2
          · refine ⟨0, _, _, its, e', tk2, rfl, Nat.zero_le _, rfl, ?_, N11, ?_⟩
            · rw [show ((rdStop ks.length z.1 c : Nat) : Int) - 1 - ((0 : Nat) : Int) = ((rdStop ks.length z.1 c : Nat) : Int) - 1 by omega]
              exact F11
            · rw [List.drop_eq_nil_of_le (by rw [List.length_take]; omega), List.reverse_nil, List.append_nil]
              exact hits
        · rintro s' ⟨h, tk, tk2, its2, e2, rfl, F14, N14, hits2⟩
          rw [hB0] at F14
          k_fold
          k_steps
          rename Fr _ _ _ _ => F15
          rename News _ _ _ _ => N15
          try dsimp only
          refine Stop.out ⟨_, _, _, _, rfl, F15, N15, fun q hq => by rw [List.mem_singleton.mp hq]; exact cI (ol, listOf its.toArray e') (.head _), some (.int ((z.1 : Int) - 1) tk2), some (.int ((rdStop ks.length z.1 c : Nat) : Int) te), some (.int c tv), te, its2, e2, rfl, ?_, ?_⟩
          rotate_left
          · show IntsAre its2 (z.2 ++ ((ks.drop z.1).take (rdStop ks.length z.1 c - z.1)).reverse)
            rw [← List.drop_take]
            exact hits2
          · rw [hB0]
            funext z'
            revert z'
            intro z'
            by_cases q1 : z' = "k"
            · subst q1; rfl
            by_cases q2 : z' = "end"
            · subst q2; rfl
            by_cases q3 : z' = "count"
            · subst q3; rfl
            by_cases q4 : z' = "at"
            · subst q4; rfl
            by_cases q5 : z' = "out"
            · subst q5; rfl
            simp only [wkM, q1, q2, q3, q4, q5, if_false]
    · rintro m core h tk ⟨kv, ev, cv, ta, its, e', rfl, rfl, hits⟩ F9 N9 -
      have hn : vs.toArray.size = ns.length := hi.length
      rw [hn, List.take_length] at hits
      have ok := hpos ns.length (Nat.le_refl _)
      rw [List.take_length] at ok
      have hlo : (wkOut ks ns start.toNat).length ≤ 20 := Nat.le_trans ok.2.1 (Nat.le_trans ok.1 hz)
      have hio : KBa.In (wkOut ks ns start.toNat) := ok.2.2
      have hits' : IntsAre its (wkOut ks ns start.toNat) := hits
      generalize wkOut ks ns start.toNat = outs at *
      rw [hB0] at F9
      dsimp only
      k_steps
      exact ret _ _ _ (by k_asm) (by assumption)
end

section
theorem byteArr_size (ks : List Int) : (byteArr ks).size = ks.length := by simp [byteArr]
theorem byteArr_app (a b : List Int) : byteArr (a ++ b) = byteArr a ++ byteArr b := by simp [byteArr]
theorem byteArr_rev (a : List Int) : (byteArr a).reverse = byteArr a.reverse := by simp [byteArr]
theorem rdGot_byteArr (ks : List Int) (p : Nat) (c : Int) : rdGot (byteArr ks) p c = byteArr ((ks.drop p).take (rdStop ks.length p c - p)) := by
  unfold rdGot
  rw [byteArr_size]
  simp [byteArr, List.map_take, List.map_drop]
theorem swap_step {ks : List Int} {p q : Nat} {out : Array UInt8} {outI : List Int} (c : Int) (h1 : q = min p ks.length) (h2 : out = byteArr outI) :
    (wkStep ks (q, outI) c).1 = min (swStep (byteArr ks) (p, out) c).1 ks.length ∧ (swStep (byteArr ks) (p, out) c).2 = byteArr (wkStep ks (q, outI) c).2 := by
  subst h1 h2
  unfold wkStep swStep
  simp only [rdGot_byteArr, byteArr_size, byteArr_app, byteArr_rev]
  by_cases hp : p < ks.length
  · rw [Nat.min_eq_left (Nat.le_of_lt hp)]
    have := rdStop_le ks.length p c
    refine ⟨?_, rfl⟩
    unfold rdNew
    rw [if_neg (by omega)]
    omega
  · rw [Nat.min_eq_right (by omega)]
    have e : rdStop ks.length ks.length c = ks.length := by unfold rdStop; split <;> omega
    rw [e]
    refine ⟨?_, ?_⟩
    · unfold rdNew
      rw [if_pos (by omega)]
      omega
    · rw [List.drop_eq_nil_of_le (by omega), List.drop_eq_nil_of_le (Nat.le_refl _)]
      simp
theorem swap_fold {ks : List Int} : ∀ (ns : List Int) {p q : Nat} {out : Array UInt8} {outI : List Int}, q = min p ks.length → out = byteArr outI →
    (ns.foldl (swStep (byteArr ks)) (p, out)).2 = byteArr (ns.foldl (wkStep ks) (q, outI)).2
  | [], _, _, _, _, _, h2 => h2
  | c :: ns, p, q, out, outI, h1, h2 => by
    obtain ⟨e1, e2⟩ := swap_step c h1 h2
    exact swap_fold ns e1 e2
theorem swap_walk (ks ns : List Int) (start : Nat) : (ns.foldl (swStep (byteArr ks)) (start, #[])).2 = byteArr (wkOut ks ns start) := swap_fold ns rfl rfl
end
section
open PySem.Calls
variable {w : World}
theorem ints_int {n : Int} {t : Tok} : IntsTo w (.int n t) n := fun _ _ _ s hQ => call_int_int (hQ t s.toks)
theorem ints_text {x : Str} {t : Tok} {n : Int} (hn : PySem.intText? x = some n) (hl : x.length ≤ 640) : IntsTo w (.str x t) n := fun _ _ _ s hQ => KIN.call_text hn hl (hQ s.toks (s.toks + 1))
end

section
open PySem.Calls
def onStep (z : List Int) (c : Int) : List Int := if c ∈ z then z else z ++ [c]
def onceOf (ns : List Int) : List Int := ns.foldl onStep []
abbrev onM (B : Str → Option Value) (cv ov : Option Value) : Str → Option Value := fun z => if z = "count" then cv else if z = "rows" then ov else B z
theorem onStep_len (z : List Int) (c : Int) : (onStep z c).length ≤ z.length + 1 := by unfold onStep; split <;> simp
theorem on_take {ns : List Int} {i : Nat} (hi : i < ns.length) : (ns.take (i + 1)).foldl onStep [] = onStep ((ns.take i).foldl onStep []) (ns.getD i 0) := by
  rw [List.take_succ_eq_append_getElem hi, List.foldl_append]
  simp only [List.foldl_cons, List.foldl_nil]
  rw [List.getD_eq_getElem?_getD, List.getElem?_eq_getElem hi]
  rfl
theorem on_len {ns : List Int} : ∀ i, i ≤ ns.length → ((ns.take i).foldl onStep []).length ≤ i
  | 0, _ => Nat.zero_le _
  | i + 1, hi => by
    rw [on_take hi]
    have := on_len i (Nat.le_of_succ_le hi)
    have := onStep_len ((ns.take i).foldl onStep []) (ns.getD i 0)
    omega
variable {w : World} {p : Program} {loose : List Str} {mean : ExcName → Option Value} {mg mb : Str → Option Value} {dp un : Nat} {gd : Option (List Code)} {cn : Str} {cs : Scope} {a : Addr} {ccd : Value} {cl : List (Str × Addr)} {outer : List Env} {A₀ : Around} {base h₀ : Heap} {L : Addr} {m : Str → Option Value} {s : Shared} {Q E : Value → Shared → Prop}
theorem once_tells {l : Addr} {vs : List Value} {ns : List Int} {e1 : Nat} (B : Below A₀ base outer h₀) (F : Fr h₀ L s.heap m) (X : (Mine.hd.heap_1 w.params).In h₀) (T : Top p loose mean mg mb h₀) (hk : cs.kind = .function)
   (hl : s.heap.get? l = some (listOf vs.toArray e1))
   (hi : IntsAre vs ns) (hlen : ns.length ≤ 20)
   (hd : dp + 1 < recursionLimit) (hu : un + 8 < cLine)
   (ret : ∀ rl e its h' tk', Fr h₀ L h' m → Kept [] s.heap h' → News h₀ L h' [(rl, listOf its.toArray e)] → s.heap.get? rl = none → IntsAre its (onceOf ns) → Q (.ref rl) { s with heap := h', toks := tk' }) :
   wpAny (model PG w) (ktrTop dp un gd cn cs L a ccd cl outer) (call (.ref 607) [.ref l]) Q E s := by
  have N : News h₀ L s.heap [] := News.nil
  refine wpAny_call ?_
  k_dflt kc_enter
  rename_i g' L' hh FGg Fg Ng Bg Xg Tg hgk
  obtain ⟨B0, hB0, -⟩ : ∃ B0, B0 = _ ∧ Fr g' L' hh B0 := ⟨_, rfl, Fg⟩
  have hbg : ∀ q ∈ [(l, listOf vs.toArray e1)], g'.get? q.1 = some q.2 := fun q hq => by
    rw [List.mem_singleton.mp hq]
    exact hgk _ _ (fun e => nomatch e) hl
  refine wpA_mid 1 (fun s' => Stop (∃ h tk ol e, s' = { s with heap := h, toks := tk } ∧ Fr g' L' h (onM B0 none (some (.ref ol))) ∧ News g' L' h [(ol, listOf #[] e)])) ?_ ?_
  · subst hB0
    dsimp only [List.take_succ_cons, List.take_zero]
    k_fold
    k_steps
    rename Fr _ _ _ _ => F9
    rename News _ _ _ _ => N9
    refine Stop.out ⟨_, _, _, _, rfl, Fr.eqm F9 ?_, N9⟩
    intro z
    by_cases q1 : z = "count"
    · subst q1; rfl
    by_cases q2 : z = "rows"
    · subst q2; rfl
    simp only [onM, q1, q2, if_false]
  · rintro s' ⟨h, tk, ol, e, rfl, F1, N1⟩
    refine wpAny_execs_cons (wpAny_For ?_)
    k_fold
    rw [hB0] at F1
    k_steps
    rw [← hB0] at F1
    refine opens_use (itn := []) (core := [(ol, listOf #[] e)]) opens_list F1 N1 (fun q hq => F1.keep _ _ (hbg q hq)) (fun _ _ _ e => nomatch e) (fun _ _ _ e => nomatch e) fun I o h8 tk8 F8 N8 c8 b8 bI st8 _ => ?_
    refine forA (fun i core m => ∃ cv its e', core = [(ol, listOf its.toArray e')] ∧ m = onM B0 cv (some (.ref ol)) ∧ IntsAre its ((ns.take i).foldl onStep []))
      iter_list rfl rfl rfl F8 N8 st8 c8 hbg bI ⟨none, [], e, rfl, by subst hB0; rfl, .nil⟩ ?_ ?_
    · rintro i v m h tk o' core hlt hPv ⟨cv, its, e', rfl, rfl, hits⟩ cI F9 N9
      have hlt' : i < ns.length := by rw [← hi.length]; simpa using hlt
      obtain ⟨tv, rfl⟩ := hi.int_at i v (by simpa using hPv)
      rw [on_take hlt']
      have ok := on_len i (Nat.le_of_lt hlt')
      generalize (ns.take i).foldl onStep [] = z at *
      generalize ns.getD i 0 = c at *
      have hl2 := hits.length
      have n1 : @Ne Nat ol I := cI (ol, listOf its.toArray e') (.head _)
      have n2 : @Ne Nat I ol := Ne.symm n1
      have hl3 : its.length ≤ 1000 := by omega
      have hl4 : its.toArray.size ≤ 1000 := hl3
      rw [hB0] at F9
      k_steps
      · rename_i hany
        dsimp only
        have hm : c ∈ z := by
          obtain ⟨x, hx, e⟩ := List.any_eq_true.mp hany
          exact beq_iff_eq.mp e ▸ hx
        refine Stop.out ⟨_, _, _, _, rfl, F9, N9, fun q hq => by rw [List.mem_singleton.mp hq]; exact n1, some (.int c tv), its, e', rfl, ?_, ?_⟩
        · rw [hB0]
          funext z'
          revert z'
          intro z'
          by_cases q1 : z' = "count"
          · subst q1; rfl
          by_cases q2 : z' = "rows"
          · subst q2; rfl
          simp only [onM, q1, q2, if_false]
        · unfold onStep
          rw [if_pos hm]
          exact hits
      · rename Fr _ _ _ _ => F13
        rename News _ _ _ _ => N13
        dsimp only
        have hm : ¬ c ∈ z := fun hx => by
          have e : (z.any fun x => x == c) = true := List.any_eq_true.mpr ⟨c, hx, beq_self_eq_true c⟩
          simp_all
        rw [List.push_toArray] at N13
        refine Stop.out ⟨_, _, _, _, rfl, F13, N13, fun q hq => by rw [List.mem_singleton.mp hq]; exact n1, some (.int c tv), its ++ [.int c tv], e' + 1, rfl, ?_, ?_⟩
        · rw [hB0]
          funext z'
          revert z'
          intro z'
          by_cases q1 : z' = "count"
          · subst q1; rfl
          by_cases q2 : z' = "rows"
          · subst q2; rfl
          simp only [onM, q1, q2, if_false]
        · unfold onStep
          rw [if_neg hm]
          exact hits.append (.cons _ _ .nil)
    · rintro m core h tk ⟨cv, its, e', rfl, rfl, hits⟩ F9 N9 -
      have hn : vs.toArray.size = ns.length := hi.length
      rw [hn, List.take_length] at hits
      rw [hB0] at F9
      dsimp only
      have fr : g'.get? ol = none := (N9 _ (.head _)).2.2
      have fr2 : s.heap.get? ol = none := by
        cases q : s.heap.get? ol with
        | none => rfl
        | some o => rw [hgk _ _ (fun e => nomatch e) q] at fr; cases fr
      k_steps
      exact ret _ _ _ _ _ (by k_asm) (by assumption) (by k_asm) fr2 hits
end

section
open PySem.Calls PySem.Spec PyProof.V
def ItDone (it : Addr) (h : Heap) : Prop := ∃ o, h.get? it = some o ∧ o.cls = .type "list_iterator" ∧ ∃ v, o.data = .fields #[.none, v]
section
variable {prog : Program} {w : World} {A : Around} {E : Value → Shared → Prop} {s : Shared}
theorem list_end {it l : Addr} {i : Nat} {items : Array Value} {Q : Option Value → Shared → Prop} (hh : A.handled = none)
    (hit : s.heap.IsListIter it l i) (hl : s.heap.IsList l items) (hx : items[i]? = none)
    (hQ : ∀ h', Heap.ExtBut it s.heap h' → ItDone it h' → Q none { s with heap := h' }) : wpAny (model prog w) A (pyNext (.ref it)) Q E s := by
  obtain ⟨o, ho, hc, hd⟩ := id hit
  obtain ⟨ol, hol, _, nl, hdl⟩ := hl
  unfold pyNext
  refine wpAny_bind (wpAny_attempt (wpAny_callSpecial?_slot (name := Str.ofString "__next__") hit.typeIs slot_listiter_next
    (wpAny_call_entry slot_listiter_next hit.typeIs entry_listiter_next ?_ (args_listiter_next _))))
  show wpAny _ _ (field (.ref it) 0 >>= _) _ _ s
  refine wpAny_bind (wpAny_field ho hd (x := .ref l) rfl ?_)
  show wpAny _ _ (if (Value.ref l == Value.none) = true then _ else _) _ _ s
  rw [if_neg (show ¬ ((Value.ref l == Value.none) = true) from Bool.false_ne_true)]
  show wpAny _ _ (field (.ref it) 1 >>= _) _ _ s
  refine wpAny_bind (wpAny_field ho hd (x := .int i 0) rfl ?_)
  show wpAny _ _ (seqItems? (.ref l) >>= _) _ _ s
  refine wpAny_bind (wpAny_seqItems hol hdl ?_)
  simp only [Int.toNat_natCast, hx]
  refine wpAny_bind (wpAny_rule (wpAny_bind (wpAny_setField ho hd (by simp) ?_)))
  show wpAny _ _ (newExc (.type "StopIteration") [] >>= _) _ _ _
  refine wpAny_bind ?_
  simp only [newExc, newTuple]
  refine wpAny_bind (wpAny_newObj_type ?_ (by size_fits))
  refine wpAny_bind (m := firstArgMember _ _) (wpAny_of_eq (a := Value.none) (by first | rfl | (simp only [firstArgMember]; rfl)) ?_)
  refine wpAny_newObj_type ?_ (by size_fits)
  simp only [raiseNew]
  refine wpAny_bind (wpAny_handled ?_)
  rw [show A.in1.handled = none from hh]
  refine wpAny_bind (wpAny_pure (wpAny_throw ?_))
  refine wpAny_bind (wpAny_isInstance (T := "StopIteration") (b := true) ⟨_, Heap.get?_push_size _ rfl, rfl⟩ isSubtype_stop ?_)
  refine wpAny_pure (hQ _ (((Heap.SameBut.update ..).extBut.push _).push _) ⟨_, Heap.get?_push_of_some _ (Heap.get?_push_of_some _ (Heap.get?_update_self _ ho (Obj.isFreed_of_fields (Obj.data_mapFields hd _)))), (Obj.cls_mapFields ..).trans hc, .int i 0, ?_⟩)
  rw [Obj.data_mapFields hd]
  simp
theorem list_done {it : Addr} {Q : Option Value → Shared → Prop} (hh : A.handled = none) (hit : ItDone it s.heap)
    (hQ : ∀ h', (∀ b o, s.heap.get? b = some o → h'.get? b = some o) → Q none { s with heap := h' }) : wpAny (model prog w) A (pyNext (.ref it)) Q E s := by
  obtain ⟨o, ho, hc, v, hd⟩ := hit
  have hT : s.TypeIs (.ref it) "list_iterator" := ⟨o, ho, hc⟩
  unfold pyNext
  refine wpAny_bind (wpAny_attempt (wpAny_callSpecial?_slot (name := Str.ofString "__next__") hT slot_listiter_next
    (wpAny_call_entry slot_listiter_next hT entry_listiter_next ?_ (args_listiter_next _))))
  show wpAny _ _ (field (.ref it) 0 >>= _) _ _ s
  refine wpAny_bind (wpAny_field ho hd (x := .none) rfl ?_)
  show wpAny _ _ (if (Value.none == Value.none) = true then _ else _) _ _ s
  rw [if_pos (show (Value.none == Value.none) = true from rfl)]
  refine wpAny_bind (wpAny_rule ?_)
  refine wpAny_bind ?_
  show wpAny _ _ (newExc (.type "StopIteration") [] >>= _) _ _ _
  refine wpAny_bind ?_
  simp only [newExc, newTuple]
  refine wpAny_bind (wpAny_newObj_type ?_ (by size_fits))
  refine wpAny_bind (m := firstArgMember _ _) (wpAny_of_eq (a := Value.none) (by first | rfl | (simp only [firstArgMember]; rfl)) ?_)
  refine wpAny_newObj_type ?_ (by size_fits)
  simp only [raiseNew]
  refine wpAny_bind (wpAny_handled ?_)
  rw [show A.in1.handled = none from hh]
  refine wpAny_bind (wpAny_pure (wpAny_throw ?_))
  refine wpAny_bind (wpAny_isInstance (T := "StopIteration") (b := true) ⟨_, Heap.get?_push_size _ rfl, rfl⟩ isSubtype_stop ?_)
  exact wpAny_pure (hQ _ fun b o e => Heap.get?_push_of_some _ (Heap.get?_push_of_some _ e))
theorem next_done {it : Addr} {Q : Value → Shared → Prop} (hh : A.handled = none) (hit : ItDone it s.heap) (hQ : ∀ h', (∀ b o, s.heap.get? b = some o → h'.get? b = some o) → Q .none { s with heap := h' }) :
    wpAny (model prog w) A (call (.builtin "next") [.ref it, .none]) Q E s := by
  have hT : s.TypeIs (.ref it) "list_iterator" := let ⟨o, ho, hc, _⟩ := hit; ⟨o, ho, hc⟩
  refine call_function_entry (by decide +kernel) (by decide +kernel) kdk_entry_next (kdk_args_next2 _ _) ?_
  unfold Builtin.«next»
  refine wpAny_bind (m := someArgs "next" 1 2 _) (wpAny_of_eq (a := [Value.ref it, .none]) (by first | rfl | kernel_rfl!) ?_)
  dsimp only
  refine wpAny_bind (wpAny_specialOf (name := Str.ofString "__next__") hT slot_listiter_next.lookup ?_)
  refine wpAny_ite_split (fun hab => absurd hab (by decide)) (fun _ => ?_)
  refine wpAny_bind (list_done hh hit fun h' hk => ?_)
  exact wpAny_pure ⟨_, rfl, hQ h' hk⟩
theorem iter_call {l : Addr} {items : Array Value} {Q : Value → Shared → Prop} (hl : s.heap.IsList l items)
    (hQ : Q (.ref s.heap.objs.size) { s with heap := s.heap.push { cls := .type "list_iterator", data := .fields #[.ref l, .int 0 0] } }) : wpAny (model prog w) A (call (.builtin "iter") [.ref l]) Q E s := by
  refine call_function_entry (by decide +kernel) (by decide +kernel) kdk_entry_iter (kdk_args_iter _) ?_
  unfold Builtin.«iter»
  refine wpAny_bind (m := someArgs "iter" 1 2 _) (wpAny_of_eq (a := [Value.ref l]) (by first | rfl | kernel_rfl!) ?_)
  show wpAny _ _ (pyIter (.ref l) >>= _) _ _ _
  refine wpAny_bind (wpAny_pyIter_list hl ?_)
  exact wpAny_pure ⟨_, rfl, hQ⟩
end
section
variable {w : World}
theorem iter_self {l : Addr} {vs : Array Value} {e : Nat} : IterS w [(l, listOf vs e)] (fun i o => recIt "list_iterator" #[.ref l, .int i 0] o) vs.size (fun i v => vs[i]? = some v) ItDone where
  item := iter_list.item
  done := fun A hh I o s Q E hb hI he hs hQ => list_end hh ⟨o, he, hs⟩ ⟨_, hb _ (.head _), rfl, _, rfl⟩ (by simp) fun h' hx hd => hQ h' s.toks hd fun b o hb e => hx b o (fun q => hb (q ▸ .head _)) e
theorem opens_self {l I : Addr} {o : Obj} {bs : List (Addr × Obj)} (ho : recIt "list_iterator" #[.ref l, .int (0 : Nat) 0] o) : Opens w bs [(I, o)] (.ref I) (fun i o => recIt "list_iterator" #[.ref l, .int i 0] o) :=
  .inr ⟨I, o, rfl, rfl, ho, fun A Q E s he hQ => wpAny_pyIter_listiter (l := l) (i := 0) ⟨o, he, ho⟩ hQ⟩
theorem ItDone.keep (I : Addr) (h h' : Heap) (x : ItDone I h) (k : ∀ o, h.get? I = some o → h'.get? I = some o) : ItDone I h' := let ⟨o, ho, r⟩ := x; ⟨o, k o ho, r⟩
end
end

section
open PySem.Calls
theorem fresh_of {g h h2 : Heap} {L : Addr} {l d : Addr} {o od : Obj} (hgk : Kept ([(l, o)].map (·.1)) h g) (N : News g L h2 [(d, od), (l, o)]) (hc : od.cls ≠ o.cls) : h.get? d = none := by
  cases q : h.get? d with
  | none => rfl
  | some x =>
    have n := (N _ (.head _)).2.2
    rw [hgk d x (fun e => ?_) q] at n
    · cases n
    · rw [List.mem_singleton.mp e] at N
      have a := (N _ (.head _)).1
      have b := (N _ (.tail _ (.head _))).1
      dsimp only at a b
      rw [a] at b
      exact hc (congrArg (·.cls) (Option.some.inj b))
variable {w : World} {p : Program} {loose : List Str} {mean : ExcName → Option Value} {mg mb : Str → Option Value} {dp un : Nat} {gd : Option (List Code)} {cn : Str} {cs : Scope} {a : Addr} {ccd : Value} {cl : List (Str × Addr)} {outer : List Env} {A₀ : Around} {base h₀ : Heap} {L : Addr} {m : Str → Option Value} {s : Shared} {Q E : Value → Shared → Prop}
theorem form05_tells {l : Addr} {vs : List Value} {e1 : Nat} {f : Int} {tf : Tok} (hf : f = 0 ∨ f = 5) (B : Below A₀ base outer h₀) (F : Fr h₀ L s.heap m) (X : (Mine.hd.heap_1 w.params).In h₀) (T : Top p loose mean mg mb h₀) (hk : cs.kind = .function)
   (N : News h₀ L s.heap [(l, listOf vs.toArray e1)]) (hlen : vs.length ≤ 20)
   (hd : dp + 1 < recursionLimit) (hu : un + 8 < cLine)
   (ret : ∀ h' tk', Fr h₀ L h' m → Kept [] s.heap h' → Q (.ref l) { s with heap := h', toks := tk' }) :
   wpAny (model PG w) (ktrTop dp un gd cn cs L a ccd cl outer) (call (.ref 600) [.ref l, .int f tf]) Q E s := by
  rcases hf with rfl | rfl
  all_goals
    refine wpAny_call ?_
    k_dflt kc_enter
    k_fold
    k_steps
    exact ret _ _ (by k_asm) (kept_same N (by assumption) (by assumption))
theorem form1_tells {l : Addr} {vs : List Value} {e1 : Nat} {tf : Tok} (B : Below A₀ base outer h₀) (F : Fr h₀ L s.heap m) (X : (Mine.hd.heap_1 w.params).In h₀) (T : Top p loose mean mg mb h₀) (hk : cs.kind = .function)
   (N : News h₀ L s.heap [(l, listOf vs.toArray e1)]) (hlen : vs.length ≤ 20)
   (hd : dp + 1 < recursionLimit) (hu : un + 8 < cLine)
   (ret : ∀ d h' tk', Fr h₀ L h' m → Kept [] s.heap h' → News h₀ L h' [(d, { cls := .type "tuple", data := .seq vs.toArray })] → s.heap.get? d = none → Q (.ref d) { s with heap := h', toks := tk' }) :
   wpAny (model PG w) (ktrTop dp un gd cn cs L a ccd cl outer) (call (.ref 600) [.ref l, .int 1 tf]) Q E s := by
  refine wpAny_call ?_
  k_dflt kc_enter
  rename_i g' L' hh FGg Fg Ng Bg Xg Tg hgk
  k_fold
  k_steps
  rename News g' L' _ _ => N9
  exact ret _ _ _ (by k_asm) (kept_same N (News.sub1 (by with_reducible assumption) (by k_mem)) (by assumption)) (News.sub1 (by with_reducible assumption) (by k_mem)) (fresh_of hgk N9 (fun e => absurd (Value.type.inj e) (by decide)))
theorem form4_tells {l : Addr} {vs : List Value} {e1 : Nat} {tf : Tok} (B : Below A₀ base outer h₀) (F : Fr h₀ L s.heap m) (X : (Mine.hd.heap_1 w.params).In h₀) (T : Top p loose mean mg mb h₀) (hk : cs.kind = .function)
   (N : News h₀ L s.heap [(l, listOf vs.toArray e1)]) (hlen : vs.length ≤ 20)
   (hd : dp + 1 < recursionLimit) (hu : un + 8 < cLine)
   (ret : ∀ d h' tk', Fr h₀ L h' m → Kept [] s.heap h' → News h₀ L h' [(d, { cls := .type "list_iterator", data := .fields #[.ref l, .int 0 0] })] → s.heap.get? d = none → Q (.ref d) { s with heap := h', toks := tk' }) :
   wpAny (model PG w) (ktrTop dp un gd cn cs L a ccd cl outer) (call (.ref 600) [.ref l, .int 4 tf]) Q E s := by
  refine wpAny_call ?_
  k_dflt kc_enter
  rename_i g' L' hh FGg Fg Ng Bg Xg Tg hgk
  k_fold
  k_steps
  refine iter_call ⟨_, (Ng _ (.head _)).1, rfl, _, rfl⟩ ?_
  have F9 := Fg.push ({ cls := .type "list_iterator", data := .fields #[.ref l, .int 0 0] } : Obj)
  have N9 := News.push Fg Ng ({ cls := .type "list_iterator", data := .fields #[.ref l, .int 0 0] } : Obj) rfl
  have fr := fresh_of hgk N9 (fun e => absurd (Value.type.inj e) (by decide))
  k_steps
  exact ret _ _ _ (by k_asm) (kept_same N (News.sub1 (by with_reducible assumption) (by k_mem)) (by assumption)) (News.sub1 (by with_reducible assumption) (by k_mem)) fr
end

section
open PySem.Calls
local macro_rules | `(tactic| walk_at "exec For") => `(tactic| (k_here; refine Stop.mk ?_))
local macro_rules | `(tactic| walk_at "setItem ref int") => `(tactic| (k_here; refine Stop.mk ?_))
theorem stored_keys (kvs : List (Int × Value)) (c : Int) (v : Value) : (stored kvs c v).map (·.1) = onStep (kvs.map (·.1)) c := by
  unfold stored onStep
  by_cases h : kvs.any (fun kv => kv.1 = c) = true
  · rw [if_pos h]
    obtain ⟨x, hx, e⟩ := List.any_eq_true.mp h
    rw [if_pos (List.mem_map.mpr ⟨x, hx, of_decide_eq_true e⟩), List.map_map]
    refine List.map_congr_left fun y hy => ?_
    show (if y.1 = c then (y.1, v) else y).1 = y.1
    split <;> rfl
  · rw [if_neg h]
    rw [if_neg (fun hm => h (by obtain ⟨x, hx, e⟩ := List.mem_map.mp hm; exact List.any_eq_true.mpr ⟨x, hx, decide_eq_true e⟩))]
    simp
variable {w : World} {p : Program} {loose : List Str} {mean : ExcName → Option Value} {mg mb : Str → Option Value} {dp un : Nat} {gd : Option (List Code)} {cn : Str} {cs : Scope} {a : Addr} {ccd : Value} {cl : List (Str × Addr)} {outer : List Env} {A₀ : Around} {base h₀ : Heap} {L : Addr} {m : Str → Option Value} {s : Shared} {Q E : Value → Shared → Prop}
theorem form3_tells {l : Addr} {vs : List Value} {ns : List Int} {e1 : Nat} {tf : Tok} (B : Below A₀ base outer h₀) (F : Fr h₀ L s.heap m) (X : (Mine.hd.heap_1 w.params).In h₀) (T : Top p loose mean mg mb h₀) (hk : cs.kind = .function)
   (hl : s.heap.get? l = some (listOf vs.toArray e1)) (hi : IntsAre vs ns) (hlen : ns.length ≤ 20)
   (hd : dp + 1 < recursionLimit) (hu : un + 8 < cLine)
   (ret : ∀ d od kvs h' tk', Fr h₀ L h' m → Kept [] s.heap h' → News h₀ L h' [(d, od)] → s.heap.get? d = none → (d == sysModules) = false → od.IsDictOf (PySem.intKind PG w) kvs → kvs.map (·.1) = onceOf ns → Q (.ref d) { s with heap := h', toks := tk' }) :
   wpAny (model PG w) (ktrTop dp un gd cn cs L a ccd cl outer) (call (.ref 600) [.ref l, .int 3 tf]) Q E s := by
  have N : News h₀ L s.heap [] := News.nil
  refine wpAny_call ?_
  k_dflt kc_enter
  rename_i g' L' hh FGg Fg Ng Bg Xg Tg hgk
  have hbg : ∀ q ∈ [(l, listOf vs.toArray e1)], g'.get? q.1 = some q.2 := fun q hq => by
    rw [List.mem_singleton.mp hq]
    exact hgk _ _ (fun e => nomatch e) hl
  obtain ⟨B0, hB0, -⟩ : ∃ B0, B0 = _ ∧ Fr g' L' hh B0 := ⟨_, rfl, Fg⟩
  try k_fold
  k_steps
  rename (_ == sysModules) = false => lo
  rename Obj.IsDictOf (PySem.intKind PG w) _ _ => hdi
  rename Fr g' L' _ _ => F1
  rename News g' L' _ _ => N1
  refine Stop.out (wpAny_For ?_)
  k_steps
  refine opens_use (itn := []) opens_list F1 N1 (fun q hq => F1.keep _ _ (hbg q hq)) (fun _ _ _ e => nomatch e) (fun _ _ _ e => nomatch e) fun I o h8 tk8 F8 N8 c8 b8 bI st8 _ => ?_
  have F8' : Fr g' L' h8 (onM B0 none (some _)) := Fr.eqm F8 (by
    rw [hB0]
    intro z
    by_cases q1 : z = "count"
    · subst q1; rfl
    by_cases q2 : z = "rows"
    · subst q2; rfl
    simp only [onM, q1, q2, if_false])
  refine forA (fun i core m => ∃ cv od kvs, core = [(_, od)] ∧ m = onM B0 cv (some (.ref _)) ∧ od.IsDictOf (PySem.intKind PG w) kvs ∧ kvs.map (·.1) = (ns.take i).foldl onStep [])
    iter_list rfl rfl rfl F8' N8 st8 c8 hbg bI ⟨none, _, [], rfl, rfl, hdi, rfl⟩ ?_ ?_
  · rintro i v m h tk o' core hlt hPv ⟨cv, od, kvs, rfl, rfl, hd', hkeys⟩ cI F9 N9
    have hlt' : i < ns.length := by rw [← hi.length]; simpa using hlt
    obtain ⟨tv, rfl⟩ := hi.int_at i v (by simpa using hPv)
    rw [on_take hlt']
    have ok := on_len i (Nat.le_of_lt hlt')
    generalize (ns.take i).foldl onStep [] = z at *
    generalize ns.getD i 0 = c at *
    have hkl : kvs.length ≤ 20 := by
      have := congrArg List.length hkeys
      rw [List.length_map] at this
      omega
    have n1 := cI _ (.head _)
    have n2 := Ne.symm n1
    rw [hB0] at F9
    k_steps
    rename Fr g' _ _ _ => F10
    rename News g' _ _ _ => N10
    refine Stop.out (kda_set (knd := PySem.intKind PG w) F10 N10 (by k_updF) hd' (intKind_is _ _ _ _) (by rw [sizeLine_eq]; omega) fun h11 o11 F11 N11 hd11 => ?_)
    k_steps
    try dsimp only
    rename Fr g' _ _ _ => F12
    rename News g' _ _ _ => N12
    refine Stop.out ⟨_, [(_, o11)], _, _, rfl, F12, N12, fun q hq => by rw [List.mem_singleton.mp hq]; exact n1, some (.int c tv), o11, _, rfl, ?_, hd11, by rw [stored_keys, hkeys]⟩
    rw [hB0]
    funext z'
    by_cases q1 : z' = "count"
    · subst q1; rfl
    by_cases q2 : z' = "rows"
    · subst q2; rfl
    simp only [onM, q1, q2, if_false]
  · rintro m core h tk ⟨cv, od, kvs, rfl, rfl, hd', hkeys⟩ F9 N9 -
    have hn : vs.toArray.size = ns.length := hi.length
    rw [hn, List.take_length] at hkeys
    rw [hB0] at F9
    have fr := (N9 _ (.head _)).2.2
    dsimp only
    k_steps
    refine ret _ od kvs _ _ (by k_asm) (by assumption) (by k_asm) ?_ lo hd' hkeys
    cases q : s.heap.get? _ with
    | none => rfl
    | some o => rw [hgk _ _ (fun e => nomatch e) q] at fr; cases fr
end

section
open PySem.Calls
abbrev ftM (B : Str → Option Value) (kv tv ov : Option Value) : Str → Option Value := fun z => if z = "text" then tv else if z = "k" then kv else if z = "rows" then ov else B z
theorem ft_norm {m B : Str → Option Value} {ov : Option Value} (h : ∀ z : Str, z ≠ "text" → z ≠ "k" → m z = (if z = "rows" then ov else B z)) : m = ftM B (m "k") (m "text") ov := by
  funext z
  by_cases q1 : z = "text"
  · rw [q1]; simp [ftM]
  by_cases q2 : z = "k"
  · rw [q2]; simp only [ftM, if_true]; rw [if_neg (by decide)]
  rw [h z q1 q2]
  simp only [ftM, q1, q2, if_false]
theorem small21 {n : Nat} (h : n ≤ 20) : Builtin.Range.small 0 (n : Int) 1 = true ∧ Builtin.Range.rangeSize 0 (n : Int) 1 = (n : Int) := by
  have key : ∀ k : Fin 21, Builtin.Range.small 0 (k.val : Int) 1 = true ∧ Builtin.Range.rangeSize 0 (k.val : Int) 1 = (k.val : Int) := by decide
  exact key ⟨n, by omega⟩
theorem txt_all : ∀ k : Fin 12, (PySem.intText? (Str.ofString (toString ((k.val : Int) - 2))) = some ((k.val : Int) - 2) ∧ (Str.ofString (toString ((k.val : Int) - 2))).length ≤ 640) ∧
    (PySem.intText? (Str.ofString " " ++ Str.ofString (toString ((k.val : Int) - 2)) ++ Str.ofString " ") = some ((k.val : Int) - 2) ∧ (Str.ofString " " ++ Str.ofString (toString ((k.val : Int) - 2)) ++ Str.ofString " ").length ≤ 640) ∧
    (0 ≤ (k.val : Int) - 2 → PySem.intText? (Str.ofString "+" ++ Str.ofString (toString ((k.val : Int) - 2))) = some ((k.val : Int) - 2) ∧ (Str.ofString "+" ++ Str.ofString (toString ((k.val : Int) - 2))).length ≤ 640) := by decide +kernel
theorem txt {c : Int} (h1 : -2 ≤ c) (h2 : c ≤ 9) : (PySem.intText? (Str.ofString (toString c)) = some c ∧ (Str.ofString (toString c)).length ≤ 640) ∧
    (PySem.intText? (Str.ofString " " ++ Str.ofString (toString c) ++ Str.ofString " ") = some c ∧ (Str.ofString " " ++ Str.ofString (toString c) ++ Str.ofString " ").length ≤ 640) ∧
    (0 ≤ c → PySem.intText? (Str.ofString "+" ++ Str.ofString (toString c)) = some c ∧ (Str.ofString "+" ++ Str.ofString (toString c)).length ≤ 640) := by
  have e : (((⟨(c + 2).toNat, by omega⟩ : Fin 12).val : Int)) - 2 = c := by
    show ((c + 2).toNat : Int) - 2 = c
    omega
  have := txt_all ⟨(c + 2).toNat, by omega⟩
  rw [e] at this
  exact this
local macro_rules | `(tactic| walk_at "exec For") => `(tactic| (k_here; refine Stop.mk ?_))
local macro_rules | `(tactic| walk_at "exec For Name Call cons nil") => `(tactic| (k_here; refine Stop.mk ?_))
local macro_rules | `(tactic| walk_at "pyIter ref") => `(tactic| (k_here; refine Stop.mk ?_))
variable {w : World} {p : Program} {loose : List Str} {mean : ExcName → Option Value} {mg mb : Str → Option Value} {dp un : Nat} {gd : Option (List Code)} {cn : Str} {cs : Scope} {a : Addr} {ccd : Value} {cl : List (Str × Addr)} {outer : List Env} {A₀ : Around} {base h₀ : Heap} {L : Addr} {m : Str → Option Value} {s : Shared} {Q E : Value → Shared → Prop}
theorem form2_tells {l : Addr} {vs : List Value} {ns : List Int} {e1 : Nat} {tf : Tok} (B : Below A₀ base outer h₀) (F : Fr h₀ L s.heap m) (X : (Mine.hd.heap_1 w.params).In h₀) (T : Top p loose mean mg mb h₀) (hk : cs.kind = .function)
   (N : News h₀ L s.heap [(l, listOf vs.toArray e1)]) (hi : IntsAre vs ns) (hlen : ns.length ≤ 20) (hr : ∀ c ∈ ns, -2 ≤ c ∧ c ≤ 9)
   (hd : dp + 1 < recursionLimit) (hu : un + 8 < cLine)
   (ret : ∀ (d : Addr) (its : List Value) (e : Nat) h' tk', Fr h₀ L h' m → Kept [] s.heap h' → News h₀ L h' [(d, listOf its.toArray e)] → s.heap.get? d = none → its.length = ns.length → (∀ (i : Nat) v, its[i]? = some v → IntsTo w v (ns.getD i 0)) → Q (.ref d) { s with heap := h', toks := tk' }) :
   wpAny (model PG w) (ktrTop dp un gd cn cs L a ccd cl outer) (call (.ref 600) [.ref l, .int 2 tf]) Q E s := by
  have hl2 := hi.length
  refine wpAny_call ?_
  k_dflt kc_enter
  rename_i g' L' hh FGg Fg Ng Bg Xg Tg hgk
  obtain ⟨B0, hB0, -⟩ : ∃ B0, B0 = _ ∧ Fr g' L' hh B0 := ⟨_, rfl, Fg⟩
  try k_fold
  k_steps
  rename Fr g' L' _ _ => F1
  rename News g' L' _ _ => N1
  rename l < _ => l1
  refine Stop.out (wpAny_For ?_)
  k_steps
  rename Fr g' L' _ _ => F2
  rename News g' L' _ _ => N2
  rename IsRange _ _ _ _ _ _ _ _ => hrg
  have hl20 : ns.length ≤ 20 := hlen
  refine Stop.out (wpAny_pyIter_range (s := ⟨_, _, _, _, _⟩) hrg (small21 hl20).1 ?_)
  rw [(small21 hl20).2]
  have F3 := F2.push ({ cls := .type "range_iterator", data := .fields #[rawInt 0, rawInt (ns.length : Int), rawInt 1] } : Obj)
  have N3 := News.push F2 N2 ({ cls := .type "range_iterator", data := .fields #[rawInt 0, rawInt (ns.length : Int), rawInt 1] } : Obj) rfl
  have ap := fun (q : Addr × Obj) hq => Nat.ne_of_lt (Heap.lt_size (N2 q hq).1)
  have F3' : Fr g' L' _ (ftM B0 none none (some _)) := Fr.eqm F3 (by
    rw [hB0]
    intro z
    by_cases q1 : z = "text"
    · subst q1; rfl
    by_cases q2 : z = "k"
    · subst q2; rfl
    by_cases q3 : z = "rows"
    · subst q3; rfl
    simp only [ftM, q1, q2, q3, if_false])
  refine forA (fun i core m => ∃ kv tv its e', core = [(_, listOf its.toArray e'), (l, listOf vs.toArray e1)] ∧ m = ftM B0 kv tv (some (.ref _)) ∧ its.length = i ∧ ∀ (j : Nat) v, its[j]? = some v → IntsTo w v (ns.getD j 0))
    (iter_range (r := 0) (a := 0) (c := 1) (n := ns.length) (bs := [])) rfl rfl rfl F3' N3 (by simp) ap (fun _ e => nomatch e) (fun _ e => nomatch e) ⟨none, none, [], 0, rfl, rfl, rfl, fun _ _ e => by simp at e⟩ ?_ ?_
  · rintro i v m h tk o' core hlt ⟨tk', rfl⟩ ⟨kv, tv, its, e', rfl, rfl, hil, hits⟩ cI F9 N9
    have ei : (0 : Int) + (i : Int) * 1 = (i : Int) := by omega
    rw [ei, hB0] at F9
    have hc := hr (ns.getD i 0) (by rw [List.getD_eq_getElem?_getD, List.getElem?_eq_getElem hlt]; exact List.getElem_mem hlt)
    have hc2 : -2 ≤ ns.getD ((i : Int)).toNat 0 ∧ ns.getD ((i : Int)).toNat 0 ≤ 9 := hc
    obtain ⟨hc3, hc4⟩ := hc2
    have n1 := cI _ (.head _)
    have n2 := Ne.symm n1
    have n3 := cI _ (.tail _ (.head _))
    have n4 := Ne.symm n3
    have hl3 : its.length ≤ 1000 := by omega
    have hl4 : its.toArray.size ≤ 1000 := hl3
    have fin : ∀ {x : Str} {t : Tok}, PySem.intText? x = some (ns.getD i 0) → x.length ≤ 640 → ∀ (j : Nat) v, (its ++ [Value.str x t])[j]? = some v → IntsTo w v (ns.getD j 0) := fun {x t} e1 e2 j v hv => by
      by_cases hj : j < its.length
      · rw [List.getElem?_append_left hj] at hv
        exact hits j v hv
      · rw [List.getElem?_append_right (by omega)] at hv
        have hj2 : j - its.length = 0 := by
          cases q : j - its.length with
          | zero => rfl
          | succ n => rw [q] at hv; simp at hv
        rw [hj2] at hv
        obtain rfl : Value.str x t = v := by simpa using hv
        rw [show j = i by omega]
        exact ints_text e1 e2
    k_steps
    all_goals
      dsimp only
      rename Fr g' _ _ _ => F10
      rename News g' _ _ _ => N10
      rw [List.push_toArray] at N10
      refine Stop.out ⟨_, _, _, _, rfl, F10, N10, ?_, _, _, its ++ [_], e' + 1, rfl, ft_norm (fun z q1 q2 => ?_), by rw [List.length_append, hil]; rfl, ?_⟩
      · intro q hq
        rcases List.mem_cons.mp hq with rfl | hq
        · exact n1
        · rw [List.mem_singleton.mp hq]; exact n3
      · rw [hB0]
        by_cases q3 : z = "rows"
        · subst q3; rfl
        · simp only [ftM, q1, q2, q3, if_false]
      · first
          | exact fin (txt hc.1 hc.2).1.1 (txt hc.1 hc.2).1.2
          | exact fin (txt hc.1 hc.2).2.1.1 (txt hc.1 hc.2).2.1.2
          | exact fin ((txt hc.1 hc.2).2.2 (by first | assumption | omega)).1 ((txt hc.1 hc.2).2.2 (by first | assumption | omega)).2
  · rintro m core h tk ⟨kv, tv, its, e', rfl, rfl, hil, hits⟩ F9 N9 -
    rw [hB0] at F9
    have fr := (N9 _ (.head _)).2.2
    dsimp only
    k_steps
    refine ret _ its e' _ _ (by k_asm) (kept_same N (News.sub1 (by with_reducible assumption) (by k_mem)) (by assumption)) (News.sub1 (by with_reducible assumption) (by k_mem)) ?_ hil hits
    cases q : s.heap.get? _ with
    | none => rfl
    | some o => rw [hgk _ _ (fun e => Nat.ne_of_gt l1 (List.mem_singleton.mp e)) q] at fr; cases fr
end

section
open PySem.Calls PyProof.Rows
theorem ints_snoc {r : Int} {u : Tok} : ∀ {vs : List Value} {ns : List Int}, IntsAre vs ns → IntsAre (vs ++ [.int r u]) (ns ++ [r])
  | _, _, .nil => .cons _ _ .nil
  | _, _, .cons n t x => .cons n t (ints_snoc x)
/-- a comprehension whose elements are drawn -/
theorem rest_fold {prog : Program} {w : World} {A : Around} {h₀ : Heap} {L : Addr} {m : Str → Option Value} {env : Env} {elt : Expr} {x : Str} {scope : Scope} {cl : List (Str × Addr)} {s : Shared} {P : Nat → Value → Prop} {Fin : List Value → List (Addr × Obj) → Prop}
    {n : Nat} {lo hi : Int} {news : List (Addr × Obj)} (core : Nat → Tok → List (Addr × Obj)) {t0 : Tok} (hnews : news = core 0 t0)
    (turn : ∀ i ys t I oI C oC D h tk (E' : Value → Shared → Prop), i < n → Fr h₀ L h m → News h₀ L h ((I, oI) :: (C, oC) :: (D, LCg.lst ys) :: core i t) → LCg.Off3 I C D (core i t) → (@Ne Nat I C ∧ @Ne Nat I D ∧ @Ne Nat C D) →
      wpAny (model prog w) A (eval elt (compEnvC scope cl C env)) (LCg.CompEnd h₀ L m { s with heap := h, toks := tk } I oI C oC D (LCg.lst ys) (fun _ => True) (fun y news' => ∃ r u t', y = .int r u ∧ lo ≤ r ∧ r < hi ∧ news' = core (i + 1) t')) E' { s with heap := h, toks := tk })
    (fin : ∀ ys rs t, IntsAre ys rs → rs.length = n → (∀ r ∈ rs, lo ≤ r ∧ r < hi) → Fin ys (core n t)) :
    LCg.CompRest prog w A h₀ L m env elt x scope cl s (fun _ => True) P Fin n 0 [] news := by
  subst hnews
  have key : ∀ (j i : Nat) (ys : List Value) (rs : List Int) (t : Tok), i + j = n → IntsAre ys rs → rs.length = i → (∀ r ∈ rs, lo ≤ r ∧ r < hi) → LCg.CompRest prog w A h₀ L m env elt x scope cl s (fun _ => True) P Fin j i ys (core i t) := by
    intro j
    induction j with
    | zero =>
      intro i ys rs t hi' hy hl hr
      obtain rfl : i = n := hi'
      exact LCg.CompRest.zero (fin ys rs t hy hl hr)
    | succ j ih =>
      intro i ys rs t hi' hy hl hr
      refine LCg.CompRest.succ ?_
      intro v I oI C oC D m₂ h tk E' _ _ _ F N off ne
      refine wpAny_mono (turn i ys t I oI C oC D h tk E' (by omega) F N off ne) (fun y s₂ hq => ?_) fun _ _ e => e
      obtain ⟨h', tk', nw, e, F', N', off', hS, r, u, t', rfl, h1, h2, rfl⟩ := hq
      refine ⟨h', tk', _, e, F', N', off', hS, ?_⟩
      refine ih (i + 1) _ (rs ++ [r]) t' (by omega) (ints_snoc hy) (by rw [List.length_append, List.length_singleton, hl]) fun q hq => ?_
      rcases List.mem_append.mp hq with hq | hq
      · exact hr q hq
      · rw [List.mem_singleton.mp hq]; exact ⟨h1, h2⟩
  exact key n 0 [] [] t0 (by omega) .nil rfl (fun _ q => nomatch q)
end

section
open PySem.Calls PyProof.Rows
structure FewOk (vs : List Value) (ns : List Int) : Prop where
  are : IntsAre vs ns
  pos : 0 < ns.length
  len : ns.length ≤ 40
  rng : ∀ n ∈ ns, 0 ≤ n ∧ n < 1000003
variable {w : World} {p : Program} {loose : List Str} {mean : ExcName → Option Value} {mg mb : Str → Option Value} {dp un : Nat} {gd : Option (List Code)} {cn : Str} {cs : Scope} {a : Addr} {ccd : Value} {cl : List (Str × Addr)} {outer : List Env} {A₀ : Around} {base h₀ : Heap} {L : Addr} {m : Str → Option Value} {s : Shared} {Q E : Value → Shared → Prop}
/-- one draw inside a larger ledger -/
theorem draw_at {bx fw : Addr} {vs : List Value} {ns : List Int} {k lim : Int} {tk t : Tok} {e1 e2 : Nat} (pre post : List (Addr × Obj)) (B : Below A₀ base outer h₀) (F : Fr h₀ L s.heap m) (X : (Mine.hd.heap_1 w.params).In h₀) (T : Top p loose mean mg mb h₀) (hk : cs.kind = .function)
   (N : News h₀ L s.heap (pre ++ (bx, listOf #[.ref fw, .int k tk] e1) :: post)) (hfw : (fw, listOf vs.toArray e2) ∈ post)
   (h1 : ∀ q ∈ pre, q.1 ≠ bx) (h2 : ∀ q ∈ post, q.1 ≠ bx)
   (hf : FewOk vs ns) (h0 : 0 ≤ k) (hk1 : k < 2^39) (hl : 0 < lim) (hl2 : lim ≤ 256)
   (hd : dp + 1 < recursionLimit) (hu : un + 8 < cLine)
   (ret : ∀ r t h' tk' t', 0 ≤ r → r < lim → Fr h₀ L h' m → News h₀ L h' (pre ++ (bx, listOf #[.ref fw, .int (k+1) t'] e1) :: post) → Q (.int r t) { s with heap := h', toks := tk' }) :
   wpAny (model PG w) (ktrTop dp un gd cn cs L a ccd cl outer) (call (.ref 586) [.ref bx, .int lim t]) Q E s := by
  have hne : @Ne Nat bx fw := fun e => h2 _ hfw e.symm
  refine draw_tells (e1 := e1) (e2 := e2) B F X T hk (News.sub2 N (List.mem_append_right _ (.head _)) (List.mem_append_right _ (.tail _ hfw))) hne hf.are hf.pos hf.len hf.rng h0 (by omega) hl hl2 hd hu fun r t h' tk' t' r0 r1 F' K' N' => ?_
  refine ret r t h' tk' t' r0 r1 F' fun q hq => ?_
  rcases List.mem_append.mp hq with hq | hq
  · exact ⟨K' _ _ (fun z => h1 q hq (List.mem_singleton.mp z)) (N q (List.mem_append_left _ hq)).1, (N q (List.mem_append_left _ hq)).2⟩
  rcases List.mem_cons.mp hq with rfl | hq
  · exact N' _ (.head _)
  · exact ⟨K' _ _ (fun z => h2 q hq (List.mem_singleton.mp z)) (N q (List.mem_append_right _ (.tail _ hq))).1, (N q (List.mem_append_right _ (.tail _ hq))).2⟩
end

/-- the law's own text, taken from the row -/
def lawDef : Option (Arguments × List Stmt × Scope) := PySem.Challenge.rw_eh5006_01.row.prog.theDef (Str.ofString "law")
def lawBody : List Stmt := match lawDef with | some (_, b, _) => b | none => []
def lawScope : Scope := match lawDef with | some (_, _, c) => c | none => default
def lawLoop : List Stmt := match lawBody with | _ :: _ :: .For _ _ b _ _ :: _ => b | _ => []

section
open PySem.Calls PyProof.Rows
local macro_rules | `(tactic| walk_at "eval ListComp") => `(tactic| (k_here; refine Stop.mk ?_))
local macro_rules | `(tactic| walk_at "exec Assign cons ListComp") => `(tactic| (k_here; refine Stop.mk ?_))
local macro_rules | `(tactic| walk_at "CompSrc") => `(tactic| (k_here; refine Stop.mk ?_))
variable {w : World} {p : Program} {loose : List Str} {mean : ExcName → Option Value} {mg mb : Str → Option Value} {dp un : Nat} {gd : Option (List Code)} {cn : Str} {cs : Scope} {a : Addr} {ccd : Value} {cl : List (Str × Addr)} {outer : List Env} {A₀ : Around} {base h₀ : Heap} {L : Addr} {m : Str → Option Value} {s : Shared} {Q E : Value → Shared → Prop}
theorem seg1 {bc bx fw ix : Addr} {oc ox : Obj} {vs : List Value} {ns : List Int} {k : Int} {tk : Tok} {e1 e2 : Nat} {Q : Flow → Shared → Prop} {lb : List Stmt} {sc : Scope} (B : Below A₀ base [] h₀) (F : Fr h₀ L s.heap m) (X : (Mine.hd.heap_1 w.params).In h₀) (T : Top p loose mean mg mb h₀) (hk : cs.kind = .function)
   (hlb : lb = lawLoop) (hsc : sc = lawScope)
   (N : News h₀ L s.heap [(bc, oc), (bx, listOf #[.ref fw, .int k tk] e1), (fw, listOf vs.toArray e2), (ix, ox)])
   (hoc : oc.data = .cell (some (.ref bx))) (hcx : @Ne Nat bc bx) (hfx : @Ne Nat fw bx) (hix : @Ne Nat ix bx) (hf : FewOk vs ns) (h0 : 0 ≤ k) (h1 : k < 2^30)
   (hd : dp + 20 < recursionLimit) (hu : un + 300 < cLine)
   (ret : ∀ rs t k' t' h' tk', KBa.In rs → rs.length ≤ 20 → k ≤ k' → k' ≤ k + 21 → Fr h₀ L h' (fun y => if y = "octets" then some (.bytes (byteArr rs) t) else m y) → News h₀ L h' [(bc, oc), (bx, listOf #[.ref fw, .int k' t'] e1), (fw, listOf vs.toArray e2), (ix, ox)] → Q .next { s with heap := h', toks := tk' }) :
   wpAny (model PG w) (ktrTop dp un gd (Str.ofString "law") sc L 619 (.ref 618) [(Str.ofString "box", bc)] []) (execs (lb.take 1) (envX (Str.ofString "law") sc L 619 (.ref 618) [(Str.ofString "box", bc)])) Q E s := by
  conv at hlb => rhs; whnf
  conv at hsc => rhs; whnf
  subst hlb hsc
  simp only [List.take_succ_cons, List.take_zero]
  k_steps
  refine Stop.out (LCg.ListComp_U (cl := [(Str.ofString "box", bc)]) (F₀ := by k_asm) (by rfl) (by decide) (by rfl) (by decide) (by rfl) ?_)
  k_fold
  k_steps
  refine Stop.out (draw_at [(bc, oc)] [(fw, listOf vs.toArray e2), (ix, ox)] (by k_asm) (by k_asm) (by k_asm) (by k_asm) rfl N (.head _) (by simpa using hcx) (by simpa using ⟨hfx, hix⟩) hf h0 (by omega) (by decide) (by decide) (by ktr_room) (by ktr_units) fun r u h' tk' t' r0 r1 F' N' => ?_)
  simp only [List.cons_append, List.nil_append] at N'
  k_steps
  refine Stop.out (LCg.CompSrc.range (by rfl) (by k_asm) (by k_asm) (by assumption) (small_one (by decide) (by decide) (by omega) (by omega)) (rangeSize_nat 0 r) (Nat.le_trans (by omega : (r - 0).toNat ≤ 21) (by decide)) fun g => ?_)
  refine rest_fold (lo := 0) (hi := 256) (fun i t => [(bc, oc), (bx, listOf #[.ref fw, .int (k + 1 + (i : Nat)) t] e1), (fw, listOf vs.toArray e2), (ix, ox)]) (t0 := t') (by simp) ?_ ?_
  · intro i ys t I oI C oC D h2 tk2 E' hi2 F2 N2 off ne
    simp only [LCg.Off3, and_true] at off
    k_fold
    k_steps
    refine Stop.out (draw_at [(I, oI), (C, oC), (D, LCg.lst ys), (bc, oc)] [(fw, listOf vs.toArray e2), (ix, ox)] (by k_asm) (by k_asm) (by k_asm) (by k_asm) rfl N2 (.head _) ?_ (by simpa using ⟨hfx, hix⟩) hf (by omega) (by omega) (by decide) (by decide) (by ktr_room) (by ktr_units) fun r2 u2 h3 tk3 t3 q0 q1 F3 N3 => ?_)
    · intro q hq
      simp only [List.mem_cons, List.not_mem_nil, or_false] at hq
      rcases hq with rfl | rfl | rfl | rfl
      · exact fun e => off.2.1.1 e.symm
      · exact fun e => off.2.1.2.1 e.symm
      · exact fun e => off.2.1.2.2 e.symm
      · exact hcx
    · have e : k + 1 + (i : Nat) + 1 = k + 1 + ((i + 1 : Nat) : Int) := by omega
      rw [e] at N3
      exact ⟨h3, tk3, _, rfl, F3, N3, ⟨off.1, off.2.1, off.2.2.1, off.2.2.2, trivial⟩, trivial, r2, u2, t3, rfl, q0, q1, rfl⟩
  · intro ys rs t hi2 hl hr
    k_steps
    exact ret rs _ (k + 1 + ((r - 0).toNat : Int)) _ _ _ (by assumption) (by omega) (by omega) (by omega) (by assumption) (News.sub (by with_reducible assumption) fun q hq => .tail _ hq)
end

section
open PySem.Calls PyProof.Rows
local macro_rules | `(tactic| walk_at "eval ListComp") => `(tactic| (k_here; refine Stop.mk ?_))
local macro_rules | `(tactic| walk_at "exec Assign cons ListComp") => `(tactic| (k_here; refine Stop.mk ?_))
local macro_rules | `(tactic| walk_at "CompEnd") => `(tactic| (k_here; refine Stop.mk ?_))
local macro_rules | `(tactic| walk_at "FinA") => `(tactic| (k_here; refine Stop.mk ?_))
local macro_rules | `(tactic| walk_at "CompSrc") => `(tactic| (k_here; refine Stop.mk ?_))
variable {w : World} {p : Program} {loose : List Str} {mean : ExcName → Option Value} {mg mb : Str → Option Value} {dp un : Nat} {gd : Option (List Code)} {cn : Str} {cs : Scope} {a : Addr} {ccd : Value} {cl : List (Str × Addr)} {outer : List Env} {A₀ : Around} {base h₀ : Heap} {L : Addr} {m : Str → Option Value} {s : Shared} {Q E : Value → Shared → Prop}
theorem seg2 {bc bx fw ix : Addr} {oc ox : Obj} {vs : List Value} {ns : List Int} {k : Int} {tk to : Tok} {e1 e2 : Nat} {rs : List Int} {Q : Flow → Shared → Prop} {lb : List Stmt} {sc : Scope} (B : Below A₀ base [] h₀)
   (F : Fr h₀ L s.heap (fun y => if y = "octets" then some (.bytes (byteArr rs) to) else m y)) (X : (Mine.hd.heap_1 w.params).In h₀) (T : Top p loose mean mg mb h₀)
   (hlb : lb = lawLoop) (hsc : sc = lawScope)
   (N : News h₀ L s.heap [(bc, oc), (bx, listOf #[.ref fw, .int k tk] e1), (fw, listOf vs.toArray e2), (ix, ox)])
   (hoc : oc.data = .cell (some (.ref bx))) (hcx : @Ne Nat bc bx) (hfx : @Ne Nat fw bx) (hix : @Ne Nat ix bx) (hf : FewOk vs ns) (h0 : 0 ≤ k) (h1 : k < 2^30 + 100) (hrs : KBa.In rs) (hrl : rs.length ≤ 20)
   (hd : dp + 20 < recursionLimit) (hu : un + 300 < cLine)
   (ret : ∀ st sp fo wr ts tp tf tw cn cys cs k' t' h' tk', 0 ≤ st → st < (rs.length : Int) + 3 → 0 ≤ fo → fo < 6 → 0 ≤ wr → wr < 5 → 0 ≤ sp → sp < (cs.length : Int) + 1 → IntsAre cys cs → cs.length ≤ 6 → (∀ c ∈ cs, -2 ≤ c ∧ c < 10) → k ≤ k' → k' ≤ k + 20 →
      Fr h₀ L h' (fun y => if y = "spot" then some (.int sp tp) else if y = "wrong" then some (.int wr tw) else if y = "form" then some (.int fo tf) else if y = "counts" then some (.ref cn) else if y = "start" then some (.int st ts) else if y = "octets" then some (.bytes (byteArr rs) to) else m y) →
      News h₀ L h' [(bc, oc), (bx, listOf #[.ref fw, .int k' t'] e1), (fw, listOf vs.toArray e2), (ix, ox), (cn, listOf cys.toArray cys.length)] → @Ne Nat cn bc → @Ne Nat cn bx → @Ne Nat cn fw → Q .next { s with heap := h', toks := tk' }) :
   wpAny (model PG w) (ktrTop dp un gd (Str.ofString "law") sc L 619 (.ref 618) [(Str.ofString "box", bc)] []) (execs ((lb.drop 1).take 5) (envX (Str.ofString "law") sc L 619 (.ref 618) [(Str.ofString "box", bc)])) Q E s := by
  conv at hlb => rhs; whnf
  conv at hsc => rhs; whnf
  subst hlb hsc
  simp only [List.take_succ_cons, List.take_zero, List.drop_succ_cons, List.drop_zero]
  have hbk := KBa.ints_make hrs
  k_steps
  refine Stop.out (draw_at [(bc, oc)] [(fw, listOf vs.toArray e2), (ix, ox)] (by k_asm) (by k_asm) (by k_asm) (by k_asm) rfl N (.head _) (by simpa using hcx) (by simpa using ⟨hfx, hix⟩) hf h0 (by omega) (by omega) (by omega) (by ktr_room) (by ktr_units) fun st ts h2 tk2 t2 st0 st1 F2 N2 => ?_)
  simp only [List.cons_append, List.nil_append] at N2
  k_steps
  refine Stop.out (LCg.Assign_ListComp_U (cl := [(Str.ofString "box", bc)]) (F₀ := by k_asm) (by rfl) (by with_unfolding_all rfl) (by rfl) (by decide) (by rfl) (by decide) (by rfl) (by rfl) (by rfl) ?_)
  k_fold
  k_steps
  rename News _ _ _ _ => N3
  refine Stop.out (draw_at [(bc, oc)] [(fw, listOf vs.toArray e2), (ix, ox)] (by k_asm) (by k_asm) (by k_asm) (by k_asm) rfl N3 (.head _) (by simpa using hcx) (by simpa using ⟨hfx, hix⟩) hf (by omega) (by omega) (by decide) (by decide) (by ktr_room) (by ktr_units) fun r u h4 tk4 t4 r0 r1 F4 N4 => ?_)
  simp only [List.cons_append, List.nil_append] at N4
  k_steps
  refine Stop.out (LCg.CompSrc.range (by rfl) (by k_asm) (by k_asm) (by assumption) (small_one (by decide) (by decide) (by omega) (by omega)) (rangeSize_nat 0 r) (Nat.le_trans (by omega : (r - 0).toNat ≤ 21) (by decide)) fun g => ?_)
  refine rest_fold (lo := -2) (hi := 10) (fun i t => [(bc, oc), (bx, listOf #[.ref fw, .int (k + 1 + 1 + (i : Nat)) t] e1), (fw, listOf vs.toArray e2), (ix, ox)]) (t0 := t4) (by simp) ?_ ?_
  · intro i ys t I oI C oC D h5 tk5 E' hi5 F5 N5 off ne
    simp only [LCg.Off3, and_true] at off
    k_fold
    k_steps
    refine Stop.out (draw_at [(I, oI), (C, oC), (D, LCg.lst ys), (bc, oc)] [(fw, listOf vs.toArray e2), (ix, ox)] (by k_asm) (by k_asm) (by k_asm) (by k_asm) rfl N5 (.head _) ?_ (by simpa using ⟨hfx, hix⟩) hf (by omega) (by omega) (by decide) (by decide) (by ktr_room) (by ktr_units) fun r2 u2 h6 tk6 t6 q0 q1 F6 N6 => ?_)
    · intro q hq
      simp only [List.mem_cons, List.not_mem_nil, or_false] at hq
      rcases hq with rfl | rfl | rfl | rfl
      · exact fun e => off.2.1.1 e.symm
      · exact fun e => off.2.1.2.1 e.symm
      · exact fun e => off.2.1.2.2 e.symm
      · exact hcx
    · have e : k + 1 + 1 + (i : Nat) + 1 = k + 1 + 1 + ((i + 1 : Nat) : Int) := by omega
      rw [e] at N6
      simp only [List.cons_append, List.nil_append] at N6
      k_steps
      rename Fr _ _ _ _ => F7
      rename News _ _ _ _ => N7
      exact Stop.out ⟨_, _, _, rfl, F7, N7, ⟨off.1, off.2.1, off.2.2.1, off.2.2.2, trivial⟩, trivial, r2 - 2, _, t6, rfl, by omega, by omega, rfl⟩
  · intro cys cs t hi2 hl hr
    intro cn h6 tk6 F6 N6 o6
    simp only [LCg.Off1, and_true] at o6
    have hpre : ∀ q ∈ [(cn, LCg.lst cys), (bc, oc)], q.1 ≠ bx := by
      intro q hq
      simp only [List.mem_cons, List.not_mem_nil, or_false] at hq
      rcases hq with rfl | rfl
      · exact fun e => o6.2.1 e.symm
      · exact hcx
    have hcl := hi2.length
    k_steps
    rename News _ _ _ _ => N7
    refine Stop.out (draw_at [(cn, LCg.lst cys), (bc, oc)] [(fw, listOf vs.toArray e2), (ix, ox)] (by k_asm) (by k_asm) (by k_asm) (by k_asm) rfl N7 (.head _) hpre (by simpa using ⟨hfx, hix⟩) hf (by omega) (by omega) (by decide) (by decide) (by ktr_room) (by ktr_units) fun fo tf h8 tk8 t8 fo0 fo1 F8 N8 => ?_)
    simp only [List.cons_append, List.nil_append] at N8
    k_steps
    rename News _ _ _ _ => N9
    refine Stop.out (draw_at [(cn, LCg.lst cys), (bc, oc)] [(fw, listOf vs.toArray e2), (ix, ox)] (by k_asm) (by k_asm) (by k_asm) (by k_asm) rfl N9 (.head _) hpre (by simpa using ⟨hfx, hix⟩) hf (by omega) (by omega) (by decide) (by decide) (by ktr_room) (by ktr_units) fun wr tw h10 tk10 t10 wr0 wr1 F10 N10 => ?_)
    simp only [List.cons_append, List.nil_append] at N10
    k_steps
    rename News _ _ _ _ => N11
    refine Stop.out (draw_at [(cn, LCg.lst cys), (bc, oc)] [(fw, listOf vs.toArray e2), (ix, ox)] (by k_asm) (by k_asm) (by k_asm) (by k_asm) rfl N11 (.head _) hpre (by simpa using ⟨hfx, hix⟩) hf (by omega) (by omega) (by omega) (by omega) (by ktr_room) (by ktr_units) fun sp tp h12 tk12 t12 sp0 sp1 F12 N12 => ?_)
    simp only [List.cons_append, List.nil_append] at N12
    k_steps
    rename Fr _ _ _ _ => F13
    rename News _ _ _ _ => N13
    exact ret st sp fo wr _ _ _ _ cn cys cs (k + 1 + 1 + ((r - 0).toNat : Int) + 1 + 1 + 1) t12 _ _ st0 st1 fo0 fo1 wr0 wr1 sp0 sp1 hi2 (by omega) hr (by omega) (by omega) F13 (News.sub N13 fun q hq => by simp only [List.mem_cons, List.not_mem_nil, or_false] at hq ⊢; rcases hq with h | h | h | h | h <;> simp [h]) (Ne.symm o6.1) (Ne.symm o6.2.1) (Ne.symm o6.2.2.1)
end

local macro_rules | `(tactic| walk_at "eval Name") => `(tactic| (k_here; (with_reducible show wpAny _ _ (eval (Expr.Name (Str.ofString "bytearray") _) (envX _ _ _ _ _ _)) _ _ _); k_dflt (refine' nameX_B ?F ?X ?T ?e ?v ?n ?_ ?a ?b; (case F => k_asm); (case X => k_asm); (case T => k_asm); (case a => rfl); (case b => rfl); (case e => k_is); (case v => boot_by_name); (case n => decide); k_whole)))

section
open PySem.Calls PyProof.Rows
def DataIs (dv : Value) (dn : List (Addr × Obj)) (b : Array UInt8) : Prop := (∃ t, dv = .bytes b t ∧ dn = []) ∨ (∃ d, dv = .ref d ∧ dn = [(d, baObj b)])
theorem DataIs.ok {dv : Value} {dn : List (Addr × Obj)} {b : Array UInt8} (h : DataIs dv dn b) : DataOk dn dv b := by
  rcases h with ⟨t, rfl, rfl⟩ | ⟨d, rfl, rfl⟩
  · exact .inl ⟨t, rfl⟩
  · exact .inr ⟨d, rfl, .head _⟩
variable {w : World} {p : Program} {loose : List Str} {mean : ExcName → Option Value} {mg mb : Str → Option Value} {dp un : Nat} {gd : Option (List Code)} {cn : Str} {cs : Scope} {a : Addr} {ccd : Value} {cl : List (Str × Addr)} {outer : List Env} {A₀ : Around} {base h₀ : Heap} {L : Addr} {m : Str → Option Value} {s : Shared} {Q E : Value → Shared → Prop}
theorem seg3 {bc bx fw cn ix : Addr} {oc ox : Obj} {vs cys : List Value} {ns cs rs : List Int} {k st sp fo wr : Int} {tkb to ts tp tf tw : Tok} {e1 e2 : Nat} {lb : List Stmt} {sc : Scope} {Q : Flow → Shared → Prop} (B : Below A₀ base [] h₀)
   (F : Fr h₀ L s.heap (fun y => (if y = "spot" then some (.int sp tp) else if y = "wrong" then some (.int wr tw) else if y = "form" then some (.int fo tf) else if y = "counts" then some (.ref cn) else if y = "start" then some (.int st ts) else if y = "octets" then some (.bytes (byteArr rs) to) else m y))) (X : (Mine.hd.heap_1 w.params).In h₀) (T : Top p loose mean mg mb h₀)
   (hlb : lb = lawLoop) (hsc : sc = lawScope)
   (N : News h₀ L s.heap [(bc, oc), (bx, listOf #[.ref fw, .int k tkb] e1), (fw, listOf vs.toArray e2), (ix, ox), (cn, listOf cys.toArray cys.length)])
   (hoc : oc.data = .cell (some (.ref bx))) (hcx : @Ne Nat bc bx) (hfx : @Ne Nat fw bx) (hnx : @Ne Nat cn bx) (hix : @Ne Nat ix bx) (hf : FewOk vs ns) (h0 : 0 ≤ k) (h1 : k < 2^30 + 200) (hrs : KBa.In rs) (hrl : rs.length ≤ 20)
   (hd : dp + 20 < recursionLimit) (hu : un + 300 < cLine)
   (ret : ∀ dv dn t' h' tk', DataIs dv dn (byteArr rs) → (∀ q ∈ dn, @Ne Nat q.1 bc ∧ @Ne Nat q.1 bx ∧ @Ne Nat q.1 fw ∧ @Ne Nat q.1 cn) →
      Fr h₀ L h' (fun y => if y = "data" then some dv else (if y = "spot" then some (.int sp tp) else if y = "wrong" then some (.int wr tw) else if y = "form" then some (.int fo tf) else if y = "counts" then some (.ref cn) else if y = "start" then some (.int st ts) else if y = "octets" then some (.bytes (byteArr rs) to) else m y)) →
      News h₀ L h' ([(bc, oc), (bx, listOf #[.ref fw, .int (k + 1) t'] e1), (fw, listOf vs.toArray e2), (ix, ox), (cn, listOf cys.toArray cys.length)] ++ dn) → Q .next { s with heap := h', toks := tk' }) :
   wpX (model PG w) (ktrTop dp un gd (Str.ofString "law") sc L 619 (.ref 618) [(Str.ofString "box", bc)] []) (execs ((lb.drop 6).take 2) (envX (Str.ofString "law") sc L 619 (.ref 618) [(Str.ofString "box", bc)])) Q E s := by
  conv at hlb => rhs; whnf
  conv at hsc => rhs; whnf
  subst hlb hsc
  simp only [List.take_succ_cons, List.take_zero, List.drop_succ_cons, List.drop_zero]
  have hbk := KBa.ints_make hrs
  refine wpX_execs_cut 1 ?_
  dsimp only [List.take_succ_cons, List.take_zero, List.drop_succ_cons, List.drop_zero]
  k_steps
  refine wpX_execs_cons (wpX_If (wpX_of ?_))
  k_fold
  k_steps
  rename News _ _ _ _ => N1
  refine Stop.out (draw_at [(bc, oc)] [(fw, listOf vs.toArray e2), (ix, ox), (cn, listOf cys.toArray cys.length)] (by k_asm) (by k_asm) (by k_asm) (by k_asm) rfl N1 (.head _) (by simpa using hcx) (by simpa using ⟨hfx, hix, hnx⟩) hf h0 (by omega) (by decide) (by decide) (by ktr_room) (by ktr_units) fun r u h2 tk2 t2 r0 r1 F2 N2 => ?_)
  simp only [List.cons_append, List.nil_append] at N2
  k_steps
  · refine wpX_execs_cons (wpX_Assign_Name (wpX_Call ?_))
    k_fold
    k_steps
    refine wpX_callType1 ?_
    k_steps
    have hbs : (byteArr rs).size = rs.length := by unfold byteArr; simp
    refine ba_new_bytes (by rw [sizeLine_eq]; omega) (baNew_led (by k_asm) (by k_asm) fun da h9 F9 N9 l9 => ?_)
    k_steps
    refine wpX_execs_nil ?_
    refine wpX_execs_nil ?_
    rename Fr _ _ _ _ => F10
    rename News _ _ _ _ => N10
    refine ret (.ref da) [(da, baObj (byteArr rs))] t2 _ _ (.inr ⟨da, rfl, rfl⟩) (fun q hq => ?_) (Fr.eqm F10 fun z => ?_) (News.sub N10 fun q hq => ?_)
    · rw [List.mem_singleton.mp hq]
      exact ⟨Nat.ne_of_gt (l9 (bc, oc) (by simp)), Nat.ne_of_gt (l9 (bx, _) (.tail _ (.head _))), Nat.ne_of_gt (l9 (fw, _) (.tail _ (.tail _ (.head _)))), Nat.ne_of_gt (l9 (cn, _) (.tail _ (.tail _ (.tail _ (.tail _ (.head _))))))⟩
    · by_cases q1 : z = "data"
      · subst q1; rfl
      · simp only [q1, if_false]
    · simp only [List.cons_append, List.nil_append, List.mem_cons, List.not_mem_nil, or_false] at hq ⊢
      rcases hq with h | h | h | h | h | h <;> simp [h]
  · refine wpX_execs_nil ?_
    refine wpX_execs_nil ?_
    rename Fr _ _ _ _ => F10
    rename News _ _ _ _ => N10
    exact ret (.bytes (byteArr rs) to) [] _ _ _ (.inl ⟨to, rfl, rfl⟩) (fun q hq => nomatch hq) F10 (by simpa using N10)
end

section
open PySem.Calls PyProof.Rows
theorem onceOf_len (ns : List Int) : (onceOf ns).length ≤ ns.length := by
  have := on_len (ns := ns) ns.length (Nat.le_refl _)
  rw [List.take_length] at this
  exact this
theorem once_fold_mem {c : Int} : ∀ {ns z : List Int}, c ∈ ns.foldl onStep z → c ∈ z ∨ c ∈ ns
  | [], _, h => .inl h
  | n :: ns, z, h => by
    rcases once_fold_mem (ns := ns) h with h | h
    · unfold onStep at h
      split at h
      · exact .inl h
      · rcases List.mem_append.mp h with h | h
        · exact .inl h
        · exact .inr (by rw [List.mem_singleton.mp h]; exact .head _)
    · exact .inr (.tail _ h)
theorem onceOf_mem {ns : List Int} {c : Int} (h : c ∈ onceOf ns) : c ∈ ns := (once_fold_mem h).elim (fun q => nomatch q) id
variable {w : World} {p : Program} {loose : List Str} {mean : ExcName → Option Value} {mg mb : Str → Option Value} {dp un : Nat} {gd : Option (List Code)} {cn : Str} {cs : Scope} {a : Addr} {ccd : Value} {cl : List (Str × Addr)} {outer : List Env} {A₀ : Around} {base h₀ : Heap} {L : Addr} {m : Str → Option Value} {s : Shared} {Q E : Value → Shared → Prop}
theorem seg4 {bc bx fw cn ix : Addr} {oc ox : Obj} {vs cys : List Value} {ns cs rs : List Int} {k st sp fo wr : Int} {tkb to ts tp tf tw : Tok} {e1 e2 : Nat} {lb : List Stmt} {sc : Scope} {dv : Value} {dn : List (Addr × Obj)} {Q : Flow → Shared → Prop} (B : Below A₀ base [] h₀)
   (F : Fr h₀ L s.heap (fun y => if y = "data" then some dv else (if y = "spot" then some (.int sp tp) else if y = "wrong" then some (.int wr tw) else if y = "form" then some (.int fo tf) else if y = "counts" then some (.ref cn) else if y = "start" then some (.int st ts) else if y = "octets" then some (.bytes (byteArr rs) to) else m y))) (X : (Mine.hd.heap_1 w.params).In h₀) (T : Top p loose mean mg mb h₀)
   (hlb : lb = lawLoop) (hsc : sc = lawScope)
   (N : News h₀ L s.heap ([(bc, oc), (bx, listOf #[.ref fw, .int k tkb] e1), (fw, listOf vs.toArray e2), (ix, ox), (cn, listOf cys.toArray cys.length)] ++ dn)) (hrs : KBa.In rs) (hrl : rs.length ≤ 20)
   (hi : IntsAre cys cs) (hcl : cs.length ≤ 6) (hcr : ∀ c ∈ cs, -2 ≤ c ∧ c < 10) (st0 : 0 ≤ st) (st1 : st < (rs.length : Int) + 3)
   (hd : dp + 20 < recursionLimit) (hu : un + 300 < cLine)
   (ret : ∀ td h' tk', Fr h₀ L h' (fun y => if y = "due" then some (.bytes (byteArr (wkOut rs (if fo = 3 then onceOf cs else cs) st.toNat)) td) else if y = "data" then some dv else (if y = "spot" then some (.int sp tp) else if y = "wrong" then some (.int wr tw) else if y = "form" then some (.int fo tf) else if y = "counts" then some (.ref cn) else if y = "start" then some (.int st ts) else if y = "octets" then some (.bytes (byteArr rs) to) else m y)) →
      News h₀ L h' ([(bc, oc), (bx, listOf #[.ref fw, .int k tkb] e1), (fw, listOf vs.toArray e2), (ix, ox), (cn, listOf cys.toArray cys.length)] ++ dn) → Q .next { s with heap := h', toks := tk' }) :
   wpAny (model PG w) (ktrTop dp un gd (Str.ofString "law") sc L 619 (.ref 618) [(Str.ofString "box", bc)] []) (execs ((lb.drop 8).take 2) (envX (Str.ofString "law") sc L 619 (.ref 618) [(Str.ofString "box", bc)])) Q E s := by
  conv at hlb => rhs; whnf
  conv at hsc => rhs; whnf
  subst hlb hsc
  simp only [List.take_succ_cons, List.take_zero, List.drop_succ_cons, List.drop_zero]
  simp only [List.cons_append, List.nil_append] at N
  have hcy := hi.length
  k_steps
  refine Stop.out (walk_tells (by k_asm) (by k_asm) (by k_asm) (by k_asm) rfl (News.get (by k_asm) (by k_mem)) hi (by omega) (fun c hc => by have := hcr c hc; omega) hrs hrl st0 (by omega) (by ktr_room) (by ktr_units) fun td h2 tk2 F2 K2 => ?_)
  have N2 := News.kept N K2 (fun _ _ q => nomatch q)
  k_steps
  · rename Fr _ _ _ _ => F3
    rename News _ _ _ _ => N3
    refine Stop.out (once_tells (by k_asm) (by k_asm) (by k_asm) (by k_asm) rfl (News.get (by k_asm) (by k_mem)) hi (by omega) (by ktr_room) (by ktr_units) fun rl e5 its h4 tk4 F4 K4 N4 new4 hi4 => ?_)
    have N5 := News.kept N3 K4 (fun _ _ q => nomatch q)
    k_steps
    refine Stop.out (walk_tells (by k_asm) (by k_asm) (by k_asm) (by k_asm) rfl (News.get N4 (.head _)) hi4 (Nat.le_trans (onceOf_len cs) (by omega)) (fun c hc => by have := hcr c (onceOf_mem hc); omega) hrs hrl st0 (by omega) (by ktr_room) (by ktr_units) fun td2 h6 tk6 F6 K6 => ?_)
    have N6 := News.kept N5 K6 (fun _ _ q => nomatch q)
    k_steps
    rename Fr _ _ _ _ => F7
    rename News _ _ _ _ => N7
    refine ret td2 _ _ (Fr.eqm F7 fun z => ?_) N7
    by_cases q1 : z = "due"
    · subst q1
      simp_all
    · simp only [q1, if_false]
  · rename Fr _ _ _ _ => F3
    rename News _ _ _ _ => N3
    refine ret td _ _ (Fr.eqm F3 fun z => ?_) N3
    by_cases q1 : z = "due"
    · subst q1
      simp_all
    · simp only [q1, if_false]
end

section
open PySem.Calls PyProof.Rows
/-- a value that byteswap's loop can run over -/
def Feed (w : World) (fv : Value) (ns : List Int) (itn bs : List (Addr × Obj)) (Dn : Addr → Heap → Prop) : Prop :=
  ∃ St P, IterS w bs St ns.length P Dn ∧ Opens w bs itn fv St ∧ ∀ i v, i < ns.length → P i v → IntsTo w v (ns.getD i 0)
theorem feed_of {w : World} {fv : Value} {ns : List Int} {itn bs : List (Addr × Obj)} {Dn : Addr → Heap → Prop} {St : Nat → Obj → Prop} {P : Nat → Value → Prop} {n : Nat} (hn : n = ns.length) (hI : IterS w bs St n P Dn) (hO : Opens w bs itn fv St) (hP : ∀ i v, i < ns.length → P i v → IntsTo w v (ns.getD i 0)) : Feed w fv ns itn bs Dn := by
  subst hn
  exact ⟨_, _, hI, hO, hP⟩
theorem ints_getD {w : World} {vs : List Value} {ns : List Int} (hi : IntsAre vs ns) {i : Nat} {v : Value} (h : vs[i]? = some v) : IntsTo w v (ns.getD i 0) := by
  obtain ⟨n, t, rfl, hn⟩ := IntsAre.at hi i v h
  rw [List.getD_eq_getElem?_getD, hn]
  exact ints_int
theorem feed_list {w : World} {l : Addr} {vs : List Value} {ns : List Int} {e : Nat} (hn : vs.length = ns.length) (h : ∀ (i : Nat) v, vs[i]? = some v → IntsTo w v (ns.getD i 0)) : Feed w (.ref l) ns [] [(l, listOf vs.toArray e)] (fun _ _ => True) :=
  feed_of (by rw [List.size_toArray]; exact hn) iter_list opens_list fun i v _ hp => h i v (by simpa using hp)
theorem feed_tuple {w : World} {l : Addr} {ob : Obj} {vs : List Value} {ns : List Int} {e : Nat} (hc : ob.cls = .type "tuple") (hd : ob.data = .seq vs.toArray e) (hi : IntsAre vs ns) : Feed w (.ref l) ns [] [(l, ob)] (fun _ _ => True) :=
  feed_of (by rw [List.size_toArray]; exact hi.length) (iter_tuple hc hd) (opens_tuple hc hd) fun i v _ hp => ints_getD hi (by simpa using hp)
theorem feed_self {w : World} {l I : Addr} {o : Obj} {vs : List Value} {ns : List Int} {e : Nat} (ho : recIt "list_iterator" #[.ref l, .int (0 : Nat) 0] o) (hi : IntsAre vs ns) : Feed w (.ref I) ns [(I, o)] [(l, listOf vs.toArray e)] ItDone :=
  feed_of (by rw [List.size_toArray]; exact hi.length) iter_self (opens_self ho) fun i v _ hp => ints_getD hi (by simpa using hp)
theorem feed_dict {w : World} {d : Addr} {od : Obj} {kvs : List (Int × Value)} {ns : List Int} (hs : (d == sysModules) = false) (h : od.IsDictOf (PySem.intKind PG w) kvs) (hk : kvs.map (·.1) = ns) : Feed w (.ref d) ns [] [(d, od)] (fun _ _ => True) := by
  obtain ⟨es, ep, r⟩ := h
  have hd : ∀ h : Heap, h.get? d = some od → h.DictAt (PySem.intKind PG w) d kvs ep := fun h e => ⟨od, es, e, r⟩
  have hl : kvs.length = ns.length := by rw [← hk, List.length_map]
  refine feed_of hl (iter_dict hd) (opens_dict hs hd) ?_
  rintro i v - ⟨k, x, e, hv⟩
  obtain ⟨t, rfl⟩ := Value.isInt_shape hv
  have e2 : ns.getD i 0 = k := by
    rw [← hk, List.getD_eq_getElem?_getD, List.getElem?_map, e]
    rfl
  rw [e2]
  exact ints_int
theorem feed_range {w : World} {r : Addr} {a : Int} {t u v : Tok} (h0 : -1000 < a) (h1 : a < 1000) : Feed w (.ref r) [a, a + 1, a + 2] [] [(r, { cls := .type "range", dict := none, data := .fields #[.int a t, .int (a + 3) u, .int 1 v], slots := #[] })] (fun _ _ => True) := by
  refine feed_of (n := 3) rfl (iter_range (r := r) (a := a) (c := 1)) (opens_range (small_one (by omega) (by omega) (by omega) (by omega)) (by rw [rangeSize_nat]; omega)) ?_
  rintro i v hi ⟨t, rfl⟩
  have hi' : i < 3 := hi
  have e : [a, a + 1, a + 2].getD i 0 = a + i * 1 := by
    obtain rfl | rfl | rfl : i = 0 ∨ i = 1 ∨ i = 2 := by omega
    · simp
    · simp
    · simp
  rw [e]
  exact ints_int
theorem feed_bytes {w : World} {b : Array UInt8} {t : Tok} {ns : List Int} (hn : b.size = ns.length) (h : ∀ (i : Nat) c, b[i]? = some c → ((c.toNat : Nat) : Int) = ns.getD i 0) : Feed w (.bytes b t) ns [] [] (fun _ _ => True) := by
  refine feed_of hn iter_bytes opens_bytes ?_
  rintro i v - ⟨c, u, e, rfl⟩
  rw [← h i c e]
  exact ints_int
variable {w : World} {p : Program} {loose : List Str} {mean : ExcName → Option Value} {mg mb : Str → Option Value} {dp un : Nat} {gd : Option (List Code)} {cn : Str} {cs : Scope} {a : Addr} {ccd : Value} {cl : List (Str × Addr)} {outer : List Env} {A₀ : Around} {base h₀ : Heap} {L : Addr} {m : Str → Option Value} {s : Shared} {Q E : Value → Shared → Prop}
theorem forms_tells {l : Addr} {vs : List Value} {ns : List Int} {e1 : Nat} {fo : Int} {tf : Tok} (f0 : 0 ≤ fo) (f1 : fo < 6) (B : Below A₀ base outer h₀) (F : Fr h₀ L s.heap m) (X : (Mine.hd.heap_1 w.params).In h₀) (T : Top p loose mean mg mb h₀) (hk : cs.kind = .function)
   (N : News h₀ L s.heap [(l, listOf vs.toArray e1)]) (hi : IntsAre vs ns) (hlen : ns.length ≤ 6) (hr : ∀ c ∈ ns, -2 ≤ c ∧ c < 10)
   (hd : dp + 1 < recursionLimit) (hu : un + 8 < cLine)
   (ret : ∀ lv itn bs Dn h' tk', Fr h₀ L h' m → Kept [] s.heap h' → Feed w lv (if fo = 3 then onceOf ns else ns) itn bs Dn → (∀ I h h', Dn I h → (∀ o, h.get? I = some o → h'.get? I = some o) → Dn I h') →
      News h₀ L h' (itn ++ bs) → (∀ q ∈ itn ++ bs, q.1 = l ∨ s.heap.get? q.1 = none) → (∀ q ∈ bs, ∀ r ∈ itn, q.1 ≠ r.1) → (fo = 4 → ∃ I o, itn = [(I, o)] ∧ lv = .ref I ∧ Dn = ItDone) → (fo ≠ 4 → itn = []) → Q lv { s with heap := h', toks := tk' }) :
   wpAny (model PG w) (ktrTop dp un gd cn cs L a ccd cl outer) (call (.ref 600) [.ref l, .int fo tf]) Q E s := by
  have hcy := hi.length
  have hl : s.heap.get? l = some (listOf vs.toArray e1) := (N _ (.head _)).1
  have hnew : ∀ {d : Addr} {h' : Heap}, s.heap.get? d = none → @Ne Nat l d := fun h e => by rw [e, h] at hl; cases hl
  have c : fo = 0 ∨ fo = 1 ∨ fo = 2 ∨ fo = 3 ∨ fo = 4 ∨ fo = 5 := by omega
  have t05 : fo = 0 ∨ fo = 5 → wpAny (model PG w) (ktrTop dp un gd cn cs L a ccd cl outer) (call (.ref 600) [.ref l, .int fo tf]) Q E s := fun q => by
    refine form05_tells q B F X T hk N (by omega) hd hu fun h' tk' F' K' => ?_
    have hn : fo ≠ 3 := by omega
    refine ret (.ref l) [] [(l, listOf vs.toArray e1)] _ h' tk' F' K' (by rw [if_neg hn]; exact feed_list hcy fun i v hp => ints_getD hi hp) (fun _ _ _ _ _ => trivial) (News.kept N K' fun _ _ q => nomatch q) (fun q hq => .inl (by rw [List.mem_singleton.mp hq])) (fun _ _ _ q => nomatch q) (fun q => by omega) fun _ => rfl
  rcases c with h | h | h | h | h | h
  · exact t05 (.inl h)
  · subst h
    refine form1_tells B F X T hk N (by omega) hd hu fun d h' tk' F' K' N' nw => ?_
    exact ret (.ref d) [] [(d, _)] _ h' tk' F' K' (feed_tuple rfl rfl hi) (fun _ _ _ _ _ => trivial) N' (fun q hq => .inr (by rw [List.mem_singleton.mp hq]; exact nw)) (fun _ _ _ q => nomatch q) (fun q => by omega) fun _ => rfl
  · subst h
    refine form2_tells B F X T hk N hi (by omega) (fun c hc => by have := hr c hc; omega) hd hu fun d its e h' tk' F' K' N' nw hl2 hits => ?_
    exact ret (.ref d) [] [(d, _)] _ h' tk' F' K' (feed_list hl2 hits) (fun _ _ _ _ _ => trivial) N' (fun q hq => .inr (by rw [List.mem_singleton.mp hq]; exact nw)) (fun _ _ _ q => nomatch q) (fun q => by omega) fun _ => rfl
  · subst h
    refine form3_tells B F X T hk hl hi (by omega) hd hu fun d od kvs h' tk' F' K' N' nw hs hod hks => ?_
    exact ret (.ref d) [] [(d, od)] _ h' tk' F' K' (feed_dict hs hod hks) (fun _ _ _ _ _ => trivial) N' (fun q hq => .inr (by rw [List.mem_singleton.mp hq]; exact nw)) (fun _ _ _ q => nomatch q) (fun q => by omega) fun _ => rfl
  · subst h
    refine form4_tells B F X T hk N (by omega) hd hu fun d h' tk' F' K' N' nw => ?_
    refine ret (.ref d) [(d, _)] [(l, listOf vs.toArray e1)] _ h' tk' F' K' (feed_self (o := { cls := .type "list_iterator", data := .fields #[.ref l, .int 0 0] }) ⟨rfl, rfl⟩ hi) ItDone.keep (fun q hq => ?_) (fun q hq => ?_) (fun q hq r hr' => ?_) (fun _ => ⟨d, _, rfl, rfl, rfl⟩) fun q => (q rfl).elim
    · rcases List.mem_cons.mp hq with rfl | hq
      · exact N' _ (.head _)
      · exact News.kept N K' (fun _ _ q => nomatch q) q hq
    · rcases List.mem_cons.mp hq with rfl | hq
      · exact .inr nw
      · exact .inl (by rw [List.mem_singleton.mp hq])
    · rw [List.mem_singleton.mp hq, List.mem_singleton.mp hr']
      exact hnew (h' := h') nw
  · exact t05 (.inr h)
end

section
open PySem.Calls PyProof.Rows
theorem allLt_mem {d : Nat} : ∀ {l : List (Addr × Obj)}, AllLt d l → ∀ q ∈ l, @LT.lt Nat _ q.1 d
  | [], _, _, h => nomatch h
  | _ :: _, x, q, h => by
    rcases List.mem_cons.mp h with rfl | h
    · exact x.1
    · exact allLt_mem x.2 q h
variable {w : World} {p : Program} {loose : List Str} {mean : ExcName → Option Value} {mg mb : Str → Option Value} {dp un : Nat} {gd : Option (List Code)} {cn : Str} {cs : Scope} {a : Addr} {ccd : Value} {cl : List (Str × Addr)} {outer : List Env} {A₀ : Around} {base h₀ : Heap} {L : Addr} {m : Str → Option Value} {s : Shared} {Q E : Value → Shared → Prop}
theorem swap_feed {fv dv : Value} {start : Int} {ts : Tok} {rs ns : List Int} {dn itn bs : List (Addr × Obj)} {Dn : Addr → Heap → Prop} (hF : Feed w fv ns itn bs Dn)
   (hv : DataIs dv dn (byteArr rs)) (B : Below A₀ base outer h₀) (F : Fr h₀ L s.heap m) (X : (Mine.hd.heap_1 w.params).In h₀) (T : Top p loose mean mg mb h₀) (hk : cs.kind = .function)
   (N : News h₀ L s.heap (itn ++ dn)) (hz : rs.length ≤ 20) (h0 : 0 ≤ start) (h1 : start < 1000) (hr : ∀ c ∈ ns, -1000 < c ∧ c < 1000)
   (hbs : ∀ q ∈ bs, s.heap.get? q.1 = some q.2) (hbn : ∀ q ∈ bs, ∀ r ∈ itn ++ dn, q.1 ≠ r.1) (hdi : ∀ q ∈ dn, ∀ r ∈ itn, q.1 ≠ r.1)
   (hDn : ∀ I h h', Dn I h → (∀ o, h.get? I = some o → h'.get? I = some o) → Dn I h')
   (hd : dp + 8 < recursionLimit) (hu : un + 100 < cLine)
   (ret : ∀ v h' tk', Fr h₀ L h' m → Kept (itn.map (·.1)) s.heap h' → (∀ I o, itn = [(I, o)] → Dn I h') → Q (.bytes (byteArr (wkOut rs ns start.toNat)) v) { s with heap := h', toks := tk' }) :
   wpX (model PG w) (ktrTop dp un gd cn cs L a ccd cl outer) (call (.ref 579) [fv, dv, .int start ts]) Q E s := by
  obtain ⟨St, P, hI, hO, hP⟩ := hF
  have hbs2 : (byteArr rs).size = rs.length := by unfold byteArr; simp
  refine swap_tells (b := byteArr rs) (dn := dn) (itn := itn) ?_ B F X T hk N (by omega) h0 (by omega) hI hO hP hr hbs hbn hdi hDn hd hu fun v h' tk' F' K' D' => ?_
  · rcases hv.ok with z | ⟨d, e, hm⟩
    · exact .inl z
    · exact .inr ⟨d, e, List.mem_append_right _ hm⟩
  · rw [swap_walk]
    exact ret v h' tk' F' K' D'
theorem seg5 {bc bx fw cn ix : Addr} {oc ox : Obj} {vs cys : List Value} {ns cs rs : List Int} {k st sp fo wr : Int} {tkb to ts tp tf tw : Tok} {e1 e2 : Nat} {lb : List Stmt} {sc : Scope} {dv : Value} {td : Tok} {dn : List (Addr × Obj)} {Q : Flow → Shared → Prop} (B : Below A₀ base [] h₀)
   (F : Fr h₀ L s.heap (fun y => (if y = "due" then some (.bytes (byteArr (wkOut rs (if fo = 3 then onceOf cs else cs) st.toNat)) td) else if y = "data" then some dv else (if y = "spot" then some (.int sp tp) else if y = "wrong" then some (.int wr tw) else if y = "form" then some (.int fo tf) else if y = "counts" then some (.ref cn) else if y = "start" then some (.int st ts) else if y = "octets" then some (.bytes (byteArr rs) to) else m y)))) (X : (Mine.hd.heap_1 w.params).In h₀) (T : Top p loose mean mg mb h₀)
   (hlb : lb = lawLoop) (hsc : sc = lawScope) (hdv : DataIs dv dn (byteArr rs))
   (N : News h₀ L s.heap ([(bc, oc), (bx, listOf #[.ref fw, .int k tkb] e1), (fw, listOf vs.toArray e2), (ix, ox), (cn, listOf cys.toArray cys.length)] ++ dn)) (hrs : KBa.In rs) (hrl : rs.length ≤ 20) (hdl : ∀ q ∈ dn, @Ne Nat q.1 bc ∧ @Ne Nat q.1 bx ∧ @Ne Nat q.1 fw ∧ @Ne Nat q.1 cn)
   (hi : IntsAre cys cs) (hcl : cs.length ≤ 6) (hcr : ∀ c ∈ cs, -2 ≤ c ∧ c < 10) (st0 : 0 ≤ st) (st1 : st < (rs.length : Int) + 3) (f0 : 0 ≤ fo) (f1 : fo < 6)
   (hd : dp + 20 < recursionLimit) (hu : un + 300 < cLine)
   (ret : ∀ lv tg h' tk', Fr h₀ L h' (fun y => if y = "got" then some (.bytes (byteArr (wkOut rs (if fo = 3 then onceOf cs else cs) st.toNat)) tg) else if y = "lengths" then some lv else (if y = "due" then some (.bytes (byteArr (wkOut rs (if fo = 3 then onceOf cs else cs) st.toNat)) td) else if y = "data" then some dv else (if y = "spot" then some (.int sp tp) else if y = "wrong" then some (.int wr tw) else if y = "form" then some (.int fo tf) else if y = "counts" then some (.ref cn) else if y = "start" then some (.int st ts) else if y = "octets" then some (.bytes (byteArr rs) to) else m y))) →
      News h₀ L h' ([(bc, oc), (bx, listOf #[.ref fw, .int k tkb] e1), (fw, listOf vs.toArray e2), (ix, ox), (cn, listOf cys.toArray cys.length)] ++ dn) → (fo = 4 → ∃ I, lv = .ref I ∧ ItDone I h') → Q .next { s with heap := h', toks := tk' }) :
   wpX (model PG w) (ktrTop dp un gd (Str.ofString "law") sc L 619 (.ref 618) [(Str.ofString "box", bc)] []) (execs ((lb.drop 10).take 2) (envX (Str.ofString "law") sc L 619 (.ref 618) [(Str.ofString "box", bc)])) Q E s := by
  conv at hlb => rhs; whnf
  conv at hsc => rhs; whnf
  subst hlb hsc
  simp only [List.take_succ_cons, List.take_zero, List.drop_succ_cons, List.drop_zero]
  simp only [List.cons_append, List.nil_append] at N
  have hcy := hi.length
  refine wpX_execs_cut 1 ?_
  dsimp only [List.take_succ_cons, List.take_zero, List.drop_succ_cons, List.drop_zero]
  k_steps
  rename_i D5 c5 h5 F5 N5 l5
  refine Stop.out (forms_tells f0 f1 (by k_asm) (by k_asm) (by k_asm) (by k_asm) rfl (News.sub1 N5 (.head _)) hi (by omega) hcr (by ktr_room) (by ktr_units) fun lv itn bs Dn h6 tk6 F6 K6 hF hDn N6 fr6 dj6 h4 hn4 => ?_)
  have NT : News h₀ L h5 ([(bc, oc), (bx, listOf #[.ref fw, .int k tkb] e1), (fw, listOf vs.toArray e2), (ix, ox), (cn, listOf cys.toArray cys.length)] ++ dn) := News.sub N5 fun q hq => .tail _ hq
  have N7 : News h₀ L h6 ((itn ++ bs) ++ ([(bc, oc), (bx, listOf #[.ref fw, .int k tkb] e1), (fw, listOf vs.toArray e2), (ix, ox), (cn, listOf cys.toArray cys.length)] ++ dn)) := News.append N6 (News.kept NT K6 (fun _ _ q => nomatch q))
  have ltD : ∀ r ∈ [(bc, oc), (bx, listOf #[.ref fw, .int k tkb] e1), (fw, listOf vs.toArray e2), (ix, ox), (cn, listOf cys.toArray cys.length)] ++ dn, @LT.lt Nat _ r.1 D5 := fun r hr => by
    rcases List.mem_append.mp hr with hr | hr
    · simp only [List.mem_cons, List.not_mem_nil, or_false] at hr
      rcases hr with rfl | rfl | rfl | rfl | rfl
      · exact l5.1
      · exact l5.2.1
      · exact l5.2.2.1
      · exact l5.2.2.2.1
      · exact l5.2.2.2.2.1
    · exact allLt_mem l5.2.2.2.2.2 r hr
  have dis : ∀ q ∈ itn ++ bs, ∀ r ∈ [(bc, oc), (bx, listOf #[.ref fw, .int k tkb] e1), (fw, listOf vs.toArray e2), (ix, ox), (cn, listOf cys.toArray cys.length)] ++ dn, q.1 ≠ r.1 := fun q hq r hr e => by
    rcases fr6 q hq with h | h
    · have := ltD r hr
      rw [← e, h] at this
      exact Nat.lt_irrefl _ this
    · have := (NT r hr).1
      rw [← e] at this
      rw [h] at this
      cases this
  clear F5 N5 NT N6
  k_steps
  rename Fr _ _ _ _ => F8
  rename News _ _ _ _ => N8
  refine wpX_execs_cons (wpX_Assign_Name (wpX_Call ?_))
  k_fold
  k_steps
  refine wpX_callWith1 (K := Mine.hd.heap_1 w.params) (by k_is) ?_
  k_steps
  rename News _ _ _ _ => N9
  refine swap_feed hF hdv (by k_asm) (by k_asm) (by k_asm) (by k_asm) rfl (News.sub N9 fun q hq => ?_) hrl st0 (by omega) (fun c hc => ?_) (fun q hq => (N9 q (List.mem_append_left _ (List.mem_append_right _ hq))).1) (fun q hq r hr => ?_) (fun q hq r hr e => dis r (List.mem_append_left _ hr) q (List.mem_append_right _ hq) e.symm) hDn (by ktr_room) (by ktr_units) fun v h10 tk10 F10 K10 D10 => ?_
  · rcases List.mem_append.mp hq with hq | hq
    · exact List.mem_append_left _ (List.mem_append_left _ hq)
    · exact List.mem_append_right _ (List.mem_append_right _ hq)
  · have : c ∈ cs := by
      split at hc
      · exact onceOf_mem hc
      · exact hc
    have := hcr c this
    omega
  · rcases List.mem_append.mp hr with hr | hr
    · exact dj6 q hq r hr
    · exact dis q (List.mem_append_right _ hq) r (List.mem_append_right _ hr)
  · have N11 : News h₀ L h10 ([(bc, oc), (bx, listOf #[.ref fw, .int k tkb] e1), (fw, listOf vs.toArray e2), (ix, ox), (cn, listOf cys.toArray cys.length)] ++ dn) := News.kept (News.sub N9 fun q hq => List.mem_append_right _ hq) K10 fun q hq hm => by
      obtain ⟨r, hr, e⟩ := List.mem_map.mp hm
      exact dis r (List.mem_append_left _ hr) q hq e
    by_cases q4 : fo = 4
    · obtain ⟨I, o, ei, ev, ed⟩ := h4 q4
      subst ei ev ed
      obtain ⟨o9, ho9, c9, v9, d9⟩ := D10 I o rfl
      have NI := (N9 (I, o) (.head _)).2
      have N13 := News.cons N11 ho9 NI.1 NI.2
      clear N9 F8 N11
      k_steps
      rename Fr _ _ _ _ => F12
      rename News _ _ _ _ => N12
      refine wpX_execs_nil ?_
      exact ret (.ref I) v _ _ F12 (News.sub N12 fun q hq => .tail _ hq) fun _ => ⟨I, rfl, o9, (N12 _ (.head _)).1, c9, v9, d9⟩
    · clear N9 F8
      k_steps
      rename Fr _ _ _ _ => F12
      rename News _ _ _ _ => N12
      refine wpX_execs_nil ?_
      exact ret lv v _ _ F12 N12 fun q => (q4 q).elim
end

section
open PySem.Calls PySem.Spec PyProof.V
section
variable {prog : Program} {w : World} {A : Around} {E : Value → Shared → Prop} {s : Shared} {Q : Value → Shared → Prop}
theorem look_bytes_bytes : typeLookup (.type "bytes") "__bytes__" = pure (some (.builtin "bytes.__bytes__")) := by rw [typeLookup_type, builtinLookup_eq_fast]; kernel_rfl
/-- bytes(of bytes) -/
theorem bytes_bytes {b : Array UInt8} {t : Tok} (h : Q (.bytes b t) s) :
    wpAny (model prog w) A (call (.type "bytes") [.bytes b t]) Q E s := by
  refine callType_codes (Q₁ := fun obj s₁ => s₁.TypeIs obj "bytes" ∧ Q obj s₁) F.bm_called (F.bm_typeCall _) F.entry_object_init ?_ fun obj s₁ h₁ => ?_
  · refine codeAny_of_tree ?_
    show wpAny _ A.in1.in1 (do checkBuiltinCall "bytes.__new__" ⟨[.type "bytes", .bytes b t], []⟩; again (.builtin "bytes.__new__" ⟨[.type "bytes", .bytes b t], []⟩)) _ _ s
    refine wpAny_bind (wpAny_of_eq (F.bm_newCall _) (wpAny_pure ⟨plainId_quiet F.bm_plain _, codeAny_builtin F.bm_entry ?_⟩))
    rw [Around.under_plainId F.bm_plain _]
    unfold Builtin.«bytes.__new__»
    refine wpAny_bind (wpAny_of_eq (a := true) rfl ?_)
    refine bm_if_false rfl ?_
    refine wpAny_bind (wpAny_of_eq F.bm_sub ?_)
    refine bm_if_false rfl ?_
    refine wpAny_bind (wpAny_of_eq (F.bm_bind _) ?_)
    refine wpAny_bind (wpAny_of_eq (a := ()) rfl ?_)
    refine wpAny_bind (wpAny_of_eq (a := ()) rfl ?_)
    refine bm_if_false rfl ?_
    refine wpAny_bind (wpAny_specialOf_val (T := "bytes") rfl look_bytes_bytes ?_)
    refine wpAny_bind (wpAny_rule ?_)
    refine wpAny_bind (wpAny_of_eq (a := .type "bytes") rfl ?_)
    refine bm_if_true rfl ?_
    show wpAny _ _ (if (Value.type "bytes" == Value.type "bytes") = true then _ else _) _ _ _
    refine bm_if_true (by decide) ?_
    first
      | exact wpAny_pure ⟨PySem.W.typeIs_bytes _ _ _, h⟩
      | exact wpAny_bind (wpAny_pure (wpAny_pure ⟨PySem.W.typeIs_bytes _ _ _, h⟩))
      | exact wpAny_pure (wpAny_pure ⟨PySem.W.typeIs_bytes _ _ _, h⟩)
  · exact ⟨h₁.1, F.args_object_init_2 obj _, object_init_meets F.bm_called.init.lookup F.bm_called.made (by decide) prog w A.in1 _ s₁ ⟨h₁.1, rfl, h₁.2⟩⟩
end
end

section
open PySem.Calls PyProof.Rows
local macro_rules | `(tactic| walk_at "call builtin:next") => `(tactic| (k_here; refine Stop.mk ?_))
local macro_rules | `(tactic| walk_at "call type:bytes") => `(tactic| (k_here; refine Stop.mk ?_))
variable {w : World} {p : Program} {loose : List Str} {mean : ExcName → Option Value} {mg mb : Str → Option Value} {dp un : Nat} {gd : Option (List Code)} {cn : Str} {cs : Scope} {a : Addr} {ccd : Value} {cl : List (Str × Addr)} {outer : List Env} {A₀ : Around} {base h₀ : Heap} {L : Addr} {m : Str → Option Value} {s : Shared} {Q E : Value → Shared → Prop}
theorem seg6 {bc bx fw cn ix : Addr} {oc ox : Obj} {vs cys : List Value} {ns cs rs : List Int} {k st sp fo wr : Int} {tkb to ts tp tf tw : Tok} {e1 e2 : Nat} {lb : List Stmt} {sc : Scope} {dv lv : Value} {td tg : Tok} {dn : List (Addr × Obj)} {Q : Flow → Shared → Prop} (B : Below A₀ base [] h₀)
   (F : Fr h₀ L s.heap (fun y => (if y = "got" then some (.bytes (byteArr (wkOut rs (if fo = 3 then onceOf cs else cs) st.toNat)) tg) else if y = "lengths" then some lv else (if y = "due" then some (.bytes (byteArr (wkOut rs (if fo = 3 then onceOf cs else cs) st.toNat)) td) else if y = "data" then some dv else (if y = "spot" then some (.int sp tp) else if y = "wrong" then some (.int wr tw) else if y = "form" then some (.int fo tf) else if y = "counts" then some (.ref cn) else if y = "start" then some (.int st ts) else if y = "octets" then some (.bytes (byteArr rs) to) else m y))))) (X : (Mine.hd.heap_1 w.params).In h₀) (T : Top p loose mean mg mb h₀)
   (hlb : lb = lawLoop) (hsc : sc = lawScope) (hdv : DataIs dv dn (byteArr rs))
   (N : News h₀ L s.heap ([(bc, oc), (bx, listOf #[.ref fw, .int k tkb] e1), (fw, listOf vs.toArray e2), (ix, ox), (cn, listOf cys.toArray cys.length)] ++ dn)) (hrs : KBa.In rs) (hrl : rs.length ≤ 20)
   (h4 : fo = 4 → ∃ I, lv = .ref I ∧ ItDone I s.heap)
   (hd : dp + 20 < recursionLimit) (hu : un + 300 < cLine)
   (ret : ∀ h' tk', Fr h₀ L h' (fun y => (if y = "got" then some (.bytes (byteArr (wkOut rs (if fo = 3 then onceOf cs else cs) st.toNat)) tg) else if y = "lengths" then some lv else (if y = "due" then some (.bytes (byteArr (wkOut rs (if fo = 3 then onceOf cs else cs) st.toNat)) td) else if y = "data" then some dv else (if y = "spot" then some (.int sp tp) else if y = "wrong" then some (.int wr tw) else if y = "form" then some (.int fo tf) else if y = "counts" then some (.ref cn) else if y = "start" then some (.int st ts) else if y = "octets" then some (.bytes (byteArr rs) to) else m y)))) → News h₀ L h' ([(bc, oc), (bx, listOf #[.ref fw, .int k tkb] e1), (fw, listOf vs.toArray e2), (ix, ox), (cn, listOf cys.toArray cys.length)] ++ dn) → Q .next { s with heap := h', toks := tk' }) :
   wpAny (model PG w) (ktrTop dp un gd (Str.ofString "law") sc L 619 (.ref 618) [(Str.ofString "box", bc)] []) (execs ((lb.drop 12).take 2) (envX (Str.ofString "law") sc L 619 (.ref 618) [(Str.ofString "box", bc)])) Q E s := by
  conv at hlb => rhs; whnf
  conv at hsc => rhs; whnf
  subst hlb hsc
  simp only [List.take_succ_cons, List.take_zero, List.drop_succ_cons, List.drop_zero]
  have hbk := KBa.ints_make hrs
  have hbs : (byteArr rs).size = rs.length := by unfold byteArr; simp
  generalize hrb : (if fo = 3 then onceOf cs else cs) = dcs at *
  rcases hdv with ⟨t, rfl, rfl⟩ | ⟨d, rfl, rfl⟩
  · simp only [List.cons_append, List.nil_append, List.append_nil] at N
    k_steps
    · rename _ = true => hne
      simp at hne
    refine Stop.out (bytes_bytes ?_)
    k_steps
    · rename _ = true => hne
      simp at hne
    · rename fo = 4 => q4
      obtain ⟨I, rfl, hI⟩ := h4 q4
      refine Stop.out (next_done rfl (ItDone.keep _ _ _ hI fun o e => by first | exact e | assumption) fun h9 k9 => ?_)
      have F9 := Fr.keeps F k9
      have N9 := News.grown N k9
      k_steps
      exact ret _ _ F9 N9
    · exact ret _ _ F N
  · simp only [List.cons_append, List.nil_append, List.append_nil] at N
    k_steps
    · rename _ = true => hne
      simp at hne
    refine Stop.out (bytes_ba (News.get (by k_asm) (by k_mem)) (by rw [sizeLine_eq]; omega) ?_)
    k_steps
    · rename _ = true => hne
      simp at hne
    · rename fo = 4 => q4
      obtain ⟨I, rfl, hI⟩ := h4 q4
      refine Stop.out (next_done rfl (ItDone.keep _ _ _ hI fun o e => by first | exact e | assumption) fun h9 k9 => ?_)
      have F9 := Fr.keeps F k9
      have N9 := News.grown N k9
      k_steps
      exact ret _ _ F9 N9
    · exact ret _ _ F N
end

section
open PySem.Calls PySem.Spec
variable {M : Model} {A : Around} {E : Value → Shared → Prop} {s : Shared} {env : Env}
theorem wpX_and2 {x y : Expr} {pos : Pos} {whole : Sem Value} {Q : Bool → Shared → Prop}
    (h : wpAny M A (isTrue x env (eval x env)) (fun b s₁ => if b = true then wpX M A (isTrue y env (eval y env)) Q E s₁ else Q false s₁) E s) : wpX M A (isTrue (.BoolOp .And [x, y] pos) env whole) Q E s := by
  rw [arm_isTrue_BoolOp]
  show wpX M A (do match BoolOp.And, ← isTrue x env (eval x env) with | .And, false => pure false | .Or, true => pure true | _, _ => allTrue .And [y] env) Q E s
  refine wpX_bindA (wpAny_mono h (fun b s₁ h₁ => ?_) fun _ _ x => x)
  cases b
  · exact wpX_pure h₁
  · show wpX M A (do match BoolOp.And, ← isTrue y env (eval y env) with | .And, false => pure false | .Or, true => pure true | _, _ => allTrue .And [] env) Q E s₁
    refine wpX_bind (wpX_mono h₁ (fun b s₂ h₂ => ?_) fun _ _ x => x)
    cases b
    · exact wpX_pure h₂
    · exact wpX_pure (a := true) h₂
theorem wpX_isTrue_Compare1 {l op r pos whole} {Q : Bool → Shared → Prop}
    (h : wpX M A (eval l env) (fun a s₁ => wpAny M A (eval r env) (fun b s₂ => wpAny M A (compareOp op a b)
      (fun c s₃ => wpAny M A (truthy c) Q E s₃) E s₂) E s₁) E s)
    (hm : behindInMarks op r = false := by with_unfolding_all rfl) : wpX M A (isTrue (.Compare l [op] [r] pos) env whole) Q E s := fun Γ p hΓ hb hc => by
  simp only [isTrue_Compare1, markedBehindIn_of_false hm, Sem.wp_bind', Sem.wp_holding, Sem.wp_cmd_standAt, Sem.wp_operate]
  exact Sem.wp_mono M Γ _ (fun a p₁ s₁ h₁ => Sem.wp_mono M Γ _ (fun b _ s₂ h₂ => Sem.wp_mono M Γ _ (fun c p₃ s₃ h₃ => h₃ Γ p₃ hΓ)
    (fun _ _ _ h' => h') _ _ (h₂ Γ _ hΓ)) (fun _ _ _ h' => h') _ _ (h₁ Γ p₁ hΓ)) (fun _ _ _ h' => h') _ _ (h Γ p hΓ hb hc)
theorem wpX_Compare1 {l op r pos} {Q : Value → Shared → Prop}
    (h : wpX M A (eval l env) (fun a s₁ => wpAny M A (eval r env) (fun b s₂ => wpAny M A (compareOp op a b) Q E s₂) E s₁) E s)
    (hm : behindInMarks op r = false := by with_unfolding_all rfl) :
    wpX M A (eval (.Compare l [op] [r] pos) env) Q E s := fun Γ p hΓ hb hc => by
  simp only [eval_Compare1, markedBehindIn_of_false hm, Sem.wp_bind', Sem.wp_holding, Sem.wp_cmd_standAt, Sem.wp_operate]
  exact Sem.wp_mono M Γ _ (fun a p₁ s₁ h₁ => Sem.wp_mono M Γ _ (fun b _ s₂ h₂ => h₂ Γ _ hΓ) (fun _ _ _ h' => h') _ _ (h₁ Γ p₁ hΓ))
    (fun _ _ _ h' => h') _ _ (h Γ p hΓ hb hc)
end

section
open PySem.Calls PyProof.Rows
variable {w : World} {p : Program} {loose : List Str} {mean : ExcName → Option Value} {mg mb : Str → Option Value} {dp un : Nat} {gd : Option (List Code)} {cn : Str} {cs : Scope} {a : Addr} {ccd : Value} {cl : List (Str × Addr)} {outer : List Env} {A₀ : Around} {base h₀ : Heap} {L : Addr} {m : Str → Option Value} {s : Shared} {Q E : Value → Shared → Prop}
theorem seg7 {bc bx fw cn ix : Addr} {oc ox : Obj} {vs cys : List Value} {ns cs rs : List Int} {k st sp fo wr : Int} {tkb to ts tp tf tw : Tok} {e1 e2 : Nat} {lb : List Stmt} {sc : Scope} {dv lv : Value} {td tg : Tok} {dn : List (Addr × Obj)} {Q : Flow → Shared → Prop} (B : Below A₀ h₀ [] h₀)
   (F : Fr h₀ L s.heap (fun y => (if y = "got" then some (.bytes (byteArr (wkOut rs (if fo = 3 then onceOf cs else cs) st.toNat)) tg) else if y = "lengths" then some lv else (if y = "due" then some (.bytes (byteArr (wkOut rs (if fo = 3 then onceOf cs else cs) st.toNat)) td) else if y = "data" then some dv else (if y = "spot" then some (.int sp tp) else if y = "wrong" then some (.int wr tw) else if y = "form" then some (.int fo tf) else if y = "counts" then some (.ref cn) else if y = "start" then some (.int st ts) else if y = "octets" then some (.bytes (byteArr rs) to) else m y))))) (X : (Mine.hd.heap_1 w.params).In h₀) (T : Top p loose mean mg mb h₀)
   (hlb : lb = lawLoop) (hsc : sc = lawScope) (hdv : DataIs dv dn (byteArr rs))
   (N : News h₀ L s.heap ([(bc, oc), (bx, listOf #[.ref fw, .int k tkb] e1), (fw, listOf vs.toArray e2), (ix, ox), (cn, listOf cys.toArray cys.length)] ++ dn)) (hrl : rs.length ≤ 20) (p0 : 0 ≤ sp) (p1 : sp < 100)
   (hd : dp + 20 < recursionLimit) (hu : un + 300 < cLine)
   (ret : ∀ h' tk', Fr h₀ L h' (fun y => (if y = "got" then some (.bytes (byteArr (wkOut rs (if fo = 3 then onceOf cs else cs) st.toNat)) tg) else if y = "lengths" then some lv else (if y = "due" then some (.bytes (byteArr (wkOut rs (if fo = 3 then onceOf cs else cs) st.toNat)) td) else if y = "data" then some dv else (if y = "spot" then some (.int sp tp) else if y = "wrong" then some (.int wr tw) else if y = "form" then some (.int fo tf) else if y = "counts" then some (.ref cn) else if y = "start" then some (.int st ts) else if y = "octets" then some (.bytes (byteArr rs) to) else m y)))) → News h₀ L h' ([(bc, oc), (bx, listOf #[.ref fw, .int k tkb] e1), (fw, listOf vs.toArray e2), (ix, ox), (cn, listOf cys.toArray cys.length)] ++ dn) → Q .next { s with heap := h', toks := tk' }) :
   wpX (model PG w) (ktrTop dp un gd (Str.ofString "law") sc L 619 (.ref 618) [(Str.ofString "box", bc)] []) (execs ((lb.drop 14).take 1) (envX (Str.ofString "law") sc L 619 (.ref 618) [(Str.ofString "box", bc)])) Q E s := by
  conv at hlb => rhs; whnf
  conv at hsc => rhs; whnf
  subst hlb hsc
  simp only [List.take_succ_cons, List.take_zero, List.drop_succ_cons, List.drop_zero]
  have hbs : (byteArr rs).size = rs.length := by unfold byteArr; simp
  have NL : ∀ {h' : Heap}, Kept [L] s.heap h' → News h₀ L h' ([(bc, oc), (bx, listOf #[.ref fw, .int k tkb] e1), (fw, listOf vs.toArray e2), (ix, ox), (cn, listOf cys.toArray cys.length)] ++ dn) := fun K => News.kept N K fun q hq hm => (N q hq).2.1 (List.mem_singleton.mp hm)
  refine wpX_execs_cons (wpX_If (wpX_and2 ?_))
  k_fold
  k_steps
  · refine wpX_isTrue_Compare1 (wpX_Call ?_)
    k_fold
    k_steps
    refine wpX_callWith1 (K := Mine.hd.heap_1 w.params) (by k_is) ?_
    k_steps
    refine told_raises (.inl ⟨rfl, rfl⟩) (raises_start (b := byteArr rs) hdv.ok (by omega) (by omega) (by omega)) (by k_asm) (by k_asm) (by k_asm) (by k_asm) (by k_asm) (by k_asm) rfl (News.sub N fun q hq => List.mem_append_right _ hq) (fun _ q => nomatch q) (fun _ q => nomatch q) (by ktr_room) (by ktr_units) fun t h2 tk2 F2 K2 => ?_
    have N2 := NL K2
    k_steps
    exact wpX_execs_nil (wpX_execs_nil (ret _ _ F2 N2))
  · exact wpX_execs_nil (wpX_execs_nil (ret _ _ F N))
end

section
open PySem.Calls PyProof.Rows
local macro_rules | `(tactic| walk_at "binaryOp Add ref ref") => `(tactic| (k_here; refine Stop.mk ?_))
theorem mid_items {w : World} {ws ws2 : List Value} {cs : List Int} {sp : Nat} {bad : Value} {cls : String} (h1 : IntsAre ws (cs.take sp)) (h2 : IntsAre ws2 (cs.drop sp)) (hsp : sp ≤ cs.length) (hb : IntBad w bad cls) :
    ∀ (i : Nat) v, ((ws ++ [bad]) ++ ws2).toArray[i]? = some v → (i ≠ sp → IntsTo w v (((cs.take sp ++ [0]) ++ cs.drop sp).getD i 0)) ∧ (i = sp → IntBad w v cls) := by
  have hl : ws.length = sp := by rw [h1.length, List.length_take]; omega
  have h3 : IntsAre ((ws ++ [.int 0 0]) ++ ws2) ((cs.take sp ++ [0]) ++ cs.drop sp) := IntsAre.append (IntsAre.append h1 (.cons _ _ .nil)) h2
  intro i v hv
  have hv' : ((ws ++ [bad]) ++ ws2)[i]? = some v := by simpa using hv
  have e : ∀ x : Value, ((ws ++ [x]) ++ ws2)[i]? = if i < sp then ws[i]? else (x :: ws2)[i - sp]? := fun x => by
    rw [List.append_assoc, List.getElem?_append, hl]
    rfl
  rw [e] at hv'
  refine ⟨fun hne => ints_getD h3 ?_, fun q => ?_⟩
  · rw [e]
    by_cases hlt : i < sp
    · rw [if_pos hlt] at hv' ⊢
      exact hv'
    · rw [if_neg hlt] at hv' ⊢
      obtain ⟨j, hj⟩ : ∃ j, i - sp = j + 1 := ⟨i - sp - 1, by omega⟩
      rw [hj] at hv' ⊢
      exact hv'
  · rw [if_neg (by omega), show i - sp = 0 by omega] at hv'
    have : bad = v := by simpa using hv'
    exact this ▸ hb
variable {w : World} {p : Program} {loose : List Str} {mean : ExcName → Option Value} {mg mb : Str → Option Value} {dp un : Nat} {gd : Option (List Code)} {cn : Str} {cs : Scope} {a : Addr} {ccd : Value} {cl : List (Str × Addr)} {outer : List Env} {A₀ : Around} {base h₀ : Heap} {L : Addr} {m : Str → Option Value} {s : Shared} {Q E : Value → Shared → Prop}
theorem seg8 {bc bx fw cn ix : Addr} {oc ox : Obj} {vs cys : List Value} {ns cs rs : List Int} {k st sp fo wr : Int} {tkb to ts tp tf tw : Tok} {e1 e2 : Nat} {lb : List Stmt} {sc : Scope} {dv lv : Value} {td tg : Tok} {dn : List (Addr × Obj)} {Q : Flow → Shared → Prop} (B : Below A₀ h₀ [] h₀)
   (F : Fr h₀ L s.heap (fun y => (if y = "got" then some (.bytes (byteArr (wkOut rs (if fo = 3 then onceOf cs else cs) st.toNat)) tg) else if y = "lengths" then some lv else (if y = "due" then some (.bytes (byteArr (wkOut rs (if fo = 3 then onceOf cs else cs) st.toNat)) td) else if y = "data" then some dv else (if y = "spot" then some (.int sp tp) else if y = "wrong" then some (.int wr tw) else if y = "form" then some (.int fo tf) else if y = "counts" then some (.ref cn) else if y = "start" then some (.int st ts) else if y = "octets" then some (.bytes (byteArr rs) to) else m y))))) (X : (Mine.hd.heap_1 w.params).In h₀) (T : Top p loose mean mg mb h₀)
   (hlb : lb = lawLoop) (hsc : sc = lawScope) (hdv : DataIs dv dn (byteArr rs))
   (N : News h₀ L s.heap ([(bc, oc), (bx, listOf #[.ref fw, .int k tkb] e1), (fw, listOf vs.toArray e2), (ix, ox), (cn, listOf cys.toArray cys.length)] ++ dn)) (hrl : rs.length ≤ 20) (p0 : 0 ≤ sp) (p1 : sp < (cs.length : Int) + 1) (hi : IntsAre cys cs) (hcl : cs.length ≤ 6) (hcr : ∀ c ∈ cs, -2 ≤ c ∧ c < 10) (st0 : 0 ≤ st) (st1 : st < (rs.length : Int) + 3)
   (hd : dp + 20 < recursionLimit) (hu : un + 300 < cLine)
   (ret : ∀ h' tk', Fr h₀ L h' (fun y => (if y = "got" then some (.bytes (byteArr (wkOut rs (if fo = 3 then onceOf cs else cs) st.toNat)) tg) else if y = "lengths" then some lv else (if y = "due" then some (.bytes (byteArr (wkOut rs (if fo = 3 then onceOf cs else cs) st.toNat)) td) else if y = "data" then some dv else (if y = "spot" then some (.int sp tp) else if y = "wrong" then some (.int wr tw) else if y = "form" then some (.int fo tf) else if y = "counts" then some (.ref cn) else if y = "start" then some (.int st ts) else if y = "octets" then some (.bytes (byteArr rs) to) else m y)))) → News h₀ L h' ([(bc, oc), (bx, listOf #[.ref fw, .int k tkb] e1), (fw, listOf vs.toArray e2), (ix, ox), (cn, listOf cys.toArray cys.length)] ++ dn) → Q .next { s with heap := h', toks := tk' }) :
   wpX (model PG w) (ktrTop dp un gd (Str.ofString "law") sc L 619 (.ref 618) [(Str.ofString "box", bc)] []) (execs ((lb.drop 15).take 1) (envX (Str.ofString "law") sc L 619 (.ref 618) [(Str.ofString "box", bc)])) Q E s := by
  conv at hlb => rhs; whnf
  conv at hsc => rhs; whnf
  subst hlb hsc
  simp only [List.take_succ_cons, List.take_zero, List.drop_succ_cons, List.drop_zero]
  simp only [List.cons_append, List.nil_append] at N
  have hcy := hi.length
  have hbs : (byteArr rs).size = rs.length := by unfold byteArr; simp
  have N0 : News h₀ L s.heap ([(bc, oc), (bx, listOf #[.ref fw, .int k tkb] e1), (fw, listOf vs.toArray e2), (ix, ox), (cn, listOf cys.toArray cys.length)] ++ dn) := N
  have NL : ∀ {h' : Heap}, Kept [L] s.heap h' → News h₀ L h' ([(bc, oc), (bx, listOf #[.ref fw, .int k tkb] e1), (fw, listOf vs.toArray e2), (ix, ox), (cn, listOf cys.toArray cys.length)] ++ dn) := fun K => News.kept N0 K fun q hq hm => (N0 q hq).2.1 (List.mem_singleton.mp hm)
  refine wpX_execs_cons (wpX_If (wpX_and2 ?_))
  k_fold
  k_steps
  · refine wpX_isTrue_Compare1 (wpX_Call ?_)
    k_fold
    k_steps
    refine wpX_callWith1 (K := Mine.hd.heap_1 w.params) (by k_is) ?_
    k_steps
    rename Fr _ _ _ _ => F1
    rename News _ _ _ _ => N1
    rename IntsAre _ (List.take _ _) => hI1
    have hz1 := hI1.length
    rw [List.length_take] at hz1
    refine Stop.out (add_lists F1 N1 ⟨_, (N1 _ (.tail _ (.head _))).1, rfl, _, rfl⟩ ⟨_, (N1 _ (.head _)).1, rfl, _, rfl⟩ (fun h3 F3 N3 => ?_) (by rw [sizeLine_eq, List.length_singleton]; omega))
    k_steps
    rename Fr _ _ _ _ => F4
    rename News _ _ _ _ => N4
    rename IntsAre _ (List.drop _ _) => hI2
    have hz2 := hI2.length
    rw [List.length_drop] at hz2
    refine Stop.out (add_lists F4 N4 ⟨_, (N4 _ (.tail _ (.head _))).1, rfl, _, rfl⟩ ⟨_, (N4 _ (.head _)).1, rfl, _, rfl⟩ (fun h5 F5 N5 => ?_) (by rw [sizeLine_eq, List.length_append, List.length_singleton]; omega))
    k_steps
    have hsub : ∀ q ∈ [(bc, oc), (bx, listOf #[.ref fw, .int k tkb] e1), (fw, listOf vs.toArray e2), (ix, ox), (cn, listOf cys.toArray cys.length)] ++ dn, News h₀ L h5 [q] := fun q hq => News.sub1 N5 (.tail _ (.tail _ (.tail _ (.tail _ (.tail _ hq)))))
    have N6 : News h₀ L h5 ([(bc, oc), (bx, listOf #[.ref fw, .int k tkb] e1), (fw, listOf vs.toArray e2), (ix, ox), (cn, listOf cys.toArray cys.length)] ++ dn) := fun q hq => hsub q hq q (.head _)
    have fresh : ∀ r ∈ dn, @LT.lt Nat _ r.1 _ := fun r hr => Heap.lt_size (N4 r (.tail _ (.tail _ (.tail _ (.tail _ (List.mem_append_right [(bc, oc), (bx, listOf #[.ref fw, .int k tkb] e1), (fw, listOf vs.toArray e2), (ix, ox), (cn, listOf cys.toArray cys.length)] hr)))))).1
    refine told_raises (.inr ⟨rfl, rfl⟩) (raises_item (e := 0) (b := byteArr rs) (ns := (cs.take sp.toNat ++ [0]) ++ cs.drop sp.toNat) (sp := sp.toNat) hdv.ok (by omega) st0 (by omega) ?_ ?_ ?_ (mid_items hI1 hI2 (by omega) fun _ _ _ _ hh hx => int_none hh hx) fun r hr => Nat.ne_of_gt (fresh r hr)) (by k_asm) (by k_asm) (by k_asm) (by k_asm) (by k_asm) (by k_asm) rfl (News.sub N6 fun q hq => List.mem_append_right _ hq) (fun q hq => ?_) (fun q hq r hr => ?_) (by ktr_room) (by ktr_units) fun t h7 tk7 F7 K7 => ?_
    · rw [List.size_toArray]
      simp only [List.length_append, List.length_cons, List.length_nil, List.length_take, List.length_drop]
      omega
    · simp only [List.length_append, List.length_cons, List.length_nil, List.length_take, List.length_drop]
      omega
    · intro c hc
      simp only [List.mem_append, List.mem_singleton] at hc
      rcases hc with (hc | hc) | hc
      · have := hcr c (List.mem_of_mem_take hc); omega
      · omega
      · have := hcr c (List.mem_of_mem_drop hc); omega
    · rw [List.mem_singleton.mp hq]
      exact (N5 _ (.head _)).1
    · rw [List.mem_singleton.mp hq]
      exact Nat.ne_of_gt (fresh r hr)
    · have N8 : News h₀ L h7 ([(bc, oc), (bx, listOf #[.ref fw, .int k tkb] e1), (fw, listOf vs.toArray e2), (ix, ox), (cn, listOf cys.toArray cys.length)] ++ dn) := News.kept N6 K7 fun q hq hm => (N6 q hq).2.1 (List.mem_singleton.mp hm)
      clear N5
      k_steps
      exact wpX_execs_nil (wpX_execs_nil (ret _ _ F7 N8))
  · exact wpX_execs_nil (wpX_execs_nil (ret _ _ F N))
end

section
open PySem.Calls PyProof.Rows
local macro_rules | `(tactic| walk_at "binaryOp Add ref ref") => `(tactic| (k_here; refine Stop.mk ?_))
variable {w : World} {p : Program} {loose : List Str} {mean : ExcName → Option Value} {mg mb : Str → Option Value} {dp un : Nat} {gd : Option (List Code)} {cn : Str} {cs : Scope} {a : Addr} {ccd : Value} {cl : List (Str × Addr)} {outer : List Env} {A₀ : Around} {base h₀ : Heap} {L : Addr} {m : Str → Option Value} {s : Shared} {Q E : Value → Shared → Prop}
theorem seg9 {bc bx fw cn ix : Addr} {oc ox : Obj} {vs cys : List Value} {ns cs rs : List Int} {k st sp fo wr : Int} {tkb to ts tp tf tw : Tok} {e1 e2 : Nat} {lb : List Stmt} {sc : Scope} {dv lv : Value} {td tg : Tok} {dn : List (Addr × Obj)} {Q : Flow → Shared → Prop} (B : Below A₀ h₀ [] h₀)
   (F : Fr h₀ L s.heap (fun y => (if y = "got" then some (.bytes (byteArr (wkOut rs (if fo = 3 then onceOf cs else cs) st.toNat)) tg) else if y = "lengths" then some lv else (if y = "due" then some (.bytes (byteArr (wkOut rs (if fo = 3 then onceOf cs else cs) st.toNat)) td) else if y = "data" then some dv else (if y = "spot" then some (.int sp tp) else if y = "wrong" then some (.int wr tw) else if y = "form" then some (.int fo tf) else if y = "counts" then some (.ref cn) else if y = "start" then some (.int st ts) else if y = "octets" then some (.bytes (byteArr rs) to) else m y))))) (X : (Mine.hd.heap_1 w.params).In h₀) (T : Top p loose mean mg mb h₀)
   (hlb : lb = lawLoop) (hsc : sc = lawScope) (hdv : DataIs dv dn (byteArr rs))
   (N : News h₀ L s.heap ([(bc, oc), (bx, listOf #[.ref fw, .int k tkb] e1), (fw, listOf vs.toArray e2), (ix, ox), (cn, listOf cys.toArray cys.length)] ++ dn)) (hrl : rs.length ≤ 20) (p0 : 0 ≤ sp) (p1 : sp < (cs.length : Int) + 1) (hi : IntsAre cys cs) (hcl : cs.length ≤ 6) (hcr : ∀ c ∈ cs, -2 ≤ c ∧ c < 10) (st0 : 0 ≤ st) (st1 : st < (rs.length : Int) + 3)
   (hd : dp + 20 < recursionLimit) (hu : un + 300 < cLine)
   (ret : ∀ h' tk', Fr h₀ L h' (fun y => (if y = "got" then some (.bytes (byteArr (wkOut rs (if fo = 3 then onceOf cs else cs) st.toNat)) tg) else if y = "lengths" then some lv else (if y = "due" then some (.bytes (byteArr (wkOut rs (if fo = 3 then onceOf cs else cs) st.toNat)) td) else if y = "data" then some dv else (if y = "spot" then some (.int sp tp) else if y = "wrong" then some (.int wr tw) else if y = "form" then some (.int fo tf) else if y = "counts" then some (.ref cn) else if y = "start" then some (.int st ts) else if y = "octets" then some (.bytes (byteArr rs) to) else m y)))) → News h₀ L h' ([(bc, oc), (bx, listOf #[.ref fw, .int k tkb] e1), (fw, listOf vs.toArray e2), (ix, ox), (cn, listOf cys.toArray cys.length)] ++ dn) → Q .next { s with heap := h', toks := tk' }) :
   wpX (model PG w) (ktrTop dp un gd (Str.ofString "law") sc L 619 (.ref 618) [(Str.ofString "box", bc)] []) (execs ((lb.drop 16).take 1) (envX (Str.ofString "law") sc L 619 (.ref 618) [(Str.ofString "box", bc)])) Q E s := by
  conv at hlb => rhs; whnf
  conv at hsc => rhs; whnf
  subst hlb hsc
  simp only [List.take_succ_cons, List.take_zero, List.drop_succ_cons, List.drop_zero]
  simp only [List.cons_append, List.nil_append] at N
  have hcy := hi.length
  have hbs : (byteArr rs).size = rs.length := by unfold byteArr; simp
  have N0 : News h₀ L s.heap ([(bc, oc), (bx, listOf #[.ref fw, .int k tkb] e1), (fw, listOf vs.toArray e2), (ix, ox), (cn, listOf cys.toArray cys.length)] ++ dn) := N
  have NL : ∀ {h' : Heap}, Kept [L] s.heap h' → News h₀ L h' ([(bc, oc), (bx, listOf #[.ref fw, .int k tkb] e1), (fw, listOf vs.toArray e2), (ix, ox), (cn, listOf cys.toArray cys.length)] ++ dn) := fun K => News.kept N0 K fun q hq hm => (N0 q hq).2.1 (List.mem_singleton.mp hm)
  refine wpX_execs_cons (wpX_If (wpX_and2 ?_))
  k_fold
  k_steps
  · refine wpX_isTrue_Compare1 (wpX_Call ?_)
    k_fold
    k_steps
    refine wpX_callWith1 (K := Mine.hd.heap_1 w.params) (by k_is) ?_
    k_steps
    rename Fr _ _ _ _ => F1
    rename News _ _ _ _ => N1
    obtain ⟨tt, hN1⟩ : ∃ (t : Tok), News h₀ L _ ((_, listOf #[.str (Str.ofString "two") t] 0) :: _) := ⟨_, N1⟩
    clear N1
    rename News _ _ _ _ => N1
    rename IntsAre _ (List.take _ _) => hI1
    have hz1 := hI1.length
    rw [List.length_take] at hz1
    refine Stop.out (add_lists F1 N1 ⟨_, (N1 _ (.tail _ (.head _))).1, rfl, _, rfl⟩ ⟨_, (N1 _ (.head _)).1, rfl, _, rfl⟩ (fun h3 F3 N3 => ?_) (by rw [sizeLine_eq, List.length_singleton]; omega))
    k_steps
    rename Fr _ _ _ _ => F4
    rename News _ _ _ _ => N4
    rename IntsAre _ (List.drop _ _) => hI2
    have hz2 := hI2.length
    rw [List.length_drop] at hz2
    refine Stop.out (add_lists F4 N4 ⟨_, (N4 _ (.tail _ (.head _))).1, rfl, _, rfl⟩ ⟨_, (N4 _ (.head _)).1, rfl, _, rfl⟩ (fun h5 F5 N5 => ?_) (by rw [sizeLine_eq, List.length_append, List.length_singleton]; omega))
    k_steps
    have hsub : ∀ q ∈ [(bc, oc), (bx, listOf #[.ref fw, .int k tkb] e1), (fw, listOf vs.toArray e2), (ix, ox), (cn, listOf cys.toArray cys.length)] ++ dn, News h₀ L h5 [q] := fun q hq => News.sub1 N5 (.tail _ (.tail _ (.tail _ (.tail _ (.tail _ hq)))))
    have N6 : News h₀ L h5 ([(bc, oc), (bx, listOf #[.ref fw, .int k tkb] e1), (fw, listOf vs.toArray e2), (ix, ox), (cn, listOf cys.toArray cys.length)] ++ dn) := fun q hq => hsub q hq q (.head _)
    have fresh : ∀ r ∈ dn, @LT.lt Nat _ r.1 _ := fun r hr => Heap.lt_size (N4 r (.tail _ (.tail _ (.tail _ (.tail _ (List.mem_append_right [(bc, oc), (bx, listOf #[.ref fw, .int k tkb] e1), (fw, listOf vs.toArray e2), (ix, ox), (cn, listOf cys.toArray cys.length)] hr)))))).1
    refine told_raises (.inl ⟨rfl, rfl⟩) (raises_item (e := 0) (b := byteArr rs) (ns := (cs.take sp.toNat ++ [0]) ++ cs.drop sp.toNat) (sp := sp.toNat) hdv.ok (by omega) st0 (by omega) ?_ ?_ ?_ (mid_items hI1 hI2 (by omega) fun _ _ _ _ hh hx => int_two (t := tt) hh hx) fun r hr => Nat.ne_of_gt (fresh r hr)) (by k_asm) (by k_asm) (by k_asm) (by k_asm) (by k_asm) (by k_asm) rfl (News.sub N6 fun q hq => List.mem_append_right _ hq) (fun q hq => ?_) (fun q hq r hr => ?_) (by ktr_room) (by ktr_units) fun t h7 tk7 F7 K7 => ?_
    · rw [List.size_toArray]
      simp only [List.length_append, List.length_cons, List.length_nil, List.length_take, List.length_drop]
      omega
    · simp only [List.length_append, List.length_cons, List.length_nil, List.length_take, List.length_drop]
      omega
    · intro c hc
      simp only [List.mem_append, List.mem_singleton] at hc
      rcases hc with (hc | hc) | hc
      · have := hcr c (List.mem_of_mem_take hc); omega
      · omega
      · have := hcr c (List.mem_of_mem_drop hc); omega
    · rw [List.mem_singleton.mp hq]
      exact (N5 _ (.head _)).1
    · rw [List.mem_singleton.mp hq]
      exact Nat.ne_of_gt (fresh r hr)
    · have N8 : News h₀ L h7 ([(bc, oc), (bx, listOf #[.ref fw, .int k tkb] e1), (fw, listOf vs.toArray e2), (ix, ox), (cn, listOf cys.toArray cys.length)] ++ dn) := News.kept N6 K7 fun q hq hm => (N6 q hq).2.1 (List.mem_singleton.mp hm)
      clear N5
      k_steps
      exact wpX_execs_nil (wpX_execs_nil (ret _ _ F7 N8))
  · exact wpX_execs_nil (wpX_execs_nil (ret _ _ F N))
end

section
open PySem.Calls PyProof.Rows
local macro_rules | `(tactic| walk_at "call type:range") => `(tactic| (k_here; refine Stop.mk ?_))
theorem range2_led {prog : Program} {w : World} {A : Around} {E : Value → Shared → Prop} {s : Shared} {h₀ : Heap} {L : Addr} {m : Str → Option Value} {news : List (Addr × Obj)} {a b : Int} {t u : Tok} {Q : Value → Shared → Prop} (F : Fr h₀ L s.heap m) (N : News h₀ L s.heap news)
    (h : ∀ r t2 u2 v h' tk, Fr h₀ L h' m → News h₀ L h' ((r, { cls := .type "range", dict := none, data := .fields #[.int a t2, .int b u2, .int 1 v], slots := #[] }) :: news) → (∀ q ∈ news, @LT.lt Nat _ q.1 r) → Q (.ref r) { s with heap := h', toks := tk }) :
    wpAny (model prog w) A (call (.type "range") [.int a t, .int b u]) Q E s :=
  call_range_2 (h _ _ _ _ _ _ (F.push _) (N.push F _ rfl) fun q hq => Heap.lt_size (N q hq).1)
variable {w : World} {p : Program} {loose : List Str} {mean : ExcName → Option Value} {mg mb : Str → Option Value} {dp un : Nat} {gd : Option (List Code)} {cn : Str} {cs : Scope} {a : Addr} {ccd : Value} {cl : List (Str × Addr)} {outer : List Env} {A₀ : Around} {base h₀ : Heap} {L : Addr} {m : Str → Option Value} {s : Shared} {Q E : Value → Shared → Prop}
theorem seg10 {bc bx fw cn ix : Addr} {oc ox : Obj} {vs cys : List Value} {ns cs rs : List Int} {k st sp fo wr : Int} {tkb to ts tp tf tw : Tok} {e1 e2 : Nat} {lb : List Stmt} {sc : Scope} {dv lv : Value} {td tg : Tok} {dn : List (Addr × Obj)} {Q : Flow → Shared → Prop} (B : Below A₀ h₀ [] h₀)
   (F : Fr h₀ L s.heap (fun y => (if y = "got" then some (.bytes (byteArr (wkOut rs (if fo = 3 then onceOf cs else cs) st.toNat)) tg) else if y = "lengths" then some lv else (if y = "due" then some (.bytes (byteArr (wkOut rs (if fo = 3 then onceOf cs else cs) st.toNat)) td) else if y = "data" then some dv else (if y = "spot" then some (.int sp tp) else if y = "wrong" then some (.int wr tw) else if y = "form" then some (.int fo tf) else if y = "counts" then some (.ref cn) else if y = "start" then some (.int st ts) else if y = "octets" then some (.bytes (byteArr rs) to) else m y))))) (X : (Mine.hd.heap_1 w.params).In h₀) (T : Top p loose mean mg mb h₀)
   (hlb : lb = lawLoop) (hsc : sc = lawScope) (hdv : DataIs dv dn (byteArr rs))
   (N : News h₀ L s.heap ([(bc, oc), (bx, listOf #[.ref fw, .int k tkb] e1), (fw, listOf vs.toArray e2), (ix, ox), (cn, listOf cys.toArray cys.length)] ++ dn)) (hrs : KBa.In rs) (hrl : rs.length ≤ 20) (p0 : 0 ≤ sp) (p1 : sp < 50) (st0 : 0 ≤ st) (st1 : st < (rs.length : Int) + 3)
   (hd : dp + 20 < recursionLimit) (hu : un + 300 < cLine)
   (ret : ∀ rv h' tk', Fr h₀ L h' (fun y => if y = "ranged" then some rv else (if y = "got" then some (.bytes (byteArr (wkOut rs (if fo = 3 then onceOf cs else cs) st.toNat)) tg) else if y = "lengths" then some lv else (if y = "due" then some (.bytes (byteArr (wkOut rs (if fo = 3 then onceOf cs else cs) st.toNat)) td) else if y = "data" then some dv else (if y = "spot" then some (.int sp tp) else if y = "wrong" then some (.int wr tw) else if y = "form" then some (.int fo tf) else if y = "counts" then some (.ref cn) else if y = "start" then some (.int st ts) else if y = "octets" then some (.bytes (byteArr rs) to) else m y)))) → News h₀ L h' ([(bc, oc), (bx, listOf #[.ref fw, .int k tkb] e1), (fw, listOf vs.toArray e2), (ix, ox), (cn, listOf cys.toArray cys.length)] ++ dn) → Q .next { s with heap := h', toks := tk' }) :
   wpX (model PG w) (ktrTop dp un gd (Str.ofString "law") sc L 619 (.ref 618) [(Str.ofString "box", bc)] []) (execs ((lb.drop 17).take 2) (envX (Str.ofString "law") sc L 619 (.ref 618) [(Str.ofString "box", bc)])) Q E s := by
  conv at hlb => rhs; whnf
  conv at hsc => rhs; whnf
  subst hlb hsc
  simp only [List.take_succ_cons, List.take_zero, List.drop_succ_cons, List.drop_zero]
  have N0 := N
  have hbk := KBa.ints_make hrs
  simp only [List.cons_append, List.nil_append] at N
  refine wpX_execs_cut 1 ?_
  dsimp only [List.take_succ_cons, List.take_zero, List.drop_succ_cons, List.drop_zero]
  k_steps
  refine Stop.out (range2_led F N fun r t2 u2 v2 h2 tk2 F2 N2 lt2 => ?_)
  k_steps
  rename Fr _ _ _ _ => F3
  rename News _ _ _ _ => N3
  refine wpX_execs_cons (wpX_If (wpX_and2 ?_))
  k_fold
  k_steps
  · refine wpX_isTrue_Compare1 (wpX_Call ?_)
    k_fold
    k_steps
    refine wpX_callWith1 (K := Mine.hd.heap_1 w.params) (by k_is) ?_
    k_steps
    rename News _ _ _ _ => N4
    have hdn : ∀ q ∈ dn, @LT.lt Nat _ q.1 r := fun q hq => lt2 q (List.mem_append_right [(bc, oc), (bx, listOf #[.ref fw, .int k tkb] e1), (fw, listOf vs.toArray e2), (ix, ox), (cn, listOf cys.toArray cys.length)] hq)
    refine swap_feed (feed_range (a := sp) (t := t2) (u := u2) (v := v2) (by omega) (by omega)) hdv (by k_asm) (by k_asm) (by k_asm) (by k_asm) rfl (News.sub N4 fun q hq => List.mem_cons_of_mem _ (List.mem_append_right [(bc, oc), (bx, listOf #[.ref fw, .int k tkb] e1), (fw, listOf vs.toArray e2), (ix, ox), (cn, listOf cys.toArray cys.length)] hq)) hrl st0 (by omega) (fun c hc => ?_) (fun q hq => ?_) (fun q hq r' hr' => ?_) (fun _ _ _ q => nomatch q) (fun _ _ _ _ _ => trivial) (by ktr_room) (by ktr_units) fun v h10 tk10 F10 K10 D10 => ?_
    · simp only [List.mem_cons, List.not_mem_nil, or_false] at hc
      omega
    · rw [List.mem_singleton.mp hq]
      exact (N4 _ (.head _)).1
    · rw [List.mem_singleton.mp hq]
      exact Nat.ne_of_gt (hdn r' hr')
    · have N11 := News.kept N4 K10 fun _ _ q => nomatch q
      clear N4
      k_steps
      rename News _ _ _ _ => N12
      refine Stop.out (walk_tells (ns := [sp, sp + 1, sp + 2]) (by k_asm) (by k_asm) (by k_asm) (by k_asm) rfl (N12 _ (.head _)).1 (.cons _ _ (.cons _ _ (.cons _ _ .nil))) (by simp) (fun c hc => ?_) hrs hrl st0 (by omega) (by ktr_room) (by ktr_units) fun td2 h13 tk13 F13 K13 => ?_)
      · simp only [List.mem_cons, List.not_mem_nil, or_false] at hc
        omega
      · have N13 : News h₀ L h13 ([(bc, oc), (bx, listOf #[.ref fw, .int k tkb] e1), (fw, listOf vs.toArray e2), (ix, ox), (cn, listOf cys.toArray cys.length)] ++ dn) := News.kept (News.sub N12 fun q hq => .tail _ (.tail _ hq)) K13 fun _ _ q => nomatch q
        clear N12
        k_steps
        · rename _ = true => hne
          simp at hne
        · exact wpX_execs_nil (wpX_execs_nil (ret _ _ _ F13 N13))
  · exact wpX_execs_nil (wpX_execs_nil (ret _ _ _ F3 (News.sub N3 fun q hq => .tail _ hq)))
end

section
open PySem.Calls PyProof.Rows
theorem feed_ints {w : World} {ks : List Int} {t : Tok} (hin : KBa.In ks) : Feed w (.bytes (byteArr ks) t) ks [] [] (fun _ _ => True) := by
  have e := KBa.ints_make hin
  refine feed_bytes (by unfold byteArr; simp) fun i c hc => ?_
  have h2 : (KBw.bInts (byteArr ks))[i]? = some (c.toNat : Int) := by
    unfold KBw.bInts
    rw [List.getElem?_map, Array.getElem?_toList, hc]
    rfl
  rw [e] at h2
  rw [List.getD_eq_getElem?_getD, h2]
  rfl
variable {w : World} {p : Program} {loose : List Str} {mean : ExcName → Option Value} {mg mb : Str → Option Value} {dp un : Nat} {gd : Option (List Code)} {cn : Str} {cs : Scope} {a : Addr} {ccd : Value} {cl : List (Str × Addr)} {outer : List Env} {A₀ : Around} {base h₀ : Heap} {L : Addr} {m : Str → Option Value} {s : Shared} {Q E : Value → Shared → Prop}
theorem seg11 {bc bx fw cn ix : Addr} {oc ox : Obj} {vs cys : List Value} {ns cs rs : List Int} {k st sp fo wr : Int} {tkb to ts tp tf tw : Tok} {e1 e2 : Nat} {lb : List Stmt} {sc : Scope} {dv lv rv : Value} {td tg : Tok} {dn : List (Addr × Obj)} {Q : Flow → Shared → Prop} (B : Below A₀ h₀ [] h₀)
   (F : Fr h₀ L s.heap (fun y => if y = "ranged" then some rv else (if y = "got" then some (.bytes (byteArr (wkOut rs (if fo = 3 then onceOf cs else cs) st.toNat)) tg) else if y = "lengths" then some lv else (if y = "due" then some (.bytes (byteArr (wkOut rs (if fo = 3 then onceOf cs else cs) st.toNat)) td) else if y = "data" then some dv else (if y = "spot" then some (.int sp tp) else if y = "wrong" then some (.int wr tw) else if y = "form" then some (.int fo tf) else if y = "counts" then some (.ref cn) else if y = "start" then some (.int st ts) else if y = "octets" then some (.bytes (byteArr rs) to) else m y))))) (X : (Mine.hd.heap_1 w.params).In h₀) (T : Top p loose mean mg mb h₀)
   (hlb : lb = lawLoop) (hsc : sc = lawScope) (hdv : DataIs dv dn (byteArr rs))
   (N : News h₀ L s.heap ([(bc, oc), (bx, listOf #[.ref fw, .int k tkb] e1), (fw, listOf vs.toArray e2), (ix, ox), (cn, listOf cys.toArray cys.length)] ++ dn)) (hrs : KBa.In rs) (hrl : rs.length ≤ 20) (p0 : 0 ≤ sp) (p1 : sp < 50) (st0 : 0 ≤ st) (st1 : st < (rs.length : Int) + 3)
   (hd : dp + 20 < recursionLimit) (hu : un + 300 < cLine)
   (ret : ∀ h' tk', Fr h₀ L h' (fun y => if y = "ranged" then some rv else (if y = "got" then some (.bytes (byteArr (wkOut rs (if fo = 3 then onceOf cs else cs) st.toNat)) tg) else if y = "lengths" then some lv else (if y = "due" then some (.bytes (byteArr (wkOut rs (if fo = 3 then onceOf cs else cs) st.toNat)) td) else if y = "data" then some dv else (if y = "spot" then some (.int sp tp) else if y = "wrong" then some (.int wr tw) else if y = "form" then some (.int fo tf) else if y = "counts" then some (.ref cn) else if y = "start" then some (.int st ts) else if y = "octets" then some (.bytes (byteArr rs) to) else m y)))) → News h₀ L h' ([(bc, oc), (bx, listOf #[.ref fw, .int k tkb] e1), (fw, listOf vs.toArray e2), (ix, ox), (cn, listOf cys.toArray cys.length)] ++ dn) → Q .next { s with heap := h', toks := tk' }) :
   wpX (model PG w) (ktrTop dp un gd (Str.ofString "law") sc L 619 (.ref 618) [(Str.ofString "box", bc)] []) (execs ((lb.drop 19).take 1) (envX (Str.ofString "law") sc L 619 (.ref 618) [(Str.ofString "box", bc)])) Q E s := by
  conv at hlb => rhs; whnf
  conv at hsc => rhs; whnf
  subst hlb hsc
  simp only [List.take_succ_cons, List.take_zero, List.drop_succ_cons, List.drop_zero]
  have N0 := N
  have hbk := KBa.ints_make hrs
  simp only [List.cons_append, List.nil_append] at N
  refine wpX_execs_cons (wpX_If (wpX_and2 ?_))
  k_fold
  k_steps
  · refine wpX_isTrue_Compare1 (wpX_Call ?_)
    k_fold
    k_steps
    refine wpX_callWith1 (K := Mine.hd.heap_1 w.params) (by k_is) ?_
    k_steps
    rename News _ _ _ _ => N4
    have hin2 : KBa.In [sp, 2] := fun c hc => by
      simp only [List.mem_cons, List.not_mem_nil, or_false] at hc
      omega
    refine swap_feed (ns := [sp, 2]) (feed_ints hin2) hdv (by k_asm) (by k_asm) (by k_asm) (by k_asm) rfl (News.sub N4 fun q hq => List.mem_cons_of_mem _ (List.mem_append_right [(bc, oc), (bx, listOf #[.ref fw, .int k tkb] e1), (fw, listOf vs.toArray e2), (ix, ox), (cn, listOf cys.toArray cys.length)] hq)) hrl st0 (by omega) (fun c hc => ?_) (fun q hq => nomatch hq) (fun q hq => nomatch hq) (fun _ _ _ q => nomatch q) (fun _ _ _ _ _ => trivial) (by ktr_room) (by ktr_units) fun v h10 tk10 F10 K10 D10 => ?_
    · simp only [List.mem_cons, List.not_mem_nil, or_false] at hc
      omega
    · have N11 : News h₀ L h10 ([(bc, oc), (bx, listOf #[.ref fw, .int k tkb] e1), (fw, listOf vs.toArray e2), (ix, ox), (cn, listOf cys.toArray cys.length)] ++ dn) := News.kept (News.sub N4 fun q hq => .tail _ hq) K10 fun _ _ q => nomatch q
      clear N4
      simp only [List.cons_append, List.nil_append] at N11
      k_steps
      rename News _ _ _ _ => N12
      refine Stop.out (walk_tells (ns := [sp, 2]) (by k_asm) (by k_asm) (by k_asm) (by k_asm) rfl (N12 _ (.head _)).1 (.cons _ _ (.cons _ _ .nil)) (by simp) (fun c hc => ?_) hrs hrl st0 (by omega) (by ktr_room) (by ktr_units) fun td2 h13 tk13 F13 K13 => ?_)
      · simp only [List.mem_cons, List.not_mem_nil, or_false] at hc
        omega
      · have N13 : News h₀ L h13 ([(bc, oc), (bx, listOf #[.ref fw, .int k tkb] e1), (fw, listOf vs.toArray e2), (ix, ox), (cn, listOf cys.toArray cys.length)] ++ dn) := News.kept (News.sub N12 fun q hq => .tail _ hq) K13 fun _ _ q => nomatch q
        clear N12
        k_steps
        · rename _ = true => hne
          simp at hne
        · exact wpX_execs_nil (wpX_execs_nil (ret _ _ F13 N13))
  · exact wpX_execs_nil (wpX_execs_nil (ret _ _ F N0))
end

section
open PySem.Calls PyProof.Rows
theorem wpX_execs_cutX {M : Model} {A : Around} {E : Value → Shared → Prop} {s : Shared} {env : Env} (n : Nat) {l : List Stmt} {Q : Flow → Shared → Prop}
    (h : wpX M A (execs (l.take n) env) (fun f s' => match f with | .next => wpX M A (execs (l.drop n) env) Q E s' | f => Q f s') E s) : wpX M A (execs l env) Q E s := by
  intro Γ p hΓ hb hc
  have := wp_execs_app hΓ hb hc (h Γ p hΓ hb hc)
  rwa [List.take_append_drop] at this
theorem drop_in {l : List Stmt} {a b c : Nat} (h : a + b = c) : List.drop b (List.drop a l) = List.drop c l := by rw [List.drop_drop, h]
theorem lawLoop_end : List.drop 20 lawLoop = [] := by rfl
variable {w : World} {p : Program} {loose : List Str} {mean : ExcName → Option Value} {mg mb : Str → Option Value} {dp un : Nat} {gd : Option (List Code)} {cn : Str} {cs : Scope} {a : Addr} {ccd : Value} {cl : List (Str × Addr)} {outer : List Env} {A₀ : Around} {base h₀ : Heap} {L : Addr} {m : Str → Option Value} {s : Shared} {Q E : Value → Shared → Prop}
/-- one round of the law -/
theorem round_tells {bc bx fw ix : Addr} {oc ox : Obj} {vs : List Value} {ns : List Int} {k : Int} {tk : Tok} {e1 e2 : Nat} {Q : Flow → Shared → Prop} {lb : List Stmt} {sc : Scope} (B : Below A₀ h₀ [] h₀) (F : Fr h₀ L s.heap m) (X : (Mine.hd.heap_1 w.params).In h₀) (T : Top p loose mean mg mb h₀)
   (hlb : lb = lawLoop) (hsc : sc = lawScope)
   (N : News h₀ L s.heap [(bc, oc), (bx, listOf #[.ref fw, .int k tk] e1), (fw, listOf vs.toArray e2), (ix, ox)])
   (hoc : oc.data = .cell (some (.ref bx))) (hcx : @Ne Nat bc bx) (hfx : @Ne Nat fw bx) (hix : @Ne Nat ix bx) (hf : FewOk vs ns) (h0 : 0 ≤ k) (h1 : k < 2^30)
   (hd : dp + 20 < recursionLimit) (hu : un + 300 < cLine)
   (ret : ∀ m' k' t' h' tk', k ≤ k' → k' ≤ k + 60 → Fr h₀ L h' m' → News h₀ L h' [(bc, oc), (bx, listOf #[.ref fw, .int k' t'] e1), (fw, listOf vs.toArray e2), (ix, ox)] → Q .next { s with heap := h', toks := tk' }) :
   wpX (model PG w) (ktrTop dp un gd (Str.ofString "law") sc L 619 (.ref 618) [(Str.ofString "box", bc)] []) (execs lb (envX (Str.ofString "law") sc L 619 (.ref 618) [(Str.ofString "box", bc)])) Q E s := by
  refine wpX_execs_cut 1 (seg1 (cs := lawScope) B F X T rfl hlb hsc N hoc hcx hfx hix hf h0 h1 hd hu fun rs to k1 t1 h1' tk1 hrs hrl k1a k1b F1 N1 => ?_)
  dsimp only
  refine wpX_execs_cut 5 (seg2 (rs := rs) (to := to) B F1 X T hlb hsc N1 hoc hcx hfx hix hf (by omega) (by omega) hrs hrl hd hu fun st sp fo wr ts tp tf tw cn cys cs k2 t2 h2 tk2 st0 st1 f0 f1 wr0 wr1 p0 p1 hi hcl hcr k2a k2b F2 N2 n1 n2 n3 => ?_)
  dsimp only
  rw [drop_in (c := 6) rfl]
  refine wpX_execs_cutX 2 (seg3 (cs := cs) B F2 X T hlb hsc N2 hoc hcx hfx n2 hix hf (by omega) (by omega) hrs hrl hd hu fun dv dn t3 h3 tk3 hdv hdl F3 N3 => ?_)
  dsimp only
  rw [drop_in (c := 8) rfl]
  refine wpX_execs_cut 2 (seg4 (ns := ns) B F3 X T hlb hsc N3 hrs hrl hi hcl hcr st0 st1 hd hu fun td h4 tk4 F4 N4 => ?_)
  dsimp only
  rw [drop_in (c := 10) rfl]
  refine wpX_execs_cutX 2 (seg5 (ns := ns) B F4 X T hlb hsc hdv N4 hrs hrl hdl hi hcl hcr st0 st1 f0 f1 hd hu fun lv tg h5 tk5 F5 N5 d5 => ?_)
  dsimp only
  rw [drop_in (c := 12) rfl]
  refine wpX_execs_cut 2 (seg6 (ns := ns) B F5 X T hlb hsc hdv N5 hrs hrl d5 hd hu fun h6 tk6 F6 N6 => ?_)
  dsimp only
  rw [drop_in (c := 14) rfl]
  refine wpX_execs_cutX 1 (seg7 (ns := ns) B F6 X T hlb hsc hdv N6 hrl p0 (by omega) hd hu fun h7 tk7 F7 N7 => ?_)
  dsimp only
  rw [drop_in (c := 15) rfl]
  refine wpX_execs_cutX 1 (seg8 (ns := ns) B F7 X T hlb hsc hdv N7 hrl p0 p1 hi hcl hcr st0 st1 hd hu fun h8 tk8 F8 N8 => ?_)
  dsimp only
  rw [drop_in (c := 16) rfl]
  refine wpX_execs_cutX 1 (seg9 (ns := ns) B F8 X T hlb hsc hdv N8 hrl p0 p1 hi hcl hcr st0 st1 hd hu fun h9 tk9 F9 N9 => ?_)
  dsimp only
  rw [drop_in (c := 17) rfl]
  refine wpX_execs_cutX 2 (seg10 (ns := ns) B F9 X T hlb hsc hdv N9 hrs hrl p0 (by omega) st0 st1 hd hu fun rv h10 tk10 F10 N10 => ?_)
  dsimp only
  rw [drop_in (c := 19) rfl]
  refine wpX_execs_cutX 1 (seg11 (ns := ns) B F10 X T hlb hsc hdv N10 hrs hrl p0 (by omega) st0 st1 hd hu fun h11 tk11 F11 N11 => ?_)
  dsimp only
  rw [drop_in (c := 20) rfl, hlb, lawLoop_end]
  refine wpX_execs_nil (ret _ (k2 + 1) t3 _ _ (by omega) (by omega) F11 (News.sub N11 fun q hq => List.mem_append_left _ ?_))
  simp only [List.mem_cons, List.not_mem_nil, or_false] at hq ⊢
  rcases hq with h | h | h | h <;> simp [h]
end

section
open PySem.Calls PyProof.Rows
variable {w : World} {p : Program} {loose : List Str} {mean : ExcName → Option Value} {mg mb : Str → Option Value} {dp un : Nat} {gd : Option (List Code)} {cn : Str} {cs : Scope} {a : Addr} {ccd : Value} {cl : List (Str × Addr)} {outer : List Env} {A₀ : Around} {base h₀ : Heap} {L : Addr} {m : Str → Option Value} {s : Shared} {Q E : Value → Shared → Prop}
theorem law_few {bc l : Addr} {oc : Obj} {vs : List Value} {ns : List Int} {Q : Flow → Shared → Prop} {lb : List Stmt} {sc : Scope} (B : Below A₀ h₀ [] h₀)
   (F : Fr h₀ L s.heap (fun y => if y = "script" then some (.ref l) else none)) (X : (Mine.hd.heap_1 w.params).In h₀) (T : Top p loose mean mg mb h₀)
   (hlb : lb = lawBody) (hsc : sc = lawScope)
   (N : News h₀ L s.heap [(bc, oc)]) (hoc : oc.data = .cell none) (hl : h₀.IsList l vs.toArray) (hi : IntsAre vs ns) (hlen : ns.length ≤ 63)
   (hd : dp + 30 < recursionLimit) (hu : un + 400 < cLine)
   (ret : ∀ fw ws ms e2 h' tk', FewOk ws ms → Fr h₀ L h' (fun y => if y = "few" then some (.ref fw) else if y = "script" then some (.ref l) else none) → News h₀ L h' [(bc, oc), (fw, listOf ws.toArray e2)] → @Ne Nat bc fw → Q .next { s with heap := h', toks := tk' }) :
   wpAny (model PG w) (ktrTop dp un gd (Str.ofString "law") sc L 619 (.ref 618) [(Str.ofString "box", bc)] []) (execs (lb.take 1) (envX (Str.ofString "law") sc L 619 (.ref 618) [(Str.ofString "box", bc)])) Q E s := by
  conv at hlb => rhs; whnf
  conv at hsc => rhs; whnf
  subst hlb hsc
  simp only [List.take_succ_cons, List.take_zero, List.drop_succ_cons, List.drop_zero]
  k_steps
  · rename IntsAre _ (List.map _ _) => hI8
    rename 0 < _ => hpos
    rename (_ : Addr) ≠ _ ∧ bc ≠ _ => o1
    rename (List.take 40 ns).length = min 40 ns.length => hC
    rename Fr _ _ _ _ => F9
    rename News _ _ _ _ => N9
    refine ret _ ys _ ys.length _ _ ⟨hI8, hpos, by rw [List.length_map]; omega, fun n hn => ?_⟩ F9 (News.sub N9 fun q hq => ?_) o1.2
    · obtain ⟨x, _, rfl⟩ := List.mem_map.mp hn
      exact ⟨Int.fmod_nonneg_of_pos _ (by decide), Int.fmod_lt_of_pos _ (by decide)⟩
    · simp only [List.mem_cons, List.not_mem_nil, or_false] at hq ⊢
      rcases hq with h | h <;> simp [h]
  · rename (_ : Addr) < _ ∧ _ ∧ bc < _ => l1
    rename Fr _ _ _ _ => F9
    rename News _ _ _ _ => N8
    obtain ⟨tt, N9⟩ : ∃ (t : Tok), News h₀ L _ ((_, listOf #[.int 11 t] 0) :: _) := ⟨_, N8⟩
    refine ret _ [.int 11 tt] [11] 0 _ _ ⟨.cons _ _ .nil, by decide, by decide, fun n hn => ?_⟩ F9 (News.sub N9 fun q hq => ?_) (Nat.ne_of_lt l1.2.2)
    · rw [List.mem_singleton.mp hn]
      decide
    · simp only [List.mem_cons, List.not_mem_nil, or_false] at hq ⊢
      rcases hq with h | h <;> simp [h]
end

section
open PySem.Calls PyProof.Rows
section
variable {w : World} {A : Around} {s : Shared} {g : Heap} {m : Str → Option Value} {bs : List (Addr × Obj)} {St : Nat → Obj → Prop} {P : Nat → Value → Prop} {Dn : Addr → Heap → Prop}
theorem forX {R : Result → Shared → Prop} {x : Str} {px : Pos} {body : List Stmt} {env : Env} {I : Addr} {o : Obj} {n : Nat} {core : List (Addr × Obj)}
    (Inv : Nat → List (Addr × Obj) → (Str → Option Value) → Prop)
    (hI : IterS w bs St n P Dn) (hA : A.handled = none) (hkf : env.kindOf x = some .local) (hp : (env.scope.kind == .class || (env.scope.kind == .module && env.locals != env.globals)) = false)
    (F : Fr g env.locals s.heap m) (N : News g env.locals s.heap ((I, o) :: core)) (st : St 0 o) (hcI : ∀ q ∈ core, q.1 ≠ I) (hbg : ∀ q ∈ bs, g.get? q.1 = some q.2) (hbI : ∀ q ∈ bs, q.1 ≠ I) (h0 : Inv 0 core m)
    (hbody : ∀ (i : Nat) (v : Value) (m : Str → Option Value) (h : Heap) (tk : Nat) (o' : Obj) (core : List (Addr × Obj)), i < n → P i v → Inv i core m → (∀ q ∈ core, q.1 ≠ I) →
      Fr g env.locals h (fun q => if q = x then some v else m q) → News g env.locals h ((I, o') :: core) →
      wpX (model PG w) A (execs body env) (fun f s₃ => match f with
        | .next => Stop (∃ m' core' h' tk', s₃ = { s with heap := h', toks := tk' } ∧ Fr g env.locals h' m' ∧ News g env.locals h' ((I, o') :: core') ∧ (∀ q ∈ core', q.1 ≠ I) ∧ Inv (i + 1) core' m')
        | .ret v => R (.ok (.ret v)) s₃
        | _ => False) (notedBy (model PG w) A env fun e s' => R (.error e) s') { s with heap := h, toks := tk })
    (hR : ∀ m core h tk, Inv n core m → Fr g env.locals h m → News g env.locals h core → Dn I h → R (.ok .next) { s with heap := h, toks := tk }) :
    codeX (model PG w) A (.forLoop (.Name x px) (.ref I) body [] env) R s := by
  refine codeX_forLoop (fun k s' => ∃ i m core h tk o', k = n - i ∧ i ≤ n ∧ s' = { s with heap := h, toks := tk } ∧ Fr g env.locals h m ∧ St i o' ∧ Inv i core m ∧ (∀ q ∈ core, q.1 ≠ I) ∧ News g env.locals h ((I, o') :: core)) ?_ n
    ⟨0, m, core, s.heap, s.toks, o, rfl, Nat.zero_le _, rfl, F, st, h0, hcI, N⟩
  rintro k s' ⟨i, m, core, h, tk, o', rfl, hi, rfl, F1, st1, iv, hcI, N1⟩
  have NI := N1 _ (.head _)
  have hb1 : ∀ q ∈ bs, h.get? q.1 = some q.2 := fun q hq => F1.keep _ _ (hbg q hq)
  have hIL : env.locals ∉ [I] := by intro q; exact NI.2.1 (List.mem_singleton.mp q).symm
  have hI0 : ∀ c ∈ [I], g.get? c = none := by intro c q; rw [List.mem_singleton.mp q]; exact NI.2.2
  by_cases hlt : i < n
  · refine hI.item A hA i I o' _ _ _ hlt hb1 hbI NI.1 st1 fun v o2 h2 tk2 hv st2 e2 k2 => ?_
    have F2 := Fr.kept F1 k2 hIL hI0
    have N2 : News g env.locals h2 ((I, o2) :: core) := by
      intro q hq
      rcases List.mem_cons.mp hq with rfl | hq
      · exact ⟨e2, NI.2⟩
      · exact ⟨k2 _ _ (fun e => hcI q hq (List.mem_singleton.mp e)) (N1 q (.tail _ hq)).1, (N1 q (.tail _ hq)).2⟩
    refine wpAny_of_eq (a := ()) rfl ?_
    refine wpAny_assign_Name (wpAny_storeName_local hkf F2.ns (fun h3 hn3 hs3 => ?_) hp)
    refine wpX_mono (hbody i v m h3 _ o2 core hlt hv iv hcI (F2.set hn3 hs3) (N2.set hs3)) (fun f s₃ z => ?_) fun _ _ z => z
    cases f with
    | next =>
      obtain ⟨m', core', h', tk', rfl, F4, N4, c4, iv'⟩ := z
      exact ⟨n - (i + 1), by omega, i + 1, m', core', h', tk', o2, rfl, hlt, rfl, F4, st2, iv', c4, N4⟩
    | cont => exact z.elim
    | brk => exact z.elim
    | ret _ => exact z
  · have hin : i = n := by omega
    subst hin
    refine hI.done A hA I o' _ _ _ hb1 hbI NI.1 st1 fun h2 tk2 dn2 k2 => ?_
    exact (hR m core h2 tk2 iv (Fr.kept F1 k2 hIL hI0) (fun q hq => ⟨k2 _ _ (fun e => hcI q hq (List.mem_singleton.mp e)) (N1 q (.tail _ hq)).1, (N1 q (.tail _ hq)).2⟩) dn2)
end
end

section
open PySem.Calls PyProof.Rows
local macro_rules | `(tactic| walk_at "call type:range") => `(tactic| (k_here; refine Stop.mk ?_))
local macro_rules | `(tactic| walk_at "pyIter ref") => `(tactic| (k_here; refine Stop.mk ?_))
theorem range1_led {prog : Program} {w : World} {A : Around} {E : Value → Shared → Prop} {s : Shared} {h₀ : Heap} {L : Addr} {m : Str → Option Value} {news : List (Addr × Obj)} {n : Int} {t : Tok} {Q : Value → Shared → Prop} (F : Fr h₀ L s.heap m) (N : News h₀ L s.heap news)
    (h : ∀ r t2 u2 v h' tk, Fr h₀ L h' m → News h₀ L h' ((r, { cls := .type "range", dict := none, data := .fields #[.int 0 t2, .int n u2, .int 1 v], slots := #[] }) :: news) → (∀ q ∈ news, @LT.lt Nat _ q.1 r) → Q (.ref r) { s with heap := h', toks := tk }) :
    wpAny (model prog w) A (call (.type "range") [.int n t]) Q E s :=
  call_range_1 (h _ _ _ _ _ _ (F.push _) (N.push F _ rfl) fun q hq => Heap.lt_size (N q hq).1)
variable {w : World} {p : Program} {loose : List Str} {mean : ExcName → Option Value} {mg mb : Str → Option Value} {dp un : Nat} {gd : Option (List Code)} {cn : Str} {cs : Scope} {a : Addr} {ccd : Value} {cl : List (Str × Addr)} {outer : List Env} {A₀ : Around} {base h₀ : Heap} {L : Addr} {m : Str → Option Value} {s : Shared} {Q E : Value → Shared → Prop}
theorem law_rest {bc l fw : Addr} {oc : Obj} {ws : List Value} {ms : List Int} {e2 : Nat} {Q : Flow → Shared → Prop} {lb : List Stmt} {sc : Scope} (B : Below A₀ h₀ [] h₀)
   (F : Fr h₀ L s.heap (fun y => if y = "few" then some (.ref fw) else if y = "script" then some (.ref l) else none)) (X : (Mine.hd.heap_1 w.params).In h₀) (T : Top p loose mean mg mb h₀)
   (hlb : lb = lawBody) (hsc : sc = lawScope)
   (N : News h₀ L s.heap [(bc, oc), (fw, listOf ws.toArray e2)]) (hoc : oc.data = .cell none) (hcf : @Ne Nat bc fw) (hf : FewOk ws ms)
   (hd : dp + 30 < recursionLimit) (hu : un + 400 < cLine)
   (ret : ∀ m' h' tk', Fr h₀ L h' m' → Q (.ret (.bool true)) { s with heap := h', toks := tk' }) :
   wpX (model PG w) (ktrTop dp un gd (Str.ofString "law") sc L 619 (.ref 618) [(Str.ofString "box", bc)] []) (execs (lb.drop 1) (envX (Str.ofString "law") sc L 619 (.ref 618) [(Str.ofString "box", bc)])) Q E s := by
  conv at hlb => rhs; whnf
  have hsc2 := hsc
  conv at hsc => rhs; whnf
  have hbody : lawLoop = lawLoop := rfl
  conv at hbody => rhs; whnf
  have hia := hf.are
  have hlen := hia.length
  have hfl := hf.len
  have hfp := hf.pos
  subst hlb hsc
  simp only [List.take_succ_cons, List.take_zero, List.drop_succ_cons, List.drop_zero]
  refine wpX_execs_cut 1 ?_
  dsimp only [List.take_succ_cons, List.take_zero, List.drop_succ_cons, List.drop_zero]
  k_steps
  refine wpX_execs_cons (wpX_For ?_)
  k_fold
  k_steps
  rename Fr _ _ _ _ => F1
  rename News _ _ _ _ => N1
  rename _ = Data.cell _ => hoc1
  rename bc < _ ∧ fw < _ => l1
  obtain ⟨nn, hnn, hn6⟩ : ∃ nn : Nat, (if 2 + ((ms.length : Nat) : Int).fdiv 4 < 6 then 2 + ((ms.length : Nat) : Int).fdiv 4 else 6) = (nn : Int) ∧ nn ≤ 6 := by
    have hq : 0 ≤ ((ms.length : Nat) : Int).fdiv 4 := Int.fdiv_nonneg (by omega) (by decide)
    refine ⟨(if 2 + ((ms.length : Nat) : Int).fdiv 4 < 6 then 2 + ((ms.length : Nat) : Int).fdiv 4 else 6).toNat, ?_, ?_⟩
    · rw [Int.toNat_of_nonneg]
      split <;> omega
    · split <;> omega
  rw [hnn]
  refine Stop.out (range1_led F1 N1 fun r t2 u2 v2 h2 tk2 F2 N2 lt2 => ?_)
  k_steps
  rename Fr _ _ _ _ => F3
  rename News _ _ _ _ => N3
  obtain ⟨bx, tb, ob, N4, hoc2, lbx, lfx⟩ : ∃ (bx : Addr) (tb : Tok) (ob : Obj), News h₀ L h2 [(r, { cls := .type "range", dict := none, data := .fields #[.int 0 t2, .int (nn : Int) u2, .int 1 v2], slots := #[] }), (bx, listOf #[.ref fw, .int 0 tb] 0), (bc, ob), (fw, listOf ws.toArray e2)] ∧ ob.data = .cell (some (.ref bx)) ∧ @LT.lt Nat _ bc bx ∧ @LT.lt Nat _ fw bx :=
    ⟨_, _, _, N3, hoc1, l1.1, l1.2⟩
  clear N3 hoc1 l1 lt2
  refine Stop.out (opens_use (bs := [(r, _)]) (itn := []) (core := [(bc, ob), (bx, listOf #[.ref fw, .int 0 tb] 0), (fw, listOf ws.toArray e2)]) (opens_range (r := r) (t := t2) (u := u2) (v := v2) (small_one (by decide) (by decide) (by omega) (by omega)) (by rw [rangeSize_nat]; omega : Builtin.Range.rangeSize 0 (nn : Int) 1 = (nn : Int))) F3 (News.sub N4 fun q hq => ?_) (fun q hq => ?_) (fun _ _ _ q => nomatch q) (fun _ _ _ q => nomatch q) fun I o h4 tk4 F4 N5 c5 b5 bI st5 _ => ?_)
  · simp only [List.nil_append, List.mem_cons, List.not_mem_nil, or_false] at hq ⊢
    rcases hq with h | h | h <;> simp [h]
  · rw [List.mem_singleton.mp hq]
    exact (N4 _ (.head _)).1
  refine forX (bs := []) (n := nn) (fun i core _ => ∃ (k : Int) (t : Tok), core = [(bc, ob), (bx, listOf #[.ref fw, .int k t] 0), (fw, listOf ws.toArray e2)] ∧ 0 ≤ k ∧ k ≤ 60 * (i : Int)) (iter_range (r := r) (a := 0) (c := 1) (n := nn) (bs := [])) rfl rfl rfl F4 N5 st5 c5 (fun _ q => nomatch q) (fun _ q => nomatch q) ⟨0, tb, rfl, by decide, by decide⟩ ?_ ?_
  · rintro i v m6 h6 tk6 o6 core hi6 hv6 ⟨k, t, rfl, hk0, hk1⟩ c6 F6 N6
    refine round_tells (lb := lawLoop) (sc := _) (ix := I) (ox := o6) (k := k) (tk := t) (e1 := 0) (e2 := e2) (vs := ws) (ns := ms) B F6 X T rfl hsc2 (News.sub N6 fun q hq => ?_) hoc2 (Nat.ne_of_lt lbx) (Nat.ne_of_lt lfx) (fun e => c6 (bx, listOf #[.ref fw, .int k t] 0) (.tail _ (.head _)) e.symm) hf hk0 (by omega) (by omega) (by omega) fun m' k' t' h' tk' ka kb F7 N7 => ?_
    · simp only [List.mem_cons, List.not_mem_nil, or_false] at hq ⊢
      rcases hq with h | h | h | h <;> simp [h]
    · refine Stop.out ⟨m', _, h', tk', rfl, F7, News.sub N7 fun q hq => ?_, fun q hq => ?_, k', t', rfl, by omega, by push_cast; omega⟩
      · simp only [List.mem_cons, List.not_mem_nil, or_false] at hq ⊢
        rcases hq with h | h | h | h <;> simp [h]
      · simp only [List.mem_cons, List.not_mem_nil, or_false] at hq
        rcases hq with rfl | rfl | rfl
        · exact c6 (bc, ob) (.head _)
        · exact c6 (bx, listOf #[.ref fw, .int k t] 0) (.tail _ (.head _))
        · exact c6 (fw, listOf ws.toArray e2) (.tail _ (.tail _ (.head _)))
  · rintro m8 core h8 tk8 ⟨k, t, rfl, hk0, hk1⟩ F8 N8 -
    dsimp only
    refine wpX_execs_cons (wpX_Return_some (wpX_Compare1 (wpX_Call ?_)))
    k_fold
    k_steps
    refine wpX_callWith1 (K := Mine.hd.heap_1 w.params) (by k_is) ?_
    k_steps
    rename News _ _ _ _ => N9
    obtain ⟨tx, N10⟩ : ∃ (t : Tok), News h₀ L _ ((_, listOf #[.int (-1) t] 0) :: _) := ⟨_, N9⟩
    have e321 : ([-1].foldl (swStep #[1, 2, 3]) (0, #[])).2 = #[3, 2, 1] := by decide +kernel
    refine swap_two (b := #[1, 2, 3]) (dn := []) (itn := []) (ns := [-1]) (.inl ⟨_, rfl⟩) (by k_asm) (by k_asm) (by k_asm) (by k_asm) rfl News.nil (by decide) (iter_list (e := 0) (vs := #[.int (-1) tx])) opens_list (fun i v _ hp => ints_getD (vs := [.int (-1) tx]) (.cons _ _ .nil) (by simpa using hp)) (fun c hc => ?_) (fun q hq => ?_) (fun _ _ _ q => nomatch q) (fun _ q => nomatch q) (fun _ _ _ _ _ => trivial) (by ktr_room) (by ktr_units) fun v h10 tk10 F10 K10 _ => ?_
    · rw [List.mem_singleton.mp hc]
      decide
    · rw [List.mem_singleton.mp hq]
      exact (N10 _ (.head _)).1
    · rw [e321]
      k_steps
      rw [show ((#[3, 2, 1] : Array UInt8).toList == (#[3, 2, 1] : Array UInt8).toList) = true by decide]
      exact ret _ _ _ F10
end

section
open PySem.Calls PyProof.Rows
section
variable {prog : Program} {w : World} {A : Around} {s : Shared} {K : Frag} {R : Result → Shared → Prop} {name qual : Str} {params : Arguments} {body : List Stmt} {scope : Scope} {dV kV doc pm cdv ct oc : Value} {an od : Option Addr} {osl : Array (Option Value)} {f : Addr} {args : Args} {binds : List (Str × Value)}
/-- the top's call of a function with cells -/
theorem code_topX (X : K.In s.heap) (hlim : s.heap.NoLimit) (ho : K.lookup f = some ⟨oc, od, .func (fnX name qual params body scope [] dV kV doc pm an cdv ct), osl⟩) (hcd : codeIn K cdv qual = true) (hroom : A.depth < recursionLimit)
    (hbind : BindsTo s (fnX name qual params body scope [] dV kV doc pm an cdv ct) args binds)
    (hkind : ∀ n, ∀ x ∈ binds, scope.names.lookup x.1 = some .local ∨ (scope.names.lookup x.1 = some .cell ∧ ((cellsFrom n scope.names []).lookup x.1).isSome = true))
    (hnd : ((cellsFrom 0 scope.names []).map (·.1)).Nodup)
    (h : ∀ L' h₁ tk cells, Fr s.heap L' h₁ (bindL (envOfC qual scope L' f cdv).kindOf binds fun _ => none) → News s.heap L' h₁ cells →
      CellsAre (bindC (envOfC qual scope L' f cdv).kindOf binds fun _ => none) (cellsFrom (L' + 1) scope.names []) cells →
      wpX (model prog w) (A.deeper (envOfC qual scope L' f cdv)) (execs body (envOfC qual scope L' f cdv)) (fun fl s' => R (.ok (.ret (match fl with | .ret v => v | _ => .none))) s')
        (fun e s' => wpAny (model prog w) (A.deeper (envOfC qual scope L' f cdv)) (leaving (envOfC qual scope L' f cdv) e) (fun _ s'' => R (.error e) s'') (fun e' s'' => R (.error e') s'') s')
        { s with heap := h₁, toks := tk })
    (hco : scope.isCoroutine = false) (hgen : scope.isGenerator = false) (hk : scope.kind = .function) : codeX (model prog w) A (.call (.ref f) args) R s := by
  refine codeX_of_tree rfl ?_
  show wpX _ A.in1 (callAny (.ref f) args) _ _ s
  simp only [callAny]
  refine wpX_bindA (wpAny_load (X _ _ ho) ?_)
  obtain ⟨c, occ, vs, tq, hc, hoc, hdc, hq⟩ := codeRec_of X hcd
  simp only [callFunction, hco, hgen, hc]
  refine wpX_bindA (m := field (.ref c) 1) (wpAny_field hoc hdc hq (wpX_bind (wpX_pure ?_)))
  refine wpX_bindA (hbind _ _ _ _ (wpX_bindA ?_))
  rw [← hc]
  refine wpAny_newFunctionEnv_cells hk (hkind _) fun env' he s' x => ?_
  subst he
  refine wpX_bindA (wpAny_enterFrame (hlim.keeps x.toInCall.keep) hroom (wpX_pure ⟨rfl, codeX_func ?_⟩))
  obtain ⟨h₁, tk, rfl, _⟩ := x.done
  have hk₁ := x.toInCall.keep
  obtain ⟨cells, NC, Y⟩ := Cl.news (h₀ := s.heap) (Nat.le_refl _) fun n c hm => ⟨x.cell n c (lookup_of_mem_nodup (cellsFrom_names scope.names 0 (s.heap.objs.size + 1) [] [] rfl ▸ hnd) hm), x.above n c hm⟩
  exact h s.heap.objs.size h₁ tk cells ⟨x.toInCall.ns, hk₁, Nat.le_refl _⟩ NC Y
end
end

section
open PySem.Calls PyProof.Rows
theorem law_tells {w : World} {p : Program} {loose : List Str} {mean : ExcName → Option Value} {mg mb : Str → Option Value} {s : Shared} {l : Addr} {vs : List Value} {ns : List Int} {Q E : Value → Shared → Prop}
    (X : (Mine.hd.heap_1 w.params).In s.heap) (T : Top p loose mean mg mb s.heap) (hl : s.heap.IsList l vs.toArray) (hi : IntsAre vs ns) (hlen : ns.length ≤ 63)
    (ret : ∀ L m' h' tk', Fr s.heap L h' m' → Q (.bool true) { s with heap := h', toks := tk' }) :
    wpX (model PG w) callerA (call (.ref 619) [.ref l]) Q E s := by
  refine wpX_call ?_
  k_dflt (refine' code_topX (K := Mine.hd.heap_1 w.params) X T.nolimit ?k6 ?k7 ?k8 ?k9 ?kB ?kD ?_ ?c2 ?c3 ?c4; (case k6 => k_is); (case k7 => k_is); (case k8 => decide); (case k9 => exact BindsTo.of_eq rfl); (case kB => intro n x hx; rw [List.mem_singleton.mp hx]; exact .inl rfl); (case kD => decide); (case c2 => exact rfl); (case c3 => exact rfl); (case c4 => exact rfl); k_whole)
  intro L' h₁ tk cells F N Y
  have F0 : Fr s.heap L' h₁ (fun y => if y = "script" then some (.ref l) else none) := F
  have Y0 : CellsAre _ [(Str.ofString "box", L' + 1)] cells := Y
  cases Y0 with
  | cons hd rest =>
    cases rest
    clear F Y
    have B0 := below_caller s.heap
    refine wpX_execs_cut 1 (law_few (lb := lawBody) (sc := lawScope) (ns := ns) B0 F0 X T rfl rfl N hd hl hi hlen (by decide) (by decide) fun fw ws ms e2 h2 tk2 hf F2 N2 hne => ?_)
    dsimp only
    refine law_rest (lb := lawBody) (sc := lawScope) B0 F2 X T rfl rfl N2 hd hne hf (by decide) (by decide) fun m' h3 tk3 F3 => ?_
    exact ret _ _ h3 tk3 F3
end

section
noncomputable abbrev lawHook : Hook := kHook Mine.hd.heap_1 [2, 3, 15, 17, 18, 20, 21, 22, 24, 25, 27, 28, 29, 31, 32, 34, 35, 36, 43, 44, 45, 46, 56, 58, 59, 61, 62, 63, 64, 65, 66, 67, 68, 71, 78, 79, 80, 83, 90, 91, 92, 95, 102, 103, 105, 106, 108, 109, 110, 112, 113, 115, 116, 117, 119, 120, 122, 123, 124, 126, 127, 129, 130, 131, 132, 134, 135, 137, 138, 139, 141, 142, 144, 145, 146, 148, 149, 151, 152, 153, 155, 156, 158, 159, 160, 162, 163, 165, 166, 167, 169, 170, 172, 173, 174, 176, 177, 179, 180, 181, 183, 184, 186, 187, 188, 190, 191, 193, 194, 195, 197, 198, 200, 201, 202, 204, 205, 207, 208, 209, 211, 212, 214, 215, 216, 218, 219, 221, 222, 223, 224, 226, 227, 229, 230, 231, 232, 234, 235, 237, 238, 239, 240, 242, 243, 245, 246, 247, 248, 250, 251, 253, 254, 255, 257, 258, 260, 261, 262, 264, 265, 267, 268, 269, 270, 272, 273, 275, 276, 277, 278, 280, 281, 283, 284, 285, 287, 288, 290, 291, 292, 294, 295, 297, 298, 299, 301, 302, 304, 305, 306, 308, 309, 311, 312, 313, 315, 316, 318, 319, 320, 321, 322, 325, 332, 333, 335, 336, 338, 339, 340, 342, 343, 345, 346, 347, 349, 350, 352, 353, 354, 356, 357, 359, 360, 361, 363, 364, 366, 367, 368, 370, 371, 373, 374, 375, 376, 378, 379, 381, 382, 383, 384, 386, 387, 389, 390, 391, 392, 394, 395, 397, 398, 399, 400, 402, 403, 405, 406, 407, 408, 410, 411, 413, 414, 415, 417, 418, 420, 421, 422, 424, 425, 427, 428, 429, 431, 432, 434, 435, 436, 438, 439, 441, 442, 443, 445, 446, 448, 449, 450, 452, 453, 455, 456, 457, 459, 460, 462, 463, 464, 466, 467, 469, 470, 471, 473, 474, 476, 477, 478, 480, 481, 483, 484, 485, 487, 488, 490, 491, 492, 493, 495, 496, 498, 499, 500, 501, 503, 504, 506, 507, 508, 509, 511, 512, 514, 515, 516, 517, 519, 520, 522, 523, 524, 525, 527, 528, 530, 531, 532, 534, 535, 537, 538, 539, 541, 542, 544, 545, 546, 548, 549, 551, 552, 553, 555, 556, 558, 559, 560, 562, 563, 565, 566, 567, 568, 569, 572, 573, 575, 576, 578, 579, 580, 582, 583, 585, 586, 587, 589, 590, 592, 593, 594, 596, 597, 599, 600, 601, 603, 604, 606, 607, 608, 610, 611, 613, 614, 615, 618, 619] (fun _ => by kernel_rfl)
theorem law_holds : PySem.Challenge.rw_eh5006_01.Holds := by
  refine holds_law okRow fun said => ?_
  refine holds_clean (r := PySem.Challenge.rw_eh5006_01.row) (H := lawHook) hd.1 (fun s e => xl_of s (Bool.and_eq_true_iff.mp e).1) XL.keeps (by rfl) (by rfl) (by rfl) (fun s e => recFacts_of (Bool.and_eq_true_iff.mp e).2) (by rfl) said ?ok ?hb ?hw ?walk
  case ok => k_qdec
  case hb => exact ⟨rfl, rfl, rfl, rfl, rfl, by decide +kernel⟩
  case hw => w_witness2
  case walk =>
    intro w s₀ s₁ mg mb G Y fa o pm cd doc dV kV ho hd hcd hD hmg hg args vals as hpre hlay hrd hwl hlo
    have KX := kIn_of Y
    have T : Top _ _ _ mg mb s₁.heap := G.T
    have e619 : mg (Str.ofString "law") = some (.ref 619) := mg_of KX T.g (by k_is)
    have hfa : fa = 619 := by
      have h2 : mg (Str.ofString "law") = some (.ref fa) := hmg
      rw [e619] at h2
      cases h2
      rfl
    subst hfa
    wrow_args hpre hlay hrd hwl hlo
    rename ¬ _ < _ => hc
    rename IntsAre _ _ => hI
    rename Heap.IsList _ _ _ => hL
    exact law_tells KX T hL hI (by omega) fun L m' h' tk' F => GoodW.toG (goodW_bool F hg (fun _ => rfl) (by kernel_rfl))
end

end Mine
theorem PySem.Challenge.cw_eh5006_01_holds : PySem.Challenge.rw_eh5006_01.Holds := by
  exact Mine.law_holds
