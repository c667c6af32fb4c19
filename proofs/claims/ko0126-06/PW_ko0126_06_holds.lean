import PyProof.Rows.All
import Wide.All
import OpenK.AllK
import Wide.FinOn
import Lean
import PySem.Challenge.RW_ko0126_06
set_option Elab.async false
set_option maxRecDepth 100000
set_option compiler.extract_closed false
set_option hygiene false
section
open PySem PySem.W PyProof.Rows
set_option Elab.async false
set_option maxRecDepth 100000
set_option maxHeartbeats 8000000
theorem he06.three {A B W C : Prop} (f : A → W → B → C) (hw : W) (h : A ∧ B) : C := f h.1 hw h.2
/-- what the head asks of the top's run -/
abbrev he06.fstOf {A B C : Prop} (_ : A ∧ B → C) : Prop := A
/-- the top's statements that the head keeps -/
def he06.view : Program :=
  { PySem.Challenge.rw_ko0126_06.row.prog with main := { PySem.Challenge.rw_ko0126_06.row.prog.main with body := [0, 1, 20].filterMap fun i => PySem.Challenge.rw_ko0126_06.row.prog.main.body[i]? } }
local macro_rules | `(tactic| o_head $H) => do
  let hw := Lean.mkIdent `hw
  let hc := Lean.mkIdent `hc
  `(tactic| (rename _ = true => hsaid; refine he06.three (fun hA hW hB => holds_open (q := he06.view) (loose := [PySem.Str.ofString "_wall", PySem.Str.ofString "UID", PySem.Str.ofString "PLISTHEADER", PySem.Str.ofString "_controlCharPat", PySem.Str.ofString "_buffer", PySem.Str.ofString "_truth", PySem.Str.ofString "_B64", PySem.Str.ofString "b2a_base64", PySem.Str.ofString "_encode_base64", PySem.Str.ofString "_date_to_string", PySem.Str.ofString "_escape", PySem.Str.ofString "_DumbXMLWriter", PySem.Str.ofString "_PlistWriter", PySem.Str.ofString "_law_undone"]) (Xt := fun s => xlAt he06.view [] s && recOk (RowW.records (OpenRow.toRowW PySem.Challenge.rw_ko0126_06.row)) s) (XP := XL he06.view []) (Yf := Hook.obs $H) (Ya := Hook.val $H) (YP := Hook.says $H) (N := 3286) hA (Hook.of $H) (Hook.keeps $H) (fun s e => xl_of s (Bool.and_eq_true_iff.mp e).1) XL.keeps (by rfl) (by rfl) (by rfl) (fun s e => recFacts_of (Bool.and_eq_true_iff.mp e).2) (by rfl) hsaid (by decide +kernel) ⟨rfl, rfl, rfl, rfl, rfl, by decide +kernel⟩ hW hB) ?$hw ?$hc))
/-- its first half -/
abbrev he06.left1 {α β γ : Type} {o : World → Option α} {f : α → β} {g : α → γ} {a : β} {b : World → γ} {B C : Prop} (_ : (∀ w, (o w).map (fun s => (f s, g s)) = some (a, b w)) ∧ B → C) : Prop := ∀ w, (o w).map f = some a
/-- its second half -/
abbrev he06.left2 {α β γ : Type} {o : World → Option α} {f : α → β} {g : α → γ} {a : β} {b : World → γ} {B C : Prop} (_ : (∀ w, (o w).map (fun s => (f s, g s)) = some (a, b w)) ∧ B → C) : Prop := ∀ w, (o w).map g = some (b w)
theorem he06.pair {α β γ : Type} {o : Option α} {f : α → β} {g : α → γ} {a : β} {b : γ} (h1 : o.map f = some a) (h2 : o.map g = some b) : o.map (fun s => (f s, g s)) = some (a, b) := by
  cases o with
  | none => cases h1
  | some x => cases h1; cases h2; rfl
open_top hd06 for PySem.Challenge.rw_ko0126_06
theorem left06a : he06.left1 hd06 := by
  intro w
  kernel_rfl
theorem left06b : he06.left2 hd06 := by
  intro w
  kernel_rfl
theorem left06 : he06.fstOf hd06 := fun w => he06.pair (left06a w) (left06b w)
end
section
open PySem PySem.W PyProof.Rows PySem.Calls PySem.Spec
set_option Elab.async false
set_option maxRecDepth 100000
namespace Mine
/-- the end of a def's walk -/
def PEnd (R : Result → Shared → Prop) (v : Value) (s' : Shared) : Prop := R (.ok (.ret v)) s'
abbrev arnd (dp un : Nat) (gd : Option (List Code)) (outer : List Env) : Around := { handled := none, depth := dp, frames := some outer, guards := gd, units := un }
theorem enter {prog : Program} {w : World} {A : Around} {base : Heap} {outer : List Env} {s : Shared} {K : Frag} {R : Result → Shared → Prop} {p : Program} {loose : List Str} {mean : ExcName → Option Value} {mg mb : Str → Option Value}
    {name qual : Str} {params : Arguments} {body : List Stmt} {scope : Scope} {dV kV doc pm cdv ct oc : Value} {an od : Option Addr} {osl : Array (Option Value)} {f : Addr} {args : Args} {binds : List (Str × Value)}
    (_B : Below A base outer s.heap) (X : K.In s.heap) (T : Top p loose mean mg mb s.heap)
    (ho : K.lookup f = some ⟨oc, od, .func (fnOf name qual params body scope dV kV doc pm an cdv ct), osl⟩) (hcd : codeIn K cdv qual = true) (hroom : A.depth < recursionLimit)
    (hbind : BindsTo s (fnOf name qual params body scope dV kV doc pm an cdv ct) args binds) (hloc : ∀ y ∈ binds, scope.names.lookup y.1 = some .local)
    (h : ∀ L h₁, Fr s.heap L h₁ (fun y => binds.reverse.lookup y) → News s.heap L h₁ [] →
      wpAny (model prog w) (A.deeper (envOf qual scope L f cdv)) (execs body (envOf qual scope L f cdv))
        (fun fl s' => PEnd R (match fl with | .ret v => v | _ => .none) s')
        (fun e s' => wpAny (model prog w) (A.deeper (envOf qual scope L f cdv)) (leaving (envOf qual scope L f cdv) e) (fun _ s'' => R (.error e) s'') (fun e' s'' => R (.error e') s'') s')
        { s with heap := h₁, toks := s.toks + binds.length })
    (hco : scope.isCoroutine = false := by rfl) (hgen : scope.isGenerator = false := by rfl) (hk : scope.kind = .function := by rfl)
    (hcell : ∀ x ∈ scope.names, x.2 ≠ .cell := by decide) : codeAny (model prog w) A (.call (.ref f) args) R s :=
  codeAny_call_def (fd := fnOf name qual params body scope dV kV doc pm an cdv ct) (body := body) (binds := binds) hroom (X _ _ ho) rfl T.nolimit (codeRec_of X hcd) rfl hbind hcell hloc
    (fun h₁ hns hk₁ => h s.heap.objs.size h₁ ⟨hns, hk₁, Nat.le_refl _⟩ News.nil) hco hgen hk
end Mine
end
section
open PySem PySem.W PyProof.Rows PySem.Calls PySem.Spec
set_option Elab.async false
set_option maxRecDepth 100000
namespace Mine
section
variable {prog : Program} {w : World} {A : Around} {E : Value → Shared → Prop} {s : Shared} {h₀ : Heap} {env : Env} {target : Expr} {body : List Stmt} {Q : Flow → Shared → Prop}
theorem UnrPostW.mono {L : Addr} {s₁ : Shared} {its : List (Addr × Obj)} {r₁ r₂ : (Str → Option Value) → List (Addr × Obj) → Prop} (h : ∀ m n, r₁ m n → r₂ m n) {f : Flow} {s₂ : Shared} (x : UnrPostW h₀ L s₁ its r₁ Q f s₂) : UnrPostW h₀ L s₁ its r₂ Q f s₂ := by
  cases f with
  | ret v => exact x
  | brk => exact x
  | next => obtain ⟨h', tk, m', news', e, F, N, o, r⟩ := x; exact ⟨h', tk, m', news', e, F, N, o, h _ _ r⟩
  | cont => obtain ⟨h', tk, m', news', e, F, N, o, r⟩ := x; exact ⟨h', tk, m', news', e, F, N, o, h _ _ r⟩
theorem AllObj.mono : ∀ {ws : List (Addr × String)} {k₁ k₂ : List (Addr × Obj) → Prop}, (∀ its, k₁ its → k₂ its) → AllObj ws k₁ → AllObj ws k₂
  | [], _, _, h, x => h _ x
  | _ :: _, _, _, h, x => fun o ho => AllObj.mono (fun its => h _) (x o ho)
theorem itemsInv {ws : List (Addr × String)} {keep : List (Addr × Obj)} (Inv : List Value → (Str → Option Value) → List (Addr × Obj) → Prop)
    (hnil : ∀ m news, Inv [] m news → ∀ h tk, Fr h₀ env.locals h m → News h₀ env.locals h news → Q .next { s with heap := h, toks := tk })
    (hstep : ∀ v r m news, Inv (v :: r) m news → ∀ h tk, Fr h₀ env.locals h m → AllObj ws (fun its => News h₀ env.locals h (its ++ news) →
      wpAny (model prog w) A (assign target env v) (fun _ s₂ => wpAny (model prog w) A (execs body env) (UnrPostW h₀ env.locals { s with heap := h, toks := tk } its (fun m' n' => SubL keep n' ∧ Inv r m' n') Q) E s₂) E { s with heap := h, toks := tk })) :
    ∀ (vs : List Value) (m : Str → Option Value) (news : List (Addr × Obj)), Inv vs m news → ItemsRest prog w A E h₀ env target body Q s ws keep (vs.map .val) m news
  | [], m, news, h0 => ItemsRest.zero (hnil m news h0)
  | v :: r, m, news, h0 => ItemsRest.val fun h tk F => AllObj.mono (fun its x N => wpAny_mono (x N) (fun _ _ y => wpAny_mono y (fun _ _ z => UnrPostW.mono (fun m' n' ⟨a, b⟩ => ⟨a, itemsInv Inv hnil hstep r m' n' b⟩) z) fun _ _ e => e) fun _ _ e => e) (hstep v r m news h0 h tk F)
end
end Mine
namespace Mine
section
variable {prog : Program} {w : World} {A : Around} {E : Value → Shared → Prop} {s : Shared} {h₀ : Heap} {env : Env} {target : Expr} {body : List Stmt} {Q : Flow → Shared → Prop}
theorem itemsLess {ws : List (Addr × String)} {keep : List (Addr × Obj)} {xs : List Itm} {m : Str → Option Value} {news less : List (Addr × Obj)} (sub : SubL less news)
    (h : ItemsRest prog w A E h₀ env target body Q s ws keep xs m less) : ItemsRest prog w A E h₀ env target body Q s ws keep xs m news := by
  cases xs with
  | nil => exact fun h' tk F N => h h' tk F (fun p hp => N p (sub.mem p hp))
  | cons a r =>
    intro v h' tk e F
    refine AllObj.mono (fun its x N => x fun p hp => N p ?_) (h v h' tk e F)
    rcases List.mem_append.mp hp with hp | hp
    · exact List.mem_append_left _ hp
    · exact List.mem_append_right _ (sub.mem p hp)

/-- what the loop's frame names -/
structure MF (m : Str → Option Value) (l d : Addr) (av : Value) : Prop where
  lst : m "lst" = some (.ref l)
  gd : m "gd" = some (.ref d)
  aw : m "aware_datetime" = some av
/-- the loop of _date_from_string: behind i turns -/
def LI (parts : List Int) (tvs : List Value) (l d o : Addr) (od oo : Obj) (av : Value) (r : List Value) (m : Str → Option Value) (news : List (Addr × Obj)) : Prop :=
  ∃ (i : Nat) (its : Array Value) (n : Nat), r = tvs.drop i ∧ i ≤ parts.length ∧ i ≤ tvs.length ∧ IntsAre its.toList (parts.take i) ∧ MF m l d av ∧ news = [(l, listOf its n), (d, od), (o, oo)]
/-- what stands when the loop is left -/
def LDone (h₀ : Heap) (L : Addr) (parts : List Int) (l d o : Addr) (od oo : Obj) (av : Value) (h : Heap) : Prop :=
  ∃ (its : Array Value) (n : Nat) (m : Str → Option Value), IntsAre its.toList parts ∧ MF m l d av ∧ Fr h₀ L h m ∧ News h₀ L h [(l, listOf its n), (d, od), (o, oo)]
end
section
variable {M : Model} {A : Around} {E : Value → Shared → Prop} {s : Shared}
theorem callWith_Sty {T : String} {env : Env} {pos p : Pos} {first : List Value} {e : Expr} {Q : Value → Shared → Prop} (h : wpAny M A (eval e env) (fun v s₁ => StarOf M A E v (fun vs s₂ => wpAny M A (call (.type T) (first ++ vs)) Q E s₂) s₁) E s)
    (he : starEach [.Starred e p] env = [(true, eval e env)] := by rfl) :
    wpAny M A (callWith pos (.type T) first (backTo pos (starEach [.Starred e p] env)) []) Q E s := by
  rw [he]
  exact ks_call (P := fun _ => True) rfl (fun _ _ => ⟨.machine, .inr (.inl rfl), Looks.of_pure rfl⟩) (ks_lone (wpAny_mono h (fun v s₁ x => wpAny_mono (show wpAny M A (notIterableAtAll v) _ E s₁ from x) (fun b s₂ ⟨a, c⟩ => ⟨a, wpAny_mono c (fun _ _ d => ⟨trivial, d⟩) fun _ _ e => e⟩) fun _ _ e => e) fun _ _ e => e))
end
end Mine
end
section
open PySem PySem.W PyProof.Rows PySem.Calls PySem.Spec
set_option Elab.async false
set_option maxRecDepth 100000
namespace Mine
/-- the table of signs -/
def tabB : List Int := [65, 66, 67, 68, 69, 70, 71, 72, 73, 74, 75, 76, 77, 78, 79, 80, 81, 82, 83, 84, 85, 86, 87, 88, 89, 90, 97, 98, 99, 100, 101, 102, 103, 104, 105, 106, 107, 108, 109, 110, 111, 112, 113, 114, 115, 116, 117, 118, 119, 120, 121, 122, 48, 49, 50, 51, 52, 53, 54, 55, 56, 57, 43, 47]
def sg (i : Int) : Int := tabB.getD i.toNat 0
/-- one octet: the signs so far, the bits left, the low sixteen -/
def bstep (st : List Int × Int × Int) (b : Int) : List Int × Int × Int :=
  let lc := (st.2.2 * 256 + b) % 65536
  if st.2.1 = 0 then (st.1 ++ [sg (lc / 4 % 64)], 2, lc)
  else if st.2.1 = 2 then (st.1 ++ [sg (lc / 16 % 64)], 4, lc)
  else (st.1 ++ [sg (lc / 64 % 64)] ++ [sg (lc / 1 % 64)], 0, lc)
def brun (ks : List Int) : List Int × Int × Int := ks.foldl bstep ([], 0, 0)
def btail (st : List Int × Int × Int) : List Int :=
  if st.2.1 = 2 then st.1 ++ [sg (st.2.2 % 4 * 16)] ++ [61] ++ [61] else if st.2.1 = 4 then st.1 ++ [sg (st.2.2 % 16 * 4)] ++ [61] else st.1
def b64 (ks : List Int) : List Int := btail (brun ks)
theorem brun_snoc (ks : List Int) (b : Int) : brun (ks ++ [b]) = bstep (brun ks) b := by
  unfold brun
  rw [List.foldl_append]
  rfl
theorem sg_in (i : Int) : 0 ≤ sg i ∧ sg i < 256 := by
  unfold sg
  have h : ∀ k ∈ tabB, 0 ≤ k ∧ k < 256 := by decide
  by_cases hi : i.toNat < tabB.length
  · rw [List.getD_eq_getElem?_getD, List.getElem?_eq_getElem hi]
    exact h _ (List.getElem_mem hi)
  · rw [List.getD_eq_getElem?_getD, List.getElem?_eq_none (by omega)]
    exact ⟨by decide, by decide⟩
theorem bstep0 (out : List Int) (lc b : Int) : bstep (out, 0, lc) b = (out ++ [sg ((lc * 256 + b) % 65536 / 4 % 64)], 2, (lc * 256 + b) % 65536) := rfl
theorem bstep2 (out : List Int) (lc b : Int) : bstep (out, 2, lc) b = (out ++ [sg ((lc * 256 + b) % 65536 / 16 % 64)], 4, (lc * 256 + b) % 65536) := rfl
theorem bstep4 (out : List Int) (lc b : Int) : bstep (out, 4, lc) b = (out ++ [sg ((lc * 256 + b) % 65536 / 64 % 64)] ++ [sg ((lc * 256 + b) % 65536 / 1 % 64)], 0, (lc * 256 + b) % 65536) := rfl
theorem in_snoc {l : List Int} {n : Int} (hl : ∀ k ∈ l, 0 ≤ k ∧ k < 256) (hn : 0 ≤ n ∧ n < 256) : ∀ k ∈ l ++ [n], 0 ≤ k ∧ k < 256 := fun k hk => by
  rcases List.mem_append.mp hk with hk | hk
  · exact hl k hk
  · rw [List.mem_singleton.mp hk]; exact hn
theorem ints_push {its : Array Value} {ns : List Int} {n : Int} {t : Tok} (h : IntsAre its.toList ns) : IntsAre (its.push (.int n t)).toList (ns ++ [n]) := by
  rw [Array.toList_push]
  exact h.append (.cons _ _ .nil)
structure BOk (st : List Int × Int × Int) (n : Nat) : Prop where
  lb : st.2.1 = 0 ∨ st.2.1 = 2 ∨ st.2.1 = 4
  lo : 0 ≤ st.2.2
  hi : st.2.2 < 65536
  len : st.1.length ≤ 2 * n
  inn : ∀ k ∈ st.1, 0 ≤ k ∧ k < 256
theorem bok_step {st : List Int × Int × Int} {n : Nat} {b : Int} (h : BOk st n) : BOk (bstep st b) (n + 1) := by
  obtain ⟨hl, h0, h1, hn, hin⟩ := h
  have g0 : 0 ≤ (st.2.2 * 256 + b) % 65536 := Int.emod_nonneg _ (by decide)
  have g1 : (st.2.2 * 256 + b) % 65536 < 65536 := Int.emod_lt_of_pos _ (by decide)
  have hs : ∀ {l : List Int} {i k : Int}, (∀ k ∈ l, 0 ≤ k ∧ k < 256) → k ∈ l ++ [sg i] → 0 ≤ k ∧ k < 256 := fun hl hk => by
    rcases List.mem_append.mp hk with hk | hk
    · exact hl _ hk
    · rw [List.mem_singleton.mp hk]; exact sg_in _
  unfold bstep
  dsimp only
  rcases hl with e | e | e
  · rw [if_pos e]
    exact ⟨.inr (.inl rfl), g0, g1, by simp only [List.length_append, List.length_cons, List.length_nil]; omega, fun k hk => hs hin hk⟩
  · rw [if_neg (by omega), if_pos e]
    exact ⟨.inr (.inr rfl), g0, g1, by simp only [List.length_append, List.length_cons, List.length_nil]; omega, fun k hk => hs hin hk⟩
  · rw [if_neg (by omega), if_neg (by omega)]
    exact ⟨.inl rfl, g0, g1, by simp only [List.length_append, List.length_cons, List.length_nil]; omega, fun k hk => hs (fun k hk => hs hin hk) hk⟩
theorem bok : ∀ (ks : List Int) (st : List Int × Int × Int) (n : Nat), BOk st n → BOk (ks.foldl bstep st) (n + ks.length)
  | [], _, _, h => h
  | b :: r, st, n, h => by
    have := bok r (bstep st b) (n + 1) (bok_step h)
    rw [List.foldl_cons, List.length_cons, show n + (r.length + 1) = n + 1 + r.length by omega]
    exact this
theorem brun_ok (ks : List Int) : BOk (brun ks) ks.length := by
  have := bok ks ([], 0, 0) 0 ⟨.inl rfl, by decide, by decide, by decide, fun _ h => nomatch h⟩
  rw [Nat.zero_add] at this
  exact this
section
variable {prog : Program} {w : World} {A : Around} {E : Value → Shared → Prop} {s : Shared} {a b : Int} {t u : Tok} {Q : Value → Shared → Prop}
theorem k_shl {d : Int} (hn : 0 ≤ b ∧ b ≤ 64) (ha : 0 ≤ a ∧ a < 65536) (e : (2 : Int) ^ b.toNat = d) (h : Q (.int (a * d) s.toks) { s with toks := s.toks + 1 }) : wpAny (model prog w) A (binaryOp .LShift (.int a t) (.int b u)) Q E s := by
  subst e
  exact lshift_int_small hn.1 (by omega) (by omega) h
theorem k_shr {d : Int} (hn : 0 ≤ b) (e : (2 : Int) ^ b.toNat = d) (hd : 0 ≤ d) (h : Q (.int (a / d) s.toks) { s with toks := s.toks + 1 }) : wpAny (model prog w) A (binaryOp .RShift (.int a t) (.int b u)) Q E s := by
  subst e
  refine rshift_int hn ?_
  rw [Int.fdiv_eq_ediv_of_nonneg _ hd]
  exact h
theorem or_256 (hb : 0 ≤ b ∧ b < 256) (ha : 0 ≤ a) : Builtin.bitOr (a * 256) b = a * 256 + b := by
  obtain ⟨n, rfl⟩ := Int.eq_ofNat_of_zero_le ha
  obtain ⟨k, rfl⟩ := Int.eq_ofNat_of_zero_le hb.1
  have hk : k < 2 ^ 8 := by omega
  have e1 := Nat.two_pow_add_eq_or_of_lt hk n
  unfold Builtin.bitOr Builtin.bitAnd Builtin.bitNot
  have h1 : decide (0 ≤ -((n : Int) * 256) - 1) = false := decide_eq_false (by omega)
  have h2 : decide (0 ≤ -(k : Int) - 1) = false := decide_eq_false (by omega)
  rw [h1, h2]
  dsimp only
  have f1 : (-(-((n : Int) * 256) - 1) - 1).toNat = 2 ^ 8 * n := by omega
  have f2 : (-(-(k : Int) - 1) - 1).toNat = k := by omega
  rw [f1, f2, ← e1]
  push_cast
  omega
theorem k_or8 (hb : 0 ≤ b ∧ b < 256) (ha : 0 ≤ a) (h : Q (.int (a * 256 + b) s.toks) { s with toks := s.toks + 1 }) : wpAny (model prog w) A (binaryOp .BitOr (.int (a * 256) t) (.int b u)) Q E s := by
  refine or_int ?_
  rw [or_256 hb ha]
  exact h
theorem k_and65535 (h : Q (.int (a % 65536) s.toks) { s with toks := s.toks + 1 }) : wpAny (model prog w) A (binaryOp .BitAnd (.int a t) (.int 65535 u)) Q E s := by
  refine and_int ?_
  rw [bitAnd_m16]
  exact h
theorem k_and63 (h : Q (.int (a % 64) s.toks) { s with toks := s.toks + 1 }) : wpAny (model prog w) A (binaryOp .BitAnd (.int a t) (.int 63 u)) Q E s := by
  refine and_int ?_
  rw [bitAnd_m6]
  exact h
theorem k_and3 (h : Q (.int (a % 4) s.toks) { s with toks := s.toks + 1 }) : wpAny (model prog w) A (binaryOp .BitAnd (.int a t) (.int 3 u)) Q E s := by
  refine and_int ?_
  rw [bitAnd_m2]
  exact h
theorem k_and15 (h : Q (.int (a % 16) s.toks) { s with toks := s.toks + 1 }) : wpAny (model prog w) A (binaryOp .BitAnd (.int a t) (.int 15 u)) Q E s := by
  refine and_int ?_
  rw [bitAnd_m4]
  exact h
end
section
variable {prog : Program} {w : World} {A : Around} {E : Value → Shared → Prop} {s : Shared}
theorem k_bytesL {l : Addr} {its : Array Value} {ns : List Int} {Q : Value → Shared → Prop} (hl : s.heap.IsList l its) (hi : IntsAre its.toList ns) (hr : ∀ n ∈ ns, 0 ≤ n ∧ n < 256) (hz : its.size ≤ 300000) (hh : A.handled = none)
    (hQ : ∀ h' t k b, (∀ b o, s.heap.get? b = some o → h'.get? b = some o) → KBw.bInts b = ns → Q (.bytes b t) { s with heap := h', toks := k }) : wpAny (model prog w) A (call (.type "bytes") [.ref l]) Q E s := by
  have e : its = its.toList.toArray := rfl
  rw [e] at hl
  exact call_bytes_ints hl hi hr (by rw [Array.length_toList, sizeLine_eq]; omega) hh fun h' t k hk => hQ h' t k _ hk (KBa.ints_make hr)
end
section
variable {prog : Program} {w : World} {A : Around} {E : Value → Shared → Prop} {s : Shared} {h₀ : Heap} {L : Addr} {m : Str → Option Value} {Q : Value → Shared → Prop} {value slice : Expr} {t : Tok}
theorem k_sg {b : Array UInt8} {i : Int} {ui : Tok} (hk : KBw.bInts b = tabB) (h0 : 0 ≤ i) (h1 : i < 64) (h : ∀ t' k, Q (.int (sg i) t') { s with toks := k })
    (hs : subscripted slice false (.bytes b t) (.int i ui) = operate [.bytes b t, .int i ui] (getItem (.bytes b t) (.int i ui)) := by with_unfolding_all rfl)
    (ht : ∀ r, letTemporaryGo value (.bytes b t) r = pure () := by intro _; with_unfolding_all rfl) : wpAny (model prog w) A (subscriptTail value slice (.bytes b t) (.int i ui)) Q E s :=
  KBw.item_K hk (by decide) h0 (by show i < (64 : Int); exact h1) (fun t' k _ _ => h t' k) hs ht
theorem k_appO {o : Addr} {its : Array Value} {n : Nat} {own : List (Addr × Obj)} {x : Value} (F : Fr h₀ L s.heap m) (N : News h₀ L s.heap ([(o, listOf its n)] ++ own)) (hoff : OwnOff own [o]) (hsz : its.size ≤ sizeLine)
    (h : ∀ h', Fr h₀ L h' m → News h₀ L h' ([(o, listOf (its.push x) (n + 1))] ++ own) → Q .none { s with heap := h' }) : wpAny (model prog w) A (call (.builtin "list.append") [.ref o, x]) Q E s := by
  have z := N (o, listOf its n) (.head _)
  exact append_at (hsz := hsz) z.1 fun h' hs ho' => h h' (F.change hs z.2.1 z.2.2) (news_set (pre := []) N (fun _ hp => nomatch hp) (fun p hp => hoff p hp o (.head _)) hs ho')
theorem k_app1 {o : Addr} {its : Array Value} {n : Nat} {x : Value} (F : Fr h₀ L s.heap m) (N : News h₀ L s.heap [(o, listOf its n)]) (hsz : its.size ≤ sizeLine)
    (h : ∀ h', Fr h₀ L h' m → News h₀ L h' [(o, listOf (its.push x) (n + 1))] → Q .none { s with heap := h' }) : wpAny (model prog w) A (call (.builtin "list.append") [.ref o, x]) Q E s := by
  have z := N (o, listOf its n) (.head _)
  exact append_at (hsz := hsz) z.1 fun h' hs ho' => h h' (F.change hs z.2.1 z.2.2) (news_set (pre := []) N (fun _ hp => nomatch hp) (fun _ hp => nomatch hp) hs ho')
end
end Mine
end
section
open PySem PySem.W PyProof.Rows PySem.Calls PySem.Spec
set_option Elab.async false
set_option maxRecDepth 100000
set_option maxHeartbeats 8000000
namespace Mine
/-- the walk halts at it -/
def Hold (p : Prop) : Prop := p
theorem hold {p : Prop} (h : Hold p) : p := h
structure BF (m : Str → Option Value) (o : Addr) (lb lc : Int) : Prop where
  out : m "out" = some (.ref o)
  nl : m "newline" = some (.bool true)
  lbs : ∃ t, m "leftbits" = some (.int lb t)
  lcs : ∃ t, m "leftchar" = some (.int lc t)
structure BE (o : Addr) (st : List Int × Int × Int) (m : Str → Option Value) (news : List (Addr × Obj)) : Prop where
  f : BF m o st.2.1 st.2.2
  led : ∃ its n, IntsAre its.toList st.1 ∧ news = [(o, listOf its n)]
section
variable {prog : Program} {w : World} {A : Around} {E : Value → Shared → Prop} {s : Shared} {env : Env} {h₀ : Heap} {x : PySem.Str} {body : List Stmt} {Q : Flow → Shared → Prop} {b : Array UInt8} {tb : Tok} {ks : List Int} {m₀ : PySem.Str → Option Value} {o : Addr} {n0 : Nat}
theorem b2Go (hk : KBw.bInts b = ks) (hl : ks.length ≤ 100000) (hh : A.handled = none) (F : Fr h₀ env.locals s.heap m₀) (N : News h₀ env.locals s.heap [(o, listOf #[] n0)]) (hf : BF m₀ o 0 0)
    (turn : ∀ (st : List Int × Int × Int) n k t m its nn h tk own, BOk st n → 0 ≤ k → k < 256 → BF m o st.2.1 st.2.2 → IntsAre its.toList st.1 → its.size ≤ 200000 → OwnOff own [o] → Fr h₀ env.locals h (fun y => if y = x then some (.int k t) else m y) → News h₀ env.locals h ([(o, listOf its nn)] ++ own) →
      wpAny (model prog w) A (execs body env) (InvPostN h₀ env.locals (BE o (bstep st k)) own [o] { s with heap := h, toks := tk } Q) E { s with heap := h, toks := tk })
    (done : ∀ m its nn h tk, BF m o (brun ks).2.1 (brun ks).2.2 → IntsAre its.toList (brun ks).1 → its.size ≤ 200000 → Fr h₀ env.locals h m → News h₀ env.locals h [(o, listOf its nn)] → Q .next { s with heap := h, toks := tk }) :
    wpAny (model prog w) A (pyIter (.bytes b tb)) (fun it s₂ => LoopAtV prog w A h₀ env x body Q E it s₂) E s := by
  have hsz : ∀ {its : Array Value} {i : Nat}, i ≤ ks.length → IntsAre its.toList (brun (ks.take i)).1 → its.size ≤ 200000 := fun {its i} hi h => by
    have e := IntsAre.length h
    have g := (brun_ok (ks.take i)).len
    rw [Array.length_toList] at e
    rw [List.length_take] at g
    omega
  refine KBmo.iter_bytesN (fun i => BE o (brun (ks.take i))) hk hh F N ⟨hf, #[], n0, .nil, rfl⟩ (fun i k t m₁ news₁ h tk own hi h0 h1 hoff hJ F₁ N₁ => ?_) (fun m₁ news₁ h tk hJ F₁ N₁ => ?_)
  · obtain ⟨f, its, nn, hin, rfl⟩ := hJ
    have hlt := (List.getElem?_eq_some_iff.mp hi).1
    have z := turn (brun (ks.take i)) _ k t m₁ its nn h tk own (brun_ok _) h0 h1 f hin (hsz (by omega) hin) hoff F₁ N₁
    have e : ks.take (i + 1) = ks.take i ++ [k] := by rw [List.take_add_one, hi]; rfl
    have e2 : brun (ks.take (i + 1)) = bstep (brun (ks.take i)) k := by rw [e, brun_snoc]
    show wpAny _ _ _ (InvPostN h₀ env.locals (BE o (brun (ks.take (i + 1)))) own [o] _ Q) _ _
    rw [e2]
    exact z
  · obtain ⟨f, its, nn, hin, rfl⟩ := hJ
    have hs := hsz (Nat.le_refl _) hin
    rw [List.take_length] at f hin
    exact done m₁ its nn h tk f hin hs F₁ N₁
end
local macro_rules | `(tactic| walk_at "eval Name") => `(tactic| (k_here; (with_reducible show wpAny _ _ (eval (Expr.Name _ _) _) _ _ _); (rename Fr _ _ _ _ => zF); (rename BF _ _ _ _ => zM); k_dflt (first | refine ld zF (by with_unfolding_all exact zM.out) ?_ | refine ld zF (by with_unfolding_all exact zM.nl) ?_ | refine ld zF (by with_unfolding_all exact Exists.choose_spec zM.lbs) ?_ | refine ld zF (by with_unfolding_all exact Exists.choose_spec zM.lcs) ?_)))
local macro_rules | `(tactic| walk_at "binaryOp LShift int int") => `(tactic| (k_here; (rename BF _ _ _ _ => zM); k_dflt (first | refine k_shl (d := 256) (by decide) (by omega) (by rfl) ?_ | refine k_shl (d := 16) (by decide) (by omega) (by rfl) ?_ | refine k_shl (d := 4) (by decide) (by omega) (by rfl) ?_)))
local macro_rules | `(tactic| walk_at "binaryOp RShift int int") => `(tactic| (k_here; (rename BF _ _ _ _ => zM); k_dflt (first | refine k_shr (d := 4) (by decide) (by rfl) (by decide) ?_ | refine k_shr (d := 16) (by decide) (by rfl) (by decide) ?_ | refine k_shr (d := 64) (by decide) (by rfl) (by decide) ?_ | refine k_shr (d := 1) (by decide) (by rfl) (by decide) ?_)))
local macro_rules | `(tactic| walk_at "binaryOp BitOr int int") => `(tactic| (k_here; (rename BF _ _ _ _ => zM); k_dflt (refine k_or8 (by omega) (by omega) ?_)))
local macro_rules | `(tactic| walk_at "binaryOp BitAnd int int") => `(tactic| (k_here; (with_reducible show wpAny _ _ (binaryOp Operator.BitAnd (Value.int _ _) (Value.int 65535 _)) _ _ _); k_dflt (refine k_and65535 ?_)))
local macro_rules | `(tactic| walk_at "binaryOp BitAnd int int") => `(tactic| (k_here; (with_reducible show wpAny _ _ (binaryOp Operator.BitAnd (Value.int _ _) (Value.int 63 _)) _ _ _); k_dflt (refine k_and63 ?_)))
local macro_rules | `(tactic| walk_at "binaryOp BitAnd int int") => `(tactic| (k_here; (with_reducible show wpAny _ _ (binaryOp Operator.BitAnd (Value.int _ _) (Value.int 3 _)) _ _ _); k_dflt (refine k_and3 ?_)))
local macro_rules | `(tactic| walk_at "binaryOp BitAnd int int") => `(tactic| (k_here; (with_reducible show wpAny _ _ (binaryOp Operator.BitAnd (Value.int _ _) (Value.int 15 _)) _ _ _); k_dflt (refine k_and15 ?_)))
local macro_rules | `(tactic| walk_at "subscriptTail") => `(tactic| (k_here; (with_reducible show wpAny _ _ (subscriptTail _ _ (Value.bytes _ _) (Value.int _ _)) _ _ _); (rename BF _ _ _ _ => zM); k_dflt (refine k_sg (by decide +kernel) (by omega) (by omega) ?_); intro t' k'))
local macro_rules | `(tactic| walk_at "call builtin:list.append") => `(tactic| (k_here; (rename BF _ _ _ _ => zM); k_dflt (first | refine k_appO (by assumption) (by assumption) (by assumption) (by (try simp only [Array.size_push]); rw [sizeLine_eq]; omega) ?_ | refine k_app1 (by assumption) (by assumption) (by (try simp only [Array.size_push]); rw [sizeLine_eq]; omega) ?_); intro h' F' N'))
local macro_rules | `(tactic| walk_at "call type:type") => `(tactic| (k_here; k_dflt (first | refine call_type_of (PySem.W.typeIs_bytes _ _ _) (by decide) ?_ | refine call_type_of (typeIs_bool _ _) (by decide) ?_)))
local macro_rules | `(tactic| walk_at "compareOp Is type type") => `(tactic| (k_here; k_dflt (first | refine wpAny_is_self (by rfl) ?_ | refine wpAny_is_other (by rfl) (by decide) ?_)))
local macro_rules | `(tactic| walk_at "pyIter bytes") => `(tactic| refine hold ?_)
local macro_rules | `(tactic| walk_at "call ref") => `(tactic| (k_here; refine wpAny_call ?_; k_dflt (refine' code_def ?k1 ?k2 ?k3 ?k4 ?k5 ?kA ?kF ?kK ?k6 ?k7 ?k8 ?k9 ?kB ?_ ?c2 ?c3 ?c4 ?c5; (case kA => exact rfl); (case kF => exact rfl); (case kK => exact rfl); (case k2 => assumption); (case k4 => assumption); (case k1 => assumption); (case k3 => assumption); (case k5 => assumption); (case k6 => k_is); (case k7 => k_is); (case k8 => ktr_room); (case k9 => exact BindsTo.of_eq rfl); (case c5 => decide); (case kB => exact locs rfl); (case c2 => exact rfl); (case c3 => exact rfl); (case c4 => exact rfl); k_whole; intro g' L' h' FG' F' N' B' X' T'; (try dsimp only); (try k_lift B'); (try k_fold))))
theorem b2a {w : World} (b : Array UInt8) (tb : Tok) (ks : List Int) (mg mb : Str → Option Value) (mean : ExcName → Option Value) (loose : List Str)
   (dp un : Nat) (gd : Option (List Code)) (outer : List Env) (base g₀ : Heap) (s : Shared) (R : Result → Shared → Prop) (hg₀ : s.heap = g₀)
    (B : Below (arnd dp un gd outer) base outer g₀) (X : (hd06.heap_39 w.params).In g₀) {p : Program} (T : Top p loose mean mg mb g₀)
    (hk : KBw.bInts b = ks) (hl : ks.length ≤ 100000)
    (hret : ∀ h' tk t c, (∀ b o, g₀.get? b = some o → h'.get? b = some o) → KBw.bInts c = b64 ks ++ [10] → R (.ok (.ret (.bytes c t))) { s with heap := h', toks := tk })
    (hdp : dp + 20 < recursionLimit) (hu : un + 100 < cLine) :
      codeAny (model PySem.Challenge.rw_ko0126_06.row.prog w) (arnd dp un gd outer) (.call (.ref 144) ⟨[.bytes b tb], []⟩) R s := by
  w_top off
  subst hg₀
  revert X; k_fill; intro X
  refine' enter B X T ?k6 ?k7 ?k8 ?k9 ?kB ?_ ?c2 ?c3 ?c4 ?c5
  case k6 => k_is
  case k7 => k_is
  case k8 => ktr_room
  case k9 => (refine' kp_binds ?kx ?ke; (case kx => exact X); (case ke => exact fun _ => rfl))
  case c5 => decide
  case kB => exact locs rfl
  case c2 => exact rfl
  case c3 => exact rfl
  case c4 => exact rfl
  k_whole
  intro L' h' F' N'
  obtain ⟨g₀, gens₀, drawn₀, toks₀, os₀⟩ := s
  dsimp only at *
  (try k_fold)
  k_steps
  rename Fr _ _ _ _ => zF
  rename News _ _ _ _ => zN
  delta Hold
  refine' b2Go hk hl rfl zF zN ⟨rfl, rfl, ⟨_, rfl⟩, ⟨_, rfl⟩⟩ ?turn ?done
  case turn =>
    intro st n k t m its nn h tk own ok h0 h1 hf hin hsz hoff F N
    obtain ⟨out, lb, lc⟩ := st
    dsimp only at *
    obtain ⟨hl, hlo, hhi, -, -⟩ := ok
    dsimp only at hl hlo hhi
    clear zF zN
    rcases hl with rfl | rfl | rfl
    · k_steps
      rename Fr _ _ _ _ => zF
      rename News _ _ _ _ => zN
      rename BF _ _ _ _ => zM
      rw [bstep0]
      exact ⟨_, _, _, _, [(_, listOf _ _)], rfl, zF, zN, fun p hp => by rw [List.mem_singleton.mp hp]; exact .head _, fun p hp => .tail _ hp, rfl, ⟨by with_unfolding_all exact zM.out, by with_unfolding_all exact zM.nl, ⟨_, rfl⟩, ⟨_, rfl⟩⟩, _, _, ints_push hin, rfl⟩
    · k_steps
      rename Fr _ _ _ _ => zF
      rename News _ _ _ _ => zN
      rename BF _ _ _ _ => zM
      rw [bstep2]
      exact ⟨_, _, _, _, [(_, listOf _ _)], rfl, zF, zN, fun p hp => by rw [List.mem_singleton.mp hp]; exact .head _, fun p hp => .tail _ hp, rfl, ⟨by with_unfolding_all exact zM.out, by with_unfolding_all exact zM.nl, ⟨_, rfl⟩, ⟨_, rfl⟩⟩, _, _, ints_push hin, rfl⟩
    · k_steps
      rename Fr _ _ _ _ => zF
      rename News _ _ _ _ => zN
      rename BF _ _ _ _ => zM
      rw [bstep4]
      exact ⟨_, _, _, _, [(_, listOf _ _)], rfl, zF, zN, fun p hp => by rw [List.mem_singleton.mp hp]; exact .head _, fun p hp => .tail _ hp, rfl, ⟨by with_unfolding_all exact zM.out, by with_unfolding_all exact zM.nl, ⟨_, rfl⟩, ⟨_, rfl⟩⟩, _, _, ints_push (ints_push hin), rfl⟩
  case done =>
    intro m its nn h tk hf hin hsz F N
    obtain ⟨hl, hlo, hhi, -, hinn⟩ := brun_ok ks
    clear zF zN
    dsimp only
    have hb : b64 ks = btail (brun ks) := rfl
    revert hret hf hin hlo hhi hinn hl
    rw [hb]
    generalize brun ks = st
    obtain ⟨out, lb, lc⟩ := st
    intro hret hf hin hl hlo hhi hinn
    dsimp only at *
    rcases hl with rfl | rfl | rfl
    · k_steps
      rename Fr _ _ _ _ => zF
      rename News _ _ _ _ => zN
      refine k_bytesL (zN.isList (List.mem_singleton.mpr rfl)) (ints_push hin) (in_snoc hinn (by decide)) (by simp only [Array.size_push]; omega) rfl ?_
      intro h9 t9 k9 b9 hk9 hb9
      dsimp only
      k_steps
      exact hret _ _ _ _ (fun b o e => hk9 b o (zF.keep b o e)) hb9
    · k_steps
      rename Fr _ _ _ _ => zF
      rename News _ _ _ _ => zN
      refine k_bytesL (zN.isList (List.mem_singleton.mpr rfl)) (ints_push (ints_push (ints_push (ints_push hin)))) (in_snoc (in_snoc (in_snoc (in_snoc hinn (sg_in _)) (by decide)) (by decide)) (by decide)) (by simp only [Array.size_push]; omega) rfl ?_
      intro h9 t9 k9 b9 hk9 hb9
      dsimp only
      k_steps
      exact hret _ _ _ _ (fun b o e => hk9 b o (zF.keep b o e)) hb9
    · k_steps
      rename Fr _ _ _ _ => zF
      rename News _ _ _ _ => zN
      refine k_bytesL (zN.isList (List.mem_singleton.mpr rfl)) (ints_push (ints_push (ints_push hin))) (in_snoc (in_snoc (in_snoc hinn (sg_in _)) (by decide)) (by decide)) (by simp only [Array.size_push]; omega) rfl ?_
      intro h9 t9 k9 b9 hk9 hb9
      dsimp only
      k_steps
      exact hret _ _ _ _ (fun b o e => hk9 b o (zF.keep b o e)) hb9
end Mine
end
section
open PySem PySem.W PyProof.Rows PySem.Calls PySem.Spec PySem.Builtin
set_option Elab.async false
set_option maxRecDepth 100000
namespace Mine
/-- the values are bytes with these ints -/
inductive BysAre : List Value → List (List Int) → Prop
  | nil : BysAre [] []
  | cons {b : Array UInt8} {t : Tok} {ks : List Int} {vs : List Value} {kss : List (List Int)} (h : KBw.bInts b = ks) (r : BysAre vs kss) : BysAre (.bytes b t :: vs) (ks :: kss)
theorem BysAre.snoc {b : Array UInt8} {t : Tok} {ks : List Int} (h : KBw.bInts b = ks) : ∀ {vs : List Value} {kss : List (List Int)}, BysAre vs kss → BysAre (vs ++ [.bytes b t]) (kss ++ [ks])
  | _, _, .nil => .cons h .nil
  | _, _, .cons h' r => .cons h' (BysAre.snoc h r)
theorem BysAre.length : ∀ {vs : List Value} {kss : List (List Int)}, BysAre vs kss → vs.length = kss.length
  | _, _, .nil => rfl
  | _, _, .cons _ r => congrArg (· + 1) r.length
theorem BysAre.at : ∀ {vs : List Value} {kss : List (List Int)}, BysAre vs kss → ∀ (i : Nat) (v : Value), vs[i]? = some v → ∃ b t ks, v = .bytes b t ∧ kss[i]? = some ks ∧ KBw.bInts b = ks
  | _, _, .nil, i, v, h => by simp at h
  | _, _, .cons (b := b) (t := t) (ks := ks) hb r, 0, v, h => ⟨b, t, ks, by simpa using h.symm, rfl, hb⟩
  | _, _, .cons hb r, i + 1, v, h => by
    obtain ⟨b, t, ks, e, e2, e3⟩ := r.at i v (by simpa using h)
    exact ⟨b, t, ks, e, by simpa using e2, e3⟩
theorem BysAre.app : ∀ {vs : List Value} {kss : List (List Int)} {us : List Value} {jss : List (List Int)}, BysAre vs kss → BysAre us jss → BysAre (vs ++ us) (kss ++ jss)
  | _, _, _, _, .nil, h => h
  | _, _, _, _, .cons hb r, h => .cons hb (r.app h)
theorem slot_bjoin : Slot "bytes" "join" "bytes.join" :=
  .of (owner := "bytes") (n := "join") (by rw [typeLookup_type, builtinLookup_eq_fast]; kernel_rfl) (by decide +kernel) (by decide +kernel) (by decide +kernel)
    (by first | exact .inl (by decide +kernel) | exact .inr (by decide +kernel)) (by rw [isSubtype_type]; kernel_rfl)
theorem entry_bjoin : entryFor table "bytes.join" = some Builtin.«bytes.join» := by first | exact entryFor_of_tree (by kernel_rfl) | exact entryFor_of_fast (by kernel_rfl)
theorem args_bjoin (a b : Value) : argsOk "bytes.join" ⟨[a, b], []⟩ := by unfold argsOk; kernel_rfl
theorem type_bjoin : typeOf (.builtin "bytes.join") = pure (.type "method_descriptor") := by kernel_rfl
theorem letGo_nil {M : Model} {A : Around} {E : Value → Shared → Prop} {s : Shared} {Q : Unit → Shared → Prop} (h : Q () s) : ∀ (l : List (Value × Option Value)) (keep : List Value), (∀ p ∈ l, p.2 = none) → wpAny M A (Bytes.joinLetGo l keep) Q E s
  | [], _, _ => wpAny_pure h
  | (x, w) :: r, keep, hl => by
    have e : w = none := hl _ (.head _)
    subst e
    unfold Bytes.joinLetGo
    exact wpAny_bind (wpAny_letGo (letGo_nil h r keep fun p hp => hl p (.tail _ hp)))
theorem take_eq {b : Array UInt8} {t : Tok} {id : String} : Bytes.takeBuffer? id (.bytes b t) 0 = pure (some (b, none)) := by
  unfold Bytes.takeBuffer?
  rw [KBy.special_eq KBy.look_buffer, KBy.own_buffer]
  have e : ((0 : Int) == Bytes.fullReadOnly) = false := by decide +kernel
  rw [e, KBy.buffer_eq]
  kernel_rfl
theorem take_buf {M : Model} {A : Around} {E : Value → Shared → Prop} {s : Shared} {b : Array UInt8} {t : Tok} {id : String} {Q : Option (Array UInt8 × Option Value) → Shared → Prop} (h : Q (some (b, none)) s) : wpAny M A (Bytes.takeBufferQuiet? id (.bytes b t) 0) Q E s := by
  unfold Bytes.takeBufferQuiet?
  rw [take_eq]
  exact wpAny_bind (wpAny_attempt (wpAny_pure (wpAny_pure h)))
theorem seq_items {M : Model} {A : Around} {E : Value → Shared → Prop} {s : Shared} {D : Addr} {its : Array Value} {Q : Option (Array Value) → Shared → Prop} (hl : s.heap.IsList D its) (h : Q (some its) s) : wpAny M A (seqItems? (.ref D)) Q E s := by
  obtain ⟨o, ho, hc, n, hd⟩ := hl
  unfold seqItems?
  refine wpAny_bind (wpAny_load ho ?_)
  rw [hd]
  exact wpAny_pure h
theorem joined_acc : ∀ (l : List (Array UInt8)) (k : Nat) (acc : Array UInt8), KBw.bInts ((l.zipIdx k).foldl (fun out (p : Array UInt8 × Nat) => (if p.2 > 0 then out ++ (#[] : Array UInt8) else out) ++ p.1) acc) = KBw.bInts acc ++ (l.map KBw.bInts).flatten
  | [], _, acc => by simp
  | a :: r, k, acc => by
    rw [List.zipIdx_cons, List.foldl_cons, joined_acc r (k + 1), List.map_cons, List.flatten_cons]
    have e : (if k > 0 then acc ++ (#[] : Array UInt8) else acc) = acc := by split <;> simp
    show KBw.bInts ((if k > 0 then acc ++ (#[] : Array UInt8) else acc) ++ a) ++ _ = _
    rw [e, KBw.ints_app rfl rfl, List.append_assoc]
theorem joined_ints (l : List (Array UInt8)) : KBw.bInts (Bytes.joined #[] l) = (l.map KBw.bInts).flatten := by
  have h := joined_acc l 0 #[]
  have e : KBw.bInts (#[] : Array UInt8) = [] := rfl
  rw [e, List.nil_append] at h
  exact h
theorem sizes_fold : ∀ (l : List (Array UInt8)) (n : Nat), l.foldl (fun n a => n + a.size) n = n + (l.map KBw.bInts).flatten.length
  | [], n => by simp
  | a :: r, n => by
    rw [List.foldl_cons, sizes_fold r, List.map_cons, List.flatten_cons, List.length_append, KBw.ints_length]
    omega
theorem meets_join {D : Addr} {its : Array Value} {kss : List (List Int)} {t : Tok} (hb : BysAre its.toList kss) (hsz : kss.flatten.length ≤ 16777216) :
    Meets (Builtin.«bytes.join» ⟨[.bytes #[] t, .ref D], []⟩) (fun _ R s => s.heap.IsList D its ∧ ∀ c t k, KBw.bInts c = kss.flatten → R (.ok (.ret (.bytes c t))) { s with toks := k }) := by
  intro prog w A R s h
  obtain ⟨hl, hR⟩ := h
  have hT : s.TypeIs (.ref D) "list" := by obtain ⟨o, ho, hc, _⟩ := hl; exact ⟨o, ho, hc⟩
  unfold Builtin.«bytes.join» Bytes.joinM
  refine wpAny_bind (wpAny_of_eq (a := (Value.bytes #[] t, Value.ref D)) rfl ?_)
  dsimp only
  rw [if_pos (by decide)]
  refine wpAny_bind ?_
  unfold Bytes.joinItems
  refine wpAny_bind (wpAny_typeOf hT ?_)
  rw [if_pos (by decide)]
  refine wpAny_pure ?_
  refine wpAny_bind (seq_items hl ?_)
  dsimp only
  rw [if_pos (by decide)]
  by_cases h1 : ∃ x, its = #[x]
  · obtain ⟨x, rfl⟩ := h1
    have hb' : BysAre [x] kss := hb
    cases hb' with
    | cons hx r =>
      cases r with
      | nil =>
        refine wpAny_bind (wpAny_typeOf (typeIs_bytes s _ _) ?_)
        rw [if_pos (by decide)]
        refine wpAny_bind (wpAny_rule ?_)
        exact wpAny_pure (hR _ _ s.toks (by rw [hx]; simp))
  · rcases its with ⟨l⟩
    rcases l with _ | ⟨x, _ | ⟨y, r⟩⟩
    rotate_left
    · exact absurd ⟨x, rfl⟩ h1
    all_goals
      clear h1
      show wpAny _ _ (bind (forIn _ _ _) _) _ _ _
      rw [Std.Legacy.Range.forIn_eq_forIn_range']
      generalize hits : (⟨_⟩ : Array Value) = its at *
      refine wpAny_bind (wpAny_forIn_list _ (fun rest (st : Array (Array UInt8) × List (Value × Option Value)) s' => s' = s ∧ ∃ i, i ≤ its.size ∧ rest = List.range' i (its.size - i) ∧ (∀ p ∈ st.2, p.2 = none ∧ p.1.onHeap = false) ∧ st.1.toList.map KBw.bInts = kss.take i) _ ?turn ?fin _ _ ⟨rfl, 0, Nat.zero_le _, ?r0, fun _ hp => (nomatch hp), rfl⟩)
      case r0 => simp
      case turn =>
        rintro x rest ⟨parts, taken⟩ s' ⟨rfl, i, hi, hr, ht, hp⟩
        dsimp only at ht hp ⊢
        have hlt : i < its.size := by
          have := congrArg List.length hr
          simp at this
          omega
        have hx : x = i ∧ rest = List.range' (i + 1) (its.size - (i + 1)) := by
          have e : its.size - i = (its.size - (i + 1)) + 1 := by omega
          rw [e, List.range'_succ] at hr
          exact ⟨(List.cons.inj hr).1, (List.cons.inj hr).2⟩
        obtain ⟨rfl, hrest⟩ := hx
        refine wpAny_bind (seq_items hl ?_)
        dsimp only
        obtain ⟨b, tb, ks, hv, hks, hbk⟩ := hb.at x its[x] (by simp [hlt])
        have hg : its.getD x Value.none = .bytes b tb := by
          rw [Array.getD_eq_getD_getElem?, Array.getElem?_eq_getElem hlt, ← hv]
          rfl
        have hno : ((Bytes.Kind.bytes == Bytes.Kind.bytearray) || taken.any fun p => p.1.onHeap) = false := by
          have : taken.any (fun p => p.1.onHeap) = false := List.any_eq_false.mpr fun p hp => by rw [(ht p hp).2]; exact Bool.false_ne_true
          rw [this]
          rfl
        rw [hno, if_neg Bool.false_ne_true, hg]
        refine wpAny_bind (wpAny_holding (take_buf ?_))
        dsimp only
        refine wpAny_bind (seq_items hl ?_)
        dsimp only
        rw [if_neg (by simp)]
        refine wpAny_pure ⟨rfl, x + 1, hlt, hrest, ?_, ?_⟩
        · intro p hp
          rcases List.mem_append.mp hp with hp | hp
          · exact ht p hp
          · rw [List.mem_singleton.mp hp]; exact ⟨rfl, rfl⟩
        · rw [Array.toList_push, List.map_append, hp, List.take_add_one, hks]
          simp [hbk]
      case fin =>
        rintro ⟨parts, taken⟩ s' ⟨rfl, i, hi, hr, ht, hp⟩
        dsimp only at ht hp ⊢
        have hk : kss.length = its.size := by rw [← hb.length, Array.length_toList]
        have hi' : its.size ≤ i := by
          have := congrArg List.length hr
          simp at this
          omega
        rw [List.take_of_length_le (by omega)] at hp
        refine wpAny_bind (wpAny_of_eq (a := (#[] : Array UInt8)) rfl ?_)
        have hz : Array.foldl (fun (x1 : Nat) (x2 : Array UInt8) => x1 + x2.size) ((#[] : Array UInt8).size * (parts.size - 1)) parts = kss.flatten.length := by
          rw [← Array.foldl_toList, sizes_fold, hp]
          simp
        rw [hz, if_neg (by rw [KBy.tooLong_not hsz]; exact Bool.false_ne_true)]
        have hj : KBw.bInts (Bytes.joined #[] parts.toList) = kss.flatten := by rw [joined_ints, hp]
        refine wpAny_bind (wpAny_mkBytes ?_ ?_)
        · refine wpAny_bind (wpAny_holding (wpAny_point ?_))
          refine wpAny_bind (letGo_nil ?_ _ _ fun p hp => (ht p hp).1)
          exact wpAny_pure (hR _ _ _ hj)
        · rw [← KBw.ints_length, hj, sizeLine_eq]; exact hsz
theorem k_bjoin {prog : Program} {w : World} {A : Around} {E : Value → Shared → Prop} {s : Shared} {Q : Value → Shared → Prop} {D : Addr} {its : Array Value} {kss : List (List Int)} {t : Tok} (hl : s.heap.IsList D its) (hb : BysAre its.toList kss) (hsz : kss.flatten.length ≤ 16777216)
    (h : ∀ c t k, KBw.bInts c = kss.flatten → Q (.bytes c t) { s with toks := k }) : wpAny (model prog w) A (call (.builtin "bytes.join") [.bytes #[] t, .ref D]) Q E s :=
  call_meets slot_bjoin (typeIs_bytes _ _ _) entry_bjoin (args_bjoin _ _) (meets_join hb hsz) ⟨hl, h⟩
theorem k_getjoin {M : Model} {A : Around} {E : Value → Shared → Prop} {s : Shared} {pl : Sem Bool} {b : Array UInt8} {t : Tok} {Q : Value × List Value → Shared → Prop} (h : Q (.builtin "bytes.join", [.bytes b t]) s) : wpAny M A (getMethod (.bytes b t) (PySem.Str.ofString "join") pl) Q E s :=
  KBd.method_of (.bytes b t) (typeIs_bytes _ _ _) slot_bjoin type_bjoin KBd.noRef h
end Mine
end
section
open PySem PySem.W PyProof.Rows PySem.Calls PySem.Spec PySem.Builtin
set_option Elab.async false
set_option maxRecDepth 100000
namespace Mine
/-- one octet of a split by line ends: the pieces so far, the open one -/
def slStep (st : List (List Int) × List Int) (k : Int) : List (List Int) × List Int := if k = 10 then (st.1 ++ [st.2], []) else (st.1, st.2 ++ [k])
def slRun (ks : List Int) : List (List Int) × List Int := ks.foldl slStep ([], [])
def splitL (ks : List Int) : List (List Int) := (slRun ks).1 ++ [(slRun ks).2]
theorem slRun_snoc (ks : List Int) (k : Int) : slRun (ks ++ [k]) = slStep (slRun ks) k := by
  unfold slRun
  rw [List.foldl_append]
  rfl
def occStep (b sub : Array UInt8) (acc : List Nat × Nat) (i : Nat) : List Nat × Nat := if i ≥ acc.2 && b.extract i (i + sub.size) == sub then (i :: acc.1, i + sub.size) else acc
def betStep (b : Array UInt8) (w : Nat) (st : Array (Array UInt8) × Nat) (p : Nat) : Array (Array UInt8) × Nat := (st.1.push (b.extract st.2 p), p + w)
theorem ext_one {b : Array UInt8} {i : Nat} (h : i < b.size) : (b.extract i (i + 1) == (#[10] : Array UInt8)) = decide (((b[i].toNat : Nat) : Int) = 10) := by
  have e : b.extract i (i + 1) = #[b[i]] := by
    apply Array.ext
    · simp; omega
    · intro j h1 h2
      simp at h2
      subst h2
      simp
  rw [e]
  by_cases h10 : b[i] = 10
  · rw [h10]; rfl
  · have h1 : (#[b[i]] == (#[10] : Array UInt8)) = false := by
      refine beq_eq_false_iff_ne.mpr fun q => h10 ?_
      have := congrArg (fun a : Array UInt8 => a.toList) q
      simpa using this
    rw [h1]
    refine (decide_eq_false fun q => h10 ?_).symm
    have : b[i].toNat = 10 := by exact_mod_cast q
    exact UInt8.toNat_inj.mp this
theorem ints_take {b : Array UInt8} {i : Nat} (h : i < b.size) : (KBw.bInts b).take (i + 1) = (KBw.bInts b).take i ++ [((b[i].toNat : Nat) : Int)] := by
  rw [List.take_add_one, KBw.ints_get (c := b[i]) (by simp [h])]
  rfl
theorem ints_ext (b : Array UInt8) (i j : Nat) : KBw.bInts (b.extract i j) = ((KBw.bInts b).drop i).take (j - i) := by
  unfold KBw.bInts
  rw [Array.toList_extract, ← List.map_drop, ← List.map_take]
  try rfl
/-- behind m octets -/
theorem occ_inv (b : Array UInt8) : ∀ m, m ≤ b.size → ∃ places last ps, (List.range m).foldl (occStep b #[10]) ([], 0) = (places, last) ∧ last ≤ m ∧ places.reverse.foldl (betStep b 1) (#[], 0) = (ps, last) ∧ slRun ((KBw.bInts b).take m) = (ps.toList.map KBw.bInts, KBw.bInts (b.extract last m)) := by
  intro m
  induction m with
  | zero => exact fun _ => ⟨[], 0, #[], rfl, Nat.le_refl _, rfl, by simp [slRun, KBw.bInts]⟩
  | succ m ih =>
    intro hm
    obtain ⟨places, last, ps, h1, h2, h3, h4⟩ := ih (by omega)
    have hlt : m < b.size := hm
    rw [List.range_succ, List.foldl_append, h1, ints_take hlt, slRun_snoc, h4]
    show ∃ p l q, occStep b #[10] (places, last) m = (p, l) ∧ _
    have hge : decide (m ≥ last) = true := decide_eq_true h2
    have hext := ext_one hlt
    by_cases h10 : ((b[m].toNat : Nat) : Int) = 10
    · refine ⟨m :: places, m + 1, ps.push (b.extract last m), ?_, Nat.le_refl _, ?_, ?_⟩
      · show (if (decide (m ≥ last) && b.extract m (m + 1) == #[10]) = true then (m :: places, m + 1) else (places, last)) = _
        rw [hext, hge, decide_eq_true h10]
        rfl
      · rw [List.reverse_cons, List.foldl_append, h3]
        rfl
      · unfold slStep
        rw [if_pos h10, Array.toList_push, List.map_append]
        congr 1
        rw [ints_ext, Nat.sub_self, List.take_zero]
    · refine ⟨places, last, ps, ?_, by omega, h3, ?_⟩
      · show (if (decide (m ≥ last) && b.extract m (m + 1) == #[10]) = true then (m :: places, m + 1) else (places, last)) = _
        rw [hext, hge, decide_eq_false h10]
        rfl
      · unfold slStep
        rw [if_neg h10]
        congr 1
        rw [ints_ext, ints_ext, show m + 1 - last = (m - last) + 1 by omega, List.take_add_one]
        congr 1
        rw [List.getElem?_drop, show last + (m - last) = m by omega, KBw.ints_get (c := b[m]) (by simp [hlt])]
        rfl
theorem occ_eq (b : Array UInt8) : Bytes.occurrences b #[10] 0 b.size = ((List.range b.size).foldl (occStep b #[10]) ([], 0)).1.reverse := by
  unfold Bytes.occurrences
  have e : ((List.range (b.size + 1 - (0 + (#[10] : Array UInt8).size))).map (· + 0)) = List.range b.size := by
    have e1 : b.size + 1 - (0 + (#[10] : Array UInt8).size) = b.size := by show b.size + 1 - (0 + 1) = _; omega
    rw [e1]
    simp
  rw [e]
  rfl
theorem split_ints (b : Array UInt8) : (Bytes.between b 1 (Bytes.occurrences b #[10] 0 b.size)).map KBw.bInts = splitL (KBw.bInts b) := by
  obtain ⟨places, last, ps, h1, h2, h3, h4⟩ := occ_inv b b.size (Nat.le_refl _)
  rw [List.take_of_length_le (by rw [KBw.ints_length]; exact Nat.le_refl _)] at h4
  rw [occ_eq, h1]
  unfold Bytes.between
  have e : places.reverse.foldl (fun (x : Array (Array UInt8) × Nat) (p : Nat) => match x with | (parts, last) => (parts.push (b.extract last p), p + 1)) (#[], 0) = (ps, last) := h3
  dsimp only
  rw [e]
  dsimp only
  unfold splitL
  rw [h4, Array.toList_push, List.map_append]
  rfl
theorem split_none {b : Array UInt8} (h : (Bytes.occurrences b #[10] 0 b.size).isEmpty = true) : splitL (KBw.bInts b) = [KBw.bInts b] := by
  have e := split_ints b
  rw [List.isEmpty_iff.mp h] at e
  rw [← e]
  show [KBw.bInts (b.extract 0 b.size)] = _
  rw [Array.extract_size]
theorem split_len (b : Array UInt8) : (Bytes.between b 1 (Bytes.occurrences b #[10] 0 b.size)).length ≤ b.size + 1 := by
  have h := congrArg List.length (split_ints b)
  rw [List.length_map] at h
  rw [h]
  have key : ∀ (ks : List Int) (st : List (List Int) × List Int), (ks.foldl slStep st).1.length ≤ st.1.length + ks.length := by
    intro ks
    induction ks with
    | nil => exact fun _ => Nat.le_refl _
    | cons k r ih =>
      intro st
      refine Nat.le_trans (ih _) ?_
      rw [List.length_cons]
      unfold slStep
      split
      · rw [List.length_append]; show st.1.length + 1 + r.length ≤ _; omega
      · show st.1.length + r.length ≤ _; omega
  have this : ∀ (ks : List Int), (slRun ks).1.length ≤ ks.length := fun ks => by
    have := key ks ([], [])
    rw [show (([] : List (List Int)), ([] : List Int)).1.length = 0 from rfl, Nat.zero_add] at this
    exact this
  unfold splitL
  rw [List.length_append, ← KBw.ints_length b]
  exact Nat.add_le_add_right (this _) 1
theorem mem_between {b : Array UInt8} {w : Nat} {pl : List Nat} {a : Array UInt8} (h : a ∈ Bytes.between b w pl) : a.size ≤ b.size := by
  have key : ∀ (pl : List Nat) (st : Array (Array UInt8) × Nat), (∀ x ∈ st.1.toList, x.size ≤ b.size) → ∀ x ∈ (pl.foldl (betStep b w) st).1.toList, x.size ≤ b.size := by
    intro pl
    induction pl with
    | nil => exact fun st h => h
    | cons p r ih =>
      intro st h
      refine ih _ fun x hx => ?_
      rw [show (betStep b w st p).1 = st.1.push (b.extract st.2 p) from rfl, Array.toList_push] at hx
      rcases List.mem_append.mp hx with hx | hx
      · exact h x hx
      · rw [List.mem_singleton.mp hx, Array.size_extract]; omega
  have h' : a ∈ ((pl.foldl (betStep b w) (#[], 0)).1.push (b.extract (pl.foldl (betStep b w) (#[], 0)).2 b.size)).toList := h
  rw [Array.toList_push] at h'
  rcases List.mem_append.mp h' with hx | hx
  · exact key pl (#[], 0) (fun _ hx => by simp at hx) a hx
  · rw [List.mem_singleton.mp hx, Array.size_extract]; omega
theorem mapM_bytes {M : Model} {A : Around} {E : Value → Shared → Prop} : ∀ (l : List (Array UInt8)) (s : Shared) (Q : List Value → Shared → Prop), (∀ a ∈ l, a.size ≤ sizeLine) → (∀ vs k, BysAre vs (l.map KBw.bInts) → Q vs { s with toks := k }) → wpAny M A (l.mapM Bytes.Kind.bytes.new) Q E s
  | [], s, Q, _, h => by rw [List.mapM_nil]; exact wpAny_pure (h [] s.toks .nil)
  | a :: r, s, Q, hl, h => by
    rw [List.mapM_cons]
    refine wpAny_bind (wpAny_mkBytes (wpAny_bind (mapM_bytes r _ _ (fun x hx => hl x (.tail _ hx)) fun vs k hv => wpAny_pure (h _ k (.cons rfl hv)))) (hl a (.head _)))
theorem slot_bsplit : Slot "bytes" "split" "bytes.split" :=
  .of (owner := "bytes") (n := "split") (by rw [typeLookup_type, builtinLookup_eq_fast]; kernel_rfl) (by decide +kernel) (by decide +kernel) (by decide +kernel)
    (by first | exact .inl (by decide +kernel) | exact .inr (by decide +kernel)) (by rw [isSubtype_type]; kernel_rfl)
theorem entry_bsplit : entryFor table "bytes.split" = some Builtin.«bytes.split» := by first | exact entryFor_of_tree (by kernel_rfl) | exact entryFor_of_fast (by kernel_rfl)
theorem args_bsplit (a b : Value) : argsOk "bytes.split" ⟨[a, b], []⟩ := by unfold argsOk; kernel_rfl
theorem type_bsplit : typeOf (.builtin "bytes.split") = pure (.type "method_descriptor") := by kernel_rfl
theorem meets_split {b : Array UInt8} {t u : Tok} (hsz : b.size ≤ 1000000) :
    Meets (Builtin.«bytes.split» ⟨[.bytes b t, .bytes #[10] u], []⟩) (fun _ R s => ∀ vs k, BysAre vs (splitL (KBw.bInts b)) → R (.ok (.ret (.ref s.heap.objs.size))) { s with heap := s.heap.push { cls := .type "list", data := .seq vs.toArray }, toks := k }) := by
  intro prog w A R s hR
  unfold Builtin.«bytes.split» Bytes.splitM
  dsimp only
  refine wpAny_bind (wpAny_of_eq (a := [some (Value.bytes #[10] u), none]) (by kernel_rfl) ?_)
  dsimp only
  refine wpAny_bind (wpAny_pure ?_)
  refine wpAny_bind (wpAny_of_eq (a := b) rfl ?_)
  refine wpAny_bind (wpAny_of_eq (a := (#[10] : Array UInt8)) KBd.like_eq ?_)
  have hlen : (Bytes.occurrences b #[10] 0 b.size).length ≤ b.size := by
    have := split_len b
    have e : ∀ (pl : List Nat) (st : Array (Array UInt8) × Nat), (pl.foldl (betStep b 1) st).1.size = st.1.size + pl.length := by
      intro pl
      induction pl with
      | nil => intro st; rfl
      | cons p r ih => intro st; rw [List.foldl_cons, ih]; simp [betStep]; omega
    have e2 : (Bytes.between b 1 (Bytes.occurrences b #[10] 0 b.size)).length = (Bytes.occurrences b #[10] 0 b.size).length + 1 := by
      show ((((Bytes.occurrences b #[10] 0 b.size).foldl (betStep b 1) (#[], 0)).1.push _).toList).length = _
      rw [Array.toList_push, List.length_append, Array.length_toList, e]
      simp
    omega
  rw [if_neg (by decide)]
  have hpl : (if false = true then Bytes.occurrencesFromRight b #[10] (if (-1 : Int) < 0 then b.size + 1 else (-1 : Int).toNat) else List.take (if (-1 : Int) < 0 then b.size + 1 else (-1 : Int).toNat) (Bytes.occurrences b #[10] 0 b.size)) = Bytes.occurrences b #[10] 0 b.size := by
    rw [if_neg Bool.false_ne_true, if_pos (by decide), List.take_of_length_le (by omega)]
  rw [hpl]
  by_cases he : (Bytes.occurrences b #[10] 0 b.size).isEmpty = true
  · rw [if_pos he]
    refine wpAny_bind (wpAny_rule ?_)
    unfold Bytes.Kind.same
    rw [if_pos (by decide)]
    refine wpAny_bind (wpAny_bind (wpAny_typeOf (typeIs_bytes s b t) ?_))
    rw [if_pos (by decide)]
    refine wpAny_pure ?_
    refine wpAny_bind (wpAny_newList ?_ (by show 1 ≤ _; rw [sizeLine_eq]; omega))
    refine wpAny_pure (hR [.bytes b t] s.toks ?_)
    rw [split_none he]
    exact .cons rfl .nil
  · rw [if_neg he]
    refine wpAny_bind (mapM_bytes _ _ _ (fun a ha => ?_) fun vs k hv => ?_)
    · have := mem_between ha
      rw [sizeLine_eq]; omega
    · refine wpAny_bind (wpAny_newList ?_ ?_)
      · refine wpAny_pure (hR vs k ?_)
        rw [← split_ints b]
        exact hv
      · rw [hv.length, List.length_map]
        have := split_len b
        show (Bytes.between b 1 _).length ≤ _
        rw [sizeLine_eq]; omega
section
variable {prog : Program} {w : World} {A : Around} {E : Value → Shared → Prop} {s : Shared} {h₀ : Heap} {L : Addr} {m : Str → Option Value} {news : List (Addr × Obj)} {Q : Value → Shared → Prop}
theorem k_bsplit {b : Array UInt8} {t u : Tok} (F : Fr h₀ L s.heap m) (N : News h₀ L s.heap news) (hsz : b.size ≤ 1000000)
    (h : ∀ D h' vs k, BysAre vs (splitL (KBw.bInts b)) → Fr h₀ L h' m → News h₀ L h' ((D, listOf vs.toArray 0) :: news) → (∀ p ∈ news, p.1 < D) → Q (.ref D) { s with heap := h', toks := k }) :
    wpAny (model prog w) A (call (.builtin "bytes.split") [.bytes b t, .bytes #[10] u]) Q E s :=
  call_meets slot_bsplit (typeIs_bytes _ _ _) entry_bsplit (args_bsplit _ _) (meets_split hsz) fun vs k hv =>
    h _ _ vs k hv (F.push _) (News.push F N _) fun p hp => Heap.lt_size (N p hp).1
theorem k_getsplit {M : Model} {pl : Sem Bool} {b : Array UInt8} {t : Tok} {Q : Value × List Value → Shared → Prop} (h : Q (.builtin "bytes.split", [.bytes b t]) s) : wpAny M A (getMethod (.bytes b t) (PySem.Str.ofString "split") pl) Q E s :=
  KBd.method_of (.bytes b t) (typeIs_bytes _ _ _) slot_bsplit type_bsplit KBd.noRef h
end
end Mine
end
section
open PySem PySem.W PyProof.Rows PySem.Calls PySem.Spec
set_option Elab.async false
set_option maxRecDepth 100000
namespace Mine
section
variable {prog : Program} {w : World} {A : Around} {E : Value → Shared → Prop} {s : Shared} {h₀ : Heap} {env : Env} {x : Str} {body : List Stmt} {Q : Flow → Shared → Prop}
theorem UnrPost.mono {L I : Addr} {s₁ : Shared} {it : Obj} {r₁ r₂ : (Str → Option Value) → List (Addr × Obj) → Prop} (h : ∀ m n, r₁ m n → r₂ m n) {f : Flow} {s₂ : Shared} (x : UnrPost h₀ L s₁ I it r₁ Q f s₂) : UnrPost h₀ L s₁ I it r₂ Q f s₂ := by
  cases f with
  | ret v => exact x
  | brk => exact x
  | next => obtain ⟨h', tk, m', news', e, F, N, o, r⟩ := x; exact ⟨h', tk, m', news', e, F, N, o, h _ _ r⟩
  | cont => obtain ⟨h', tk, m', news', e, F, N, o, r⟩ := x; exact ⟨h', tk, m', news', e, F, N, o, h _ _ r⟩
theorem krsInv {I : Addr} {a c : Int} {n : Nat} (Inv : Nat → (Str → Option Value) → List (Addr × Obj) → Prop)
    (hnil : ∀ m news, Inv n m news → ∀ h tk, Fr h₀ env.locals h m → News h₀ env.locals h news → Q .next { s with heap := h, toks := tk })
    (hstep : ∀ i m news, i < n → Inv i m news → ∀ t h tk, Fr h₀ env.locals h (fun y => if y = x then some (.int (a + (i : Int) * c) t) else m y) →
      News h₀ env.locals h ((I, krsIt (a + ((i + 1 : Nat) : Int) * c) ((n : Int) - ((i + 1 : Nat) : Int)) c) :: news) →
      wpAny (model prog w) A (execs body env) (UnrPost h₀ env.locals { s with heap := h, toks := tk } I (krsIt (a + ((i + 1 : Nat) : Int) * c) ((n : Int) - ((i + 1 : Nat) : Int)) c) (fun m' n' => Inv (i + 1) m' n') Q) E { s with heap := h, toks := tk }) :
    ∀ (k i : Nat) (m : Str → Option Value) (news : List (Addr × Obj)), i + k = n → Inv i m news → KrsRest prog w A E h₀ env x body Q s I a c n k i m news
  | 0, i, m, news, e, h0 => by
    have e' : i = n := e
    subst e'
    exact KrsRest.zero (hnil m news h0)
  | k + 1, i, m, news, e, h0 => fun t h tk F N => wpAny_mono (hstep i m news (by omega) h0 t h tk F N) (fun _ _ z => UnrPost.mono (fun m' n' b => krsInv Inv hnil hstep k (i + 1) m' n' (by omega) b) z) fun _ _ e => e
theorem krsLess {I : Addr} {a c : Int} {n : Nat} {m : Str → Option Value} {news less : List (Addr × Obj)} (sub : SubL less news) : ∀ (k i : Nat), KrsRest prog w A E h₀ env x body Q s I a c n k i m less → KrsRest prog w A E h₀ env x body Q s I a c n k i m news
  | 0, _, h => fun h' tk F N => h h' tk F (fun p hp => N p (sub.mem p hp))
  | _ + 1, _, h => fun t h' tk F N => h t h' tk F (fun p hp => N p (by
    rcases List.mem_cons.mp hp with rfl | hp
    · exact List.mem_cons_self ..
    · exact List.mem_cons_of_mem _ (sub.mem p hp)))
structure SF (m : Str → Option Value) (lst : Addr) : Prop where
  script : m "script" = some (.ref lst)
/-- the outer loop of a law: what stands at each turn's head is that script is bound; a turn ends with .next -/
theorem krsGo {r : Addr} {a b c : Int} {t₀ u₀ v₀ : Tok} {m : Str → Option Value} {news : List (Addr × Obj)} {lst : Addr} (hh : A.handled = none) (hr : IsRange s.heap r a b c t₀ u₀ v₀)
    (hsmall : Builtin.Range.small a b c = true) (hpos : 0 ≤ Builtin.Range.rangeSize a b c) (F : Fr h₀ env.locals s.heap m) (N : News h₀ env.locals s.heap news) (hm : SF m lst)
    (hnil : ∀ (m : Str → Option Value) h tk, SF m lst → Fr h₀ env.locals h m → News h₀ env.locals h [] → Q .next { s with heap := h, toks := tk })
    (hstep : ∀ (Q' : Flow → Shared → Prop) (I : Addr) (it : Obj) (m : Str → Option Value) (v : Int), (∃ i : Nat, (i : Int) < Builtin.Range.rangeSize a b c ∧ v = a + (i : Int) * c) → SF m lst → ∀ t h tk, Fr h₀ env.locals h (fun y => if y = x then some (.int v t) else m y) →
      News h₀ env.locals h [(I, it)] → (it.cls = .type "range_iterator") →
      wpAny (model prog w) A (execs body env) (UnrPost h₀ env.locals { s with heap := h, toks := tk } I it (fun m' _ => SF m' lst) Q') E { s with heap := h, toks := tk }) :
    wpAny (model prog w) A (pyIter (.ref r)) (fun it s₂ => LoopAtV prog w A h₀ env x body Q E it s₂) E s := by
  obtain ⟨n, hn⟩ := Int.eq_ofNat_of_zero_le hpos
  refine krs_iter (n := n) hh hr hsmall hn F N fun I _ => ?_
  refine krsLess (less := []) trivial n 0 (krsInv (fun _ m news => SF m lst ∧ news = []) (fun m news hI h tk F N => ?_) (fun i m news hi hI t h tk F N => ?_) n 0 m [] (Nat.zero_add n) ⟨hm, rfl⟩)
  · obtain ⟨h1, rfl⟩ := hI
    exact hnil m h tk h1 F N
  · obtain ⟨h1, rfl⟩ := hI
    have z := hstep Q I _ m _ ⟨i, by rw [hn]; exact_mod_cast hi, rfl⟩ h1 t h tk F N rfl
    refine wpAny_mono z (fun f s₂ x => ?_) fun _ _ e => e
    have less : ∀ {m' : Str → Option Value} {nw : List (Addr × Obj)} {h' : Heap} {it : Obj}, News h₀ env.locals h' ((I, it) :: nw) → News h₀ env.locals h' [(I, it)] := fun N p hp => N p (by
      rw [List.mem_singleton.mp hp]; exact List.mem_cons_self ..)
    cases f with
    | ret v => exact x
    | brk => exact x
    | next => obtain ⟨h', tk, m', news', e, F, N, o, r⟩ := x; exact ⟨h', tk, m', [], e, F, less (m' := m') N, fun _ hp => (nomatch hp), r, rfl⟩
    | cont => obtain ⟨h', tk, m', news', e, F, N, o, r⟩ := x; exact ⟨h', tk, m', [], e, F, less (m' := m') N, fun _ hp => (nomatch hp), r, rfl⟩
end
end Mine
end
section
open PySem PySem.W PyProof.Rows PySem.Calls PySem.Spec
set_option Elab.async false
set_option maxRecDepth 100000
namespace Mine
/-- the chunk at j, z octets long -/
def chunkB (ks : List Int) (z j : Nat) : List Int := (ks.drop (j * z)).take z
/-- the first i rows -/
def rowsB (ks : List Int) (z i : Nat) : List (List Int) := (List.range i).map fun j => b64 (chunkB ks z j) ++ [10]
/-- the number of rows -/
def cntB (n z : Nat) : Nat := if 0 < n then (n - 1) / z + 1 else 0
theorem rowsB_succ (ks : List Int) (z i : Nat) : rowsB ks z (i + 1) = rowsB ks z i ++ [b64 (chunkB ks z i) ++ [10]] := by
  unfold rowsB
  rw [List.range_succ, List.map_append]
  rfl
theorem cntB_le (n z : Nat) : cntB n z ≤ n := by
  unfold cntB
  split
  · have := Nat.div_le_self (n - 1) z
    omega
  · omega
theorem cntB_lt {n z i : Nat} (h : i < cntB n z) : i * z < n := by
  unfold cntB at h
  split at h
  · rename_i hn
    have h1 : i ≤ (n - 1) / z := by omega
    have h2 : i * z ≤ n - 1 := Nat.le_trans (Nat.mul_le_mul_right z h1) (Nat.div_mul_le_self _ _)
    omega
  · omega
theorem b64_len (ks : List Int) : (b64 ks).length ≤ 2 * ks.length + 3 := by
  have h := (brun_ok ks).len
  unfold b64 btail
  split
  · simp only [List.length_append, List.length_cons, List.length_nil]; omega
  · split
    · simp only [List.length_append, List.length_cons, List.length_nil]; omega
    · omega
theorem flat_len {B : Nat} : ∀ (l : List (List Int)), (∀ a ∈ l, a.length ≤ B) → l.flatten.length ≤ l.length * B
  | [], _ => by simp
  | a :: r, h => by
    rw [List.flatten_cons, List.length_append, List.length_cons, Nat.add_mul, Nat.one_mul, Nat.add_comm]
    exact Nat.add_le_add (flat_len r fun x hx => h x (.tail _ hx)) (h a (.head _))
theorem rowsB_len {ks : List Int} {z i B : Nat} (hz : 2 * z + 4 ≤ B) : (rowsB ks z i).flatten.length ≤ i * B := by
  refine Nat.le_trans (flat_len (B := B) _ fun a ha => ?_) (by unfold rowsB; rw [List.length_map, List.length_range]; exact Nat.le_refl _)
  unfold rowsB at ha
  obtain ⟨j, -, rfl⟩ := List.mem_map.mp ha
  have h1 := b64_len (chunkB ks z j)
  have h2 : (chunkB ks z j).length ≤ z := by unfold chunkB; rw [List.length_take]; exact Nat.min_le_left _ _
  rw [List.length_append, List.length_singleton]
  omega
section
variable {prog : Program} {w : World} {A : Around} {E : Value → Shared → Prop} {s : Shared} {value slice : PySem.Expr} {b : Array UInt8} {t : Tok} {h₀ : Heap} {L : Addr} {m : PySem.Str → Option Value} {news : List (Addr × Obj)} {Q : Value → Shared → Prop} {ks : List Int}
theorem clip_nn {n : Nat} {i : Int} (h : 0 ≤ i) : clipAt n i = min i.toNat n := by
  obtain ⟨k, rfl⟩ := Int.eq_ofNat_of_zero_le h
  exact clipAt_nat n k
theorem k_bcut {i j : Int} {ui uj : Tok} (hF : Fr h₀ L s.heap m) (hN : News h₀ L s.heap news) (hk : KBw.bInts b = ks) (h0 : 0 ≤ i) (h1 : i ≤ j) (hz : ks.length ≤ 16777216)
    (h : ∀ h' t' k c, Fr h₀ L h' m → News h₀ L h' news → KBw.bInts c = (ks.drop i.toNat).take (j.toNat - i.toNat) → Q (.bytes c t') { s with heap := h', toks := k })
    (hs : subscripted slice false (.bytes b t) (.ref s.heap.objs.size) = operate [.ref s.heap.objs.size, .bytes b t] (getItem (.bytes b t) (.ref s.heap.objs.size)) := by with_unfolding_all rfl)
    (ht : ∀ r, letTemporaryGo value (.bytes b t) r = pure () := by intro _; with_unfolding_all rfl) :
    wpAny (model prog w) A (subscriptTail value slice (.bytes b t) (.ref s.heap.objs.size)) Q E { s with heap := s.heap.push { cls := .type "slice", data := .fields #[.int i ui, .int j uj, .none] } } := by
  refine KBc.slice_K (lo := some i) (hi := some j) hF hN hk (.int _ _) (.int _ _) hz (fun h' t' k F' N' e => h h' t' k _ F' N' (e.trans ?_)) hs ht
  show (ks.drop (clipAt ks.length i)).take (clipAt ks.length j - clipAt ks.length i) = _
  rw [clip_nn h0, clip_nn (by omega : 0 ≤ j)]
  by_cases hi : i.toNat ≤ ks.length
  · rw [Nat.min_eq_left hi]
    by_cases hj : j.toNat ≤ ks.length
    · rw [Nat.min_eq_left hj]
    · rw [Nat.min_eq_right (by omega), List.take_of_length_le (by rw [List.length_drop]; omega), List.take_of_length_le (by rw [List.length_drop]; omega)]
  · have e1 : min i.toNat ks.length = ks.length := Nat.min_eq_right (by omega)
    have e2 : ks.drop i.toNat = [] := List.drop_eq_nil_of_le (by omega)
    have e3 : ks.drop ks.length = [] := List.drop_eq_nil_of_le (Nat.le_refl _)
    rw [e1, e2, e3]
    simp
end
section
variable {prog : Program} {w : World} {A : Around} {E : Value → Shared → Prop} {s : Shared} {h₀ : Heap} {env : Env} {x : Str} {body : List Stmt} {Q : Flow → Shared → Prop}
/-- the frame's names in _encode_base64's loop -/
structure EF (m : Str → Option Value) (p : Addr) (b : Array UInt8) (z : Nat) : Prop where
  s : ∃ t, m "s" = some (.bytes b t)
  size : ∃ t, m "maxbinsize" = some (.int (z : Int) t)
  pieces : m "pieces" = some (.ref p)
structure EN (ks : List Int) (b : Array UInt8) (z : Nat) (p : Addr) (i : Nat) (m : Str → Option Value) (news : List (Addr × Obj)) : Prop where
  f : EF m p b z
  led : ∃ its n, BysAre its.toList (rowsB ks z i) ∧ news = [(p, listOf its n)]
theorem size_z {n z : Nat} (h1 : 1 ≤ z) : Builtin.Range.rangeSize 0 (n : Int) (z : Int) = (cntB n z : Int) := by
  unfold Builtin.Range.rangeSize cntB
  have hz : (z : Int) > 0 := by omega
  rw [if_pos hz]
  by_cases h : 0 < n
  · rw [if_pos (by omega), if_pos h]
    push_cast
    have : (n : Int) - 0 - 1 = ((n - 1 : Nat) : Int) := by omega
    rw [this]
  · rw [if_neg (by omega), if_neg h]
    rfl
theorem small_z {n z : Nat} (hn : n ≤ 100000) (h1 : 1 ≤ z) (h2 : z ≤ 1000) : Builtin.Range.small 0 (n : Int) (z : Int) = true ∧ Builtin.Range.rangeSize 0 (n : Int) (z : Int) = (cntB n z : Int) := by
  refine ⟨?_, size_z h1⟩
  unfold Builtin.Range.small
  rw [size_z h1]
  have hz : (z : Int) > 0 := by omega
  have hc := cntB_le n z
  simp only [Builtin.Range.rangeFitsLong, Bool.and_eq_true, Bool.or_eq_true, decide_eq_true_eq, beq_iff_eq, if_pos hz]
  omega
theorem encGo {r p : Addr} {n0 : Nat} {t₀ u₀ v₀ : Tok} {b : Array UInt8} {ks : List Int} {z : Nat} {m₀ : Str → Option Value} {news : List (Addr × Obj)} (hh : A.handled = none) (hr : IsRange s.heap r 0 (ks.length : Int) (z : Int) t₀ u₀ v₀)
    (hl : ks.length ≤ 100000) (h1 : 1 ≤ z) (h2 : z ≤ 1000) (F : Fr h₀ env.locals s.heap m₀) (N : News h₀ env.locals s.heap news) (hp : (p, listOf #[] n0) ∈ news) (hm : EF m₀ p b z)
    (hnil : ∀ m its nn h tk, EF m p b z → BysAre its.toList (rowsB ks z (cntB ks.length z)) → Fr h₀ env.locals h m → News h₀ env.locals h [(p, listOf its nn)] → Q .next { s with heap := h, toks := tk })
    (hstep : ∀ (Q' : Flow → Shared → Prop) i its nn m t h tk I it, i * z < ks.length → EF m p b z → BysAre its.toList (rowsB ks z i) → its.size ≤ 100000 → it.cls = .type "range_iterator" → Fr h₀ env.locals h (fun y => if y = x then some (.int ((i * z : Nat) : Int) t) else m y) →
      News h₀ env.locals h [(I, it), (p, listOf its nn)] →
      wpAny (model prog w) A (execs body env) (UnrPost h₀ env.locals { s with heap := h, toks := tk } I it (fun m' n' => EN ks b z p (i + 1) m' n') Q') E { s with heap := h, toks := tk }) :
    wpAny (model prog w) A (pyIter (.ref r)) (fun it s₂ => LoopAtV prog w A h₀ env x body Q E it s₂) E s := by
  obtain ⟨hs, hc⟩ := small_z hl h1 h2
  have hsz : ∀ {its : Array Value} {i : Nat}, i ≤ ks.length → BysAre its.toList (rowsB ks z i) → its.size ≤ 100000 := fun {its i} hi h => by
    have e := h.length
    rw [Array.length_toList] at e
    unfold rowsB at e
    rw [List.length_map, List.length_range] at e
    omega
  refine krs_iter (n := cntB ks.length z) hh hr hs hc F N fun I _ => ?_
  refine krsLess (less := [(p, listOf #[] n0)]) ⟨hp, trivial⟩ _ 0 (krsInv (fun i m news => EN ks b z p i m news) (fun m news hI h tk F N => ?_) (fun i m news hi hI t h tk F N => ?_) _ 0 m₀ _ (Nat.zero_add _) ⟨hm, #[], n0, .nil, rfl⟩)
  · obtain ⟨f, its, nn, hin, rfl⟩ := hI
    exact hnil m its nn h tk f hin F N
  · obtain ⟨f, its, nn, hin, rfl⟩ := hI
    have hlt := cntB_lt hi
    have hle := cntB_le ks.length z
    have e : (0 : Int) + (i : Int) * (z : Int) = ((i * z : Nat) : Int) := by push_cast; omega
    rw [e] at F
    exact hstep Q i its nn m t h tk I _ hlt f hin (hsz (by omega) hin) rfl F N
end
section
variable {prog : Program} {w : World} {A : Around} {E : Value → Shared → Prop} {s : Shared} {h₀ : Heap} {L : Addr} {m : Str → Option Value} {Q : Value → Shared → Prop}
theorem ri_ne {h : Heap} {I p : Addr} {it : Obj} {its : Array Value} {n : Nat} (hI : h.get? I = some it) (hp : h.get? p = some (listOf its n)) (hc : it.cls = .type "range_iterator") : p ≠ I := fun e => by
  rw [e, hI] at hp
  rw [Option.some.inj hp] at hc
  exact absurd (Value.type.inj hc) (by decide)
theorem k_appP {I p : Addr} {it : Obj} {its : Array Value} {n : Nat} {x : Value} (F : Fr h₀ L s.heap m) (N : News h₀ L s.heap [(I, it), (p, listOf its n)]) (hc : it.cls = .type "range_iterator") (hsz : its.size ≤ sizeLine)
    (h : ∀ h', Fr h₀ L h' m → News h₀ L h' [(I, it), (p, listOf (its.push x) (n + 1))] → Q .none { s with heap := h' }) : wpAny (model prog w) A (call (.builtin "list.append") [.ref p, x]) Q E s := by
  have z := N (p, listOf its n) (.tail _ (.head _))
  have y := N (I, it) (.head _)
  exact append_at (hsz := hsz) z.1 fun h' hs ho' => h h' (F.change hs z.2.1 z.2.2) (news_set (pre := [(I, it)]) N (fun q hq => by rw [List.mem_singleton.mp hq]; exact Ne.symm (ri_ne y.1 z.1 hc)) (fun _ hp => nomatch hp) hs ho')
end
end Mine
end
section
open PySem PySem.W PyProof.Rows PySem.Calls PySem.Spec
set_option Elab.async false
set_option maxRecDepth 100000
set_option maxHeartbeats 8000000
namespace Mine
theorem k_b2a {w : World} {b : Array UInt8} {tb : Tok} {ks : List Int} {mg mb : Str → Option Value} {mean : ExcName → Option Value} {loose : List Str} {dp un : Nat} {gd : Option (List Code)} {outer : List Env} {base g₀ : Heap} {s : Shared} {L a : Addr} {m : Str → Option Value} {news : List (Addr × Obj)}
    {cn : Str} {cs : Scope} {ccd : Value} {Q E : Value → Shared → Prop} (B : Below (arnd dp un gd outer) base outer g₀) (F : Fr g₀ L s.heap m) (N : News g₀ L s.heap news) (X : (hd06.heap_39 w.params).In g₀) {p : Program} (T : Top p loose mean mg mb g₀) (hck : cs.kind = .function)
    (hk : KBw.bInts b = ks) (hl : ks.length ≤ 100000) (hdp : dp + 30 < recursionLimit) (hu : un + 200 < cLine)
    (h : ∀ h' tk t c, Fr g₀ L h' m → News g₀ L h' news → KBw.bInts c = b64 ks ++ [10] → Q (.bytes c t) { s with heap := h', toks := tk }) :
    wpAny (model PySem.Challenge.rw_ko0126_06.row.prog w) ((arnd dp un gd outer).deeper (envOf cn cs L a ccd)) (call (.ref 144) [.bytes b tb]) Q E s :=
  wpAny_call (b2a b tb ks mg mb mean loose (dp + 1) (un + 3) gd (envOf cn cs L a ccd :: outer) base s.heap s _ rfl (B.push F hck) (X.keeps F.keep) (T.keeps F.keep) hk hl
    (fun h' tk t c hkp hc => h h' tk t c (F.keptAll hkp) (N.grown hkp) hc) (by omega) (by omega))
local macro_rules | `(tactic| walk_at "subscriptTail") => `(tactic| (k_here; (with_reducible show wpAny _ _ (subscriptTail _ (Expr.Slice (some _) (some _) none _) (Value.bytes _ _) (Value.ref _)) _ _ _); (rename EF _ _ _ _ => zM); (rename News _ _ _ _ => zN); (rename Fr _ _ _ _ => zF); k_dflt (refine k_bcut zF zN (by assumption) (by omega) (by omega) (by omega) ?_); intro h' t' k' c' F' N' e'))
local macro_rules | `(tactic| walk_at "call builtin:list.append") => `(tactic| (k_here; (rename EF _ _ _ _ => zM); (rename News _ _ _ _ => zN); (rename Fr _ _ _ _ => zF); k_dflt (refine k_appP zF zN (by assumption) (by rw [sizeLine_eq]; omega) ?_); intro h' F' N'))
local macro_rules | `(tactic| walk_at "pyIter ref") => `(tactic| ((with_reducible show wpAny _ _ (pyIter (Value.ref _)) (fun it s₂ => LoopAtV _ _ _ _ _ _ _ _ _ it s₂) _ _); (refine hold ?_)))
local macro_rules | `(tactic| walk_at "call ref") => `(tactic| (k_here; (with_reducible show wpAny _ _ (call (Value.ref 144) _) _ _ _); refine hold ?_))
local macro_rules | `(tactic| walk_at "getMethod bytes") => `(tactic| (k_here; (with_reducible show wpAny _ _ (getMethod (Value.bytes _ _) (PySem.Str.ofString "join") _) _ _ _); k_dflt (refine k_getjoin ?_)))
local macro_rules | `(tactic| walk_at "eval Name") => `(tactic| (k_here; (with_reducible show wpAny _ _ (eval (Expr.Name _ _) _) _ _ _); (rename Fr _ _ _ _ => zF); (rename EF _ _ _ _ => zM); k_dflt (first | refine ld zF (by with_unfolding_all exact Exists.choose_spec zM.s) ?_ | refine ld zF (by with_unfolding_all exact Exists.choose_spec zM.size) ?_ | refine ld zF (by with_unfolding_all exact zM.pieces) ?_)))
theorem enc {w : World} (b : Array UInt8) (tb tm : Tok) (ks : List Int) (M : Int) (z : Nat) (mg mb : Str → Option Value) (mean : ExcName → Option Value) (loose : List Str)
   (dp un : Nat) (gd : Option (List Code)) (outer : List Env) (base g₀ : Heap) (s : Shared) (R : Result → Shared → Prop) (hg₀ : s.heap = g₀)
    (B : Below (arnd dp un gd outer) base outer g₀) (X : (hd06.heap_39 w.params).In g₀) {p : Program} (T : Top p loose mean mg mb g₀)
    (hk : KBw.bInts b = ks) (hl : ks.length ≤ 100000) (hM : 16 ≤ M ∧ M ≤ 76) (hz : M.fdiv 4 * 3 = (z : Int))
    (hret : ∀ h' tk t c, (∀ b o, g₀.get? b = some o → h'.get? b = some o) → KBw.bInts c = (rowsB ks z (cntB ks.length z)).flatten → R (.ok (.ret (.bytes c t))) { s with heap := h', toks := tk })
    (hdp : dp + 30 < recursionLimit) (hu : un + 200 < cLine) :
      codeAny (model PySem.Challenge.rw_ko0126_06.row.prog w) (arnd dp un gd outer) (.call (.ref 152) ⟨[.bytes b tb, .int M tm], []⟩) R s := by
  w_top off
  have hz1 : 1 ≤ z ∧ z ≤ 57 := by
    have e : M.fdiv 4 = M / 4 := Int.fdiv_eq_ediv_of_nonneg _ (by decide)
    rw [e] at hz
    omega
  subst hg₀
  revert X; k_fill; intro X
  refine' enter B X T ?k6 ?k7 ?k8 ?k9 ?kB ?_ ?c2 ?c3 ?c4 ?c5
  case k6 => k_is
  case k7 => k_is
  case k8 => ktr_room
  case k9 => exact BindsTo.of_defaults rfl (X 145 _ rfl) rfl rfl rfl
  case c5 => decide
  case kB => exact locs rfl
  case c2 => exact rfl
  case c3 => exact rfl
  case c4 => exact rfl
  k_whole
  intro L' h' F' N'
  obtain ⟨g₀, gens₀, drawn₀, toks₀, os₀⟩ := s
  dsimp only at *
  (try k_fold)
  k_steps
  rename IsRange _ _ _ _ _ _ _ _ => hR
  rename Fr _ _ _ _ => zF
  rename News _ _ _ _ => zN
  rw [hz] at hR
  delta Hold
  refine' encGo rfl hR hl hz1.1 (by omega) zF zN (by k_mem) ⟨⟨_, rfl⟩, ⟨_, by rw [← hz]; rfl⟩, rfl⟩ ?nil ?step
  case nil =>
    intro m its nn h tk hf hin F N
    clear zF zN
    dsimp only
    k_steps
    rename Fr _ _ _ _ => zF
    rename News _ _ _ _ => zN
    have hle := cntB_le ks.length z
    have hfl := rowsB_len (ks := ks) (z := z) (i := cntB ks.length z) (B := 118) (by omega)
    refine k_bjoin (zN.isList (List.mem_singleton.mpr rfl)) hin (by omega) ?_
    intro c9 t9 k9 hc9
    dsimp only
    k_steps
    exact hret _ _ _ _ zF.keep hc9
  case step =>
    intro Q' i its nn m t h tk I it hlt hf hin hsz hit F N
    clear zF zN
    dsimp only
    have hchunk : ∀ d : Nat, d = i * z → (ks.drop (d : Int).toNat).take (((d : Int) + (z : Int)).toNat - (d : Int).toNat) = chunkB ks z i := by
      intro d hd
      unfold chunkB
      rw [← hd]
      congr 1
      omega
    generalize hd : i * z = d at F hlt
    k_steps
    rename Fr _ _ _ _ => F6
    rename News _ _ _ _ => N6
    rename KBw.bInts _ = List.take _ _ => hc
    rw [hchunk d hd.symm] at hc
    have hcl : (chunkB ks z i).length ≤ z := by unfold chunkB; rw [List.length_take]; exact Nat.min_le_left _ _
    delta Hold
    refine k_b2a B F6 N6 X T rfl hc (by omega) (by omega) (by omega) ?_
    intro h7 tk7 t7 c7 F7 N7 hc7
    clear F6 N6
    dsimp only
    k_steps
    rename EF _ _ _ _ => zM
    rename Fr _ _ _ _ => zF
    rename News _ _ _ _ => zN
    have y1 := zN (_, _) (.head _)
    have y2 := zN (_, _) (.tail _ (.head _))
    refine ⟨_, _, _, [(_, listOf _ _)], rfl, zF, zN, fun q hq => by rw [List.mem_singleton.mp hq]; exact ri_ne y1.1 y2.1 (by assumption), ⟨⟨by with_unfolding_all exact zM.s, by with_unfolding_all exact zM.size, by with_unfolding_all exact zM.pieces⟩, _, _, ?_, rfl⟩⟩
    rw [rowsB_succ, Array.toList_push]
    exact BysAre.snoc hc7 hin
end Mine
end
section
open PySem PySem.W PyProof.Rows PySem.Calls PySem.Spec
set_option Elab.async false
set_option maxRecDepth 100000
namespace Mine
section
variable {prog : Program} {w : World} {A : Around} {E : Value → Shared → Prop} {s : Shared} {R : Result → Shared → Prop}
theorem compTurn2_outer (elt t0 i0 t1 i1 : Expr) (scope : Scope) (pos : Pos) (it acc : Value) (env : Env) :
    compTurn (.ListComp elt [⟨t0, i0, [], 0⟩, ⟨t1, i1, [], 0⟩] scope pos) 0 it acc env = (standAt i0.pos >>= fun _ => pyNext it >>= fun r => match r with
      | none => pure (.done .next)
      | some v => letOwnedTupleGo t0 it v >>= fun _ => assign t0 env v >>= fun _ =>
        (eval i1 env >>= fun x => standAt i1.pos >>= fun _ => foldedSetIterable i1 env x >>= fun x => holding [x] (pyIter x) >>= fun it1 => runOwn (.compStart (.ListComp elt [⟨t0, i0, [], 0⟩, ⟨t1, i1, [], 0⟩] scope pos) 1 it1 acc env) env >>= fun _ =>
          again (.compLoop (.ListComp elt [⟨t0, i0, [], 0⟩, ⟨t1, i1, [], 0⟩] scope pos) 0 it acc env))) := by rfl
theorem compTurn2_inner (elt t0 i0 t1 i1 : Expr) (scope : Scope) (pos : Pos) (it acc : Value) (env : Env) :
    compTurn (.ListComp elt [⟨t0, i0, [], 0⟩, ⟨t1, i1, [], 0⟩] scope pos) 1 it acc env = (standAt i1.pos >>= fun _ => pyNext it >>= fun r => match r with
      | none => pure (.done .next)
      | some v => letOwnedTupleGo t1 it v >>= fun _ => assign t1 env v >>= fun _ =>
        (eval elt env >>= fun x => call (.builtin "list.append") [acc, x] >>= fun _ => pure ()) >>= fun _ =>
          again (.compLoop (.ListComp elt [⟨t0, i0, [], 0⟩, ⟨t1, i1, [], 0⟩] scope pos) 1 it acc env)) := by rfl
theorem loop2_outer {elt t0 i0 t1 i1 : Expr} {scope : Scope} {pos : Pos} {it acc : Value} {env : Env} (I : Nat → Shared → Prop)
    (turn : ∀ n s, I n s → wpAny (model prog w) A (pyNext it) (fun r s₁ => match r with
      | none => R (.ok .next) s₁
      | some v => wpAny (model prog w) A (assign t0 env v) (fun _ s₂ => wpAny (model prog w) A (eval i1 env) (fun x s₃ =>
          wpAny (model prog w) A (pyIter x) (fun it1 s₄ => wpAny (model prog w) A (runOwn (.compStart (.ListComp elt [⟨t0, i0, [], 0⟩, ⟨t1, i1, [], 0⟩] scope pos) 1 it1 acc env) env) (fun _ s₅ => ∃ m, m < n ∧ I m s₅)
            (notedBy (model prog w) A env fun e s' => R (.error e) s') s₄) (notedBy (model prog w) A env fun e s' => R (.error e) s') s₃)
          (notedBy (model prog w) A env fun e s' => R (.error e) s') s₂) (notedBy (model prog w) A env fun e s' => R (.error e) s') s₁) (notedBy (model prog w) A env fun e s' => R (.error e) s') s)
    (n : Nat) (h : I n s) (ht : ∀ v, letOwnedTupleGo t0 it v = pure () := by intro _; rfl) (hf : ∀ x, foldedSetIterable i1 env x = pure x := by intro _; rfl) :
    codeAny (model prog w) A (.compLoop (.ListComp elt [⟨t0, i0, [], 0⟩, ⟨t1, i1, [], 0⟩] scope pos) 0 it acc env) R s := by
  refine codeAny_loop rfl I (fun n s hI => ?_) n h
  show wpAny _ _ ((compTurn (.ListComp elt [⟨t0, i0, [], 0⟩, ⟨t1, i1, [], 0⟩] scope pos) 0 it acc env).onRaise (fun x => do noteFrame x env; theTreesLotGoes x)) _ _ s
  refine wpAny_noted ?_
  rw [compTurn2_outer]
  refine wpAny_bind (wpAny_standAt (wpAny_bind (wpAny_mono (turn n s hI) (fun r s₁ h₁ => ?_) fun _ _ h' => h')))
  cases r with
  | none => exact wpAny_pure h₁
  | some v =>
    refine wpAny_bind (wpAny_of_eq (ht v) ?_)
    refine wpAny_bind (wpAny_mono h₁ (fun _ s₂ h₂ => ?_) fun _ _ h' => h')
    refine wpAny_bind (wpAny_mono h₂ (fun x s₃ h₃ => ?_) fun _ _ h' => h')
    refine wpAny_bind (wpAny_standAt (wpAny_bind (wpAny_of_eq (hf x) ?_)))
    refine wpAny_bind (wpAny_holding (wpAny_mono h₃ (fun it1 s₄ h₄ => ?_) fun _ _ h' => h'))
    exact wpAny_bind (wpAny_mono h₄ (fun _ s₅ h₅ => wpAny_pure ⟨rfl, h₅⟩) fun _ _ h' => h')
theorem loop2_inner {elt t0 i0 t1 i1 : Expr} {scope : Scope} {pos : Pos} {it acc : Value} {env : Env} (I : Nat → Shared → Prop)
    (turn : ∀ n s, I n s → wpAny (model prog w) A (pyNext it) (fun r s₁ => match r with
      | none => R (.ok .next) s₁
      | some v => wpAny (model prog w) A (assign t1 env v) (fun _ s₂ => wpAny (model prog w) A (eval elt env) (fun x s₃ =>
          wpAny (model prog w) A (call (.builtin "list.append") [acc, x]) (fun _ s₄ => ∃ m, m < n ∧ I m s₄) (notedBy (model prog w) A env fun e s' => R (.error e) s') s₃)
          (notedBy (model prog w) A env fun e s' => R (.error e) s') s₂) (notedBy (model prog w) A env fun e s' => R (.error e) s') s₁) (notedBy (model prog w) A env fun e s' => R (.error e) s') s)
    (n : Nat) (h : I n s) (ht : ∀ v, letOwnedTupleGo t1 it v = pure () := by intro _; rfl) :
    codeAny (model prog w) A (.compLoop (.ListComp elt [⟨t0, i0, [], 0⟩, ⟨t1, i1, [], 0⟩] scope pos) 1 it acc env) R s := by
  refine codeAny_loop rfl I (fun n s hI => ?_) n h
  show wpAny _ _ ((compTurn (.ListComp elt [⟨t0, i0, [], 0⟩, ⟨t1, i1, [], 0⟩] scope pos) 1 it acc env).onRaise (fun x => do noteFrame x env; theTreesLotGoes x)) _ _ s
  refine wpAny_noted ?_
  rw [compTurn2_inner]
  refine wpAny_bind (wpAny_standAt (wpAny_bind (wpAny_mono (turn n s hI) (fun r s₁ h₁ => ?_) fun _ _ h' => h')))
  cases r with
  | none => exact wpAny_pure h₁
  | some v =>
    refine wpAny_bind (wpAny_of_eq (ht v) ?_)
    exact wpAny_bind (wpAny_mono h₁ (fun _ s₂ h₂ => wpAny_bind (wpAny_bind (wpAny_mono h₂ (fun x s₃ h₃ => wpAny_bind (wpAny_mono h₃
      (fun _ s₄ h₄ => wpAny_pure (wpAny_pure ⟨rfl, h₄⟩)) fun _ _ h' => h')) fun _ _ h' => h'))) fun _ _ h' => h')
theorem start2_inner {elt t0 i0 t1 i1 : Expr} {scope : Scope} {pos : Pos} {it acc : Value} {env : Env}
    (h0 : codeAny (model prog w) A (.compLoop (.ListComp elt [⟨t0, i0, [], 0⟩, ⟨t1, i1, [], 0⟩] scope pos) 1 it acc env) R s)
    (h : wpAny (model prog w) A (pyIter it) (fun it' s' => codeAny (model prog w) A (.compLoop (.ListComp elt [⟨t0, i0, [], 0⟩, ⟨t1, i1, [], 0⟩] scope pos) 1 it' acc env) R s')
      (notedBy (model prog w) A env fun x s' => R (.error x) s') s) :
    codeAny (model prog w) A (.compStart (.ListComp elt [⟨t0, i0, [], 0⟩, ⟨t1, i1, [], 0⟩] scope pos) 1 it acc env) R s := by
  refine codeAny_of_tree ?_
  show wpAny _ _ ((compStart (.ListComp elt [⟨t0, i0, [], 0⟩, ⟨t1, i1, [], 0⟩] scope pos) 1 it acc env).onRaise (fun x => do noteFrame x env; standAt theWindowsPlace)) _ _ s
  refine wpAny_notedAt ?_
  unfold compStart
  show wpAny _ _ (ask >>= _) _ _ s
  refine wpAny_bind (wpAny_askSetting (wpAny_ite ?_))
  split
  · first
      | exact wpAny_bind (wpAny_pure (wpAny_pure (And.intro rfl h0)))
      | exact wpAny_pure (And.intro rfl h0)
  · first
      | exact wpAny_bind (wpAny_rule (wpAny_bind (wpAny_standAt (wpAny_bind (wpAny_mono h (fun it' s' h' => wpAny_pure (And.intro rfl h')) fun _ _ x => x)))))
      | (refine wpAny_bind (wpAny_rule ?_); show wpAny _ _ (standAt i1.pos >>= _) _ _ s; exact wpAny_bind (wpAny_standAt (wpAny_bind (wpAny_mono h (fun it' s' h' => wpAny_pure (And.intro rfl h')) fun _ _ x => x))))
end
end Mine
end
section
open PySem PySem.W PyProof.Rows PySem.Calls PySem.Spec
set_option Elab.async false
set_option maxRecDepth 100000
namespace Mine
/-- ints that are octets, n at most -/
structure Oct (ys : List Value) (n : Nat) : Prop where
  ex : ∃ ns, IntsAre ys ns ∧ (∀ k ∈ ns, 0 ≤ k ∧ k < 256) ∧ ns.length ≤ n
theorem Oct.snoc {ys : List Value} {n : Nat} {k : Int} {t : Tok} (h : Oct ys n) (hk : 0 ≤ k ∧ k < 256) : Oct (ys ++ [.int k t]) (n + 1) := by
  obtain ⟨ns, h1, h2, h3⟩ := h
  exact ⟨ns ++ [k], h1.append (.cons _ _ .nil), in_snoc h2 hk, by rw [List.length_append, List.length_singleton]; omega⟩
/-- the end of an expression in a comprehension: an octet -/
def OctEnd (h₀ : Heap) (L : Addr) (m : Str → Option Value) (s₁ : Shared) (led : List (Addr × Obj)) (y : Value) (s₂ : Shared) : Prop :=
  ∃ h' tk n t, y = .int n t ∧ 0 ≤ n ∧ n < 256 ∧ s₂ = { s₁ with heap := h', toks := tk } ∧ Fr h₀ L h' m ∧ News h₀ L h' led
/-- .. a range from nought, k long -/
def RanEnd (h₀ : Heap) (L : Addr) (m : Str → Option Value) (s₁ : Shared) (led : List (Addr × Obj)) (y : Value) (s₂ : Shared) : Prop :=
  ∃ h' tk r b t u v, y = .ref r ∧ IsRange h' r 0 b 1 t u v ∧ 0 ≤ b ∧ b ≤ 31 ∧ s₂ = { s₁ with heap := h', toks := tk } ∧ Fr h₀ L h' m ∧ News h₀ L h' led
section
variable {prog : Program} {w : World} {A : Around} {E : Value → Shared → Prop} {s : Shared} {h₀ : Heap} {L : Addr} {m : Str → Option Value} {env : Env} {elt i1 iter : Expr} {x j : Str} {px pj pos : Pos} {scope : Scope} {cl : List (Str × Addr)} {news : List (Addr × Obj)}
theorem news_of {h : Heap} {p : Addr × Obj} {l : List (Addr × Obj)} (hp : h.get? p.1 = some p.2 ∧ p.1 ≠ L ∧ h₀.get? p.1 = none) (N : News h₀ L h l) : News h₀ L h (p :: l) := fun q hq => by
  rcases List.mem_cons.mp hq with rfl | hq
  · exact hp
  · exact N q hq
/-- the inner loop over a range -/
theorem inner2 {R' : Result → Shared → Prop} {a : Int} {ta : Tok} {n0 kk : Nat} {I I1 C D : Addr} {oI oC o1 : Obj} {m₂ : Str → Option Value} {ys : List Value}
    (hh : A.handled = none) (hkk : kk ≤ 31) (hn0 : n0 ≤ 10000) (hxj : x ≠ j) (hj : scope.names.lookup j = some .local) (hkind : scope.kind = .function)
    (h1 : s.heap.get? I1 = some o1) (hst : IsRangeIter s.heap I1 (0 + ((0 : Nat) : Int) * 1) ((kk : Int) - ((0 : Nat) : Int)) 1)
    (F : Fr h₀ L s.heap m) (N : News h₀ L s.heap ((I1, o1) :: (I, oI) :: (C, oC) :: (D, LCg.lst ys) :: news)) (hC : LCg.NsObj oC m₂) (hx : m₂ x = some (.int a ta)) (hy : Oct ys n0)
    (n1 : I1 ≠ I ∧ I1 ≠ C ∧ I1 ≠ D ∧ I ≠ C ∧ I ≠ D ∧ C ≠ D) (n2 : ∀ p ∈ news, p.1 ≠ I1 ∧ p.1 ≠ C ∧ p.1 ≠ D)
    (turn : ∀ b tb oC o1 m₂ ys h tk (E' : Value → Shared → Prop), LCg.NsObj oC m₂ → m₂ x = some (.int a ta) → m₂ j = some (.int b tb) → 0 ≤ b → b < 31 → Fr h₀ L h m → News h₀ L h ((I1, o1) :: (I, oI) :: (C, oC) :: (D, LCg.lst ys) :: news) →
      wpAny (model prog w) A (eval elt (compEnvC scope cl C env)) (OctEnd h₀ L m { s with heap := h, toks := tk } ((I1, o1) :: (I, oI) :: (C, oC) :: (D, LCg.lst ys) :: news)) E' { s with heap := h, toks := tk })
    (hQ : ∀ h tk oC m₂ ys, LCg.NsObj oC m₂ → Oct ys (n0 + 31) → Fr h₀ L h m → News h₀ L h ((I, oI) :: (C, oC) :: (D, LCg.lst ys) :: news) → R' (.ok .next) { s with heap := h, toks := tk }) :
    codeAny (model prog w) A (.compLoop (.ListComp elt [⟨.Name x px, iter, [], 0⟩, ⟨.Name j pj, i1, [], 0⟩] scope pos) 1 (.ref I1) (.ref D) (compEnvC scope cl C env)) R' s := by
  have W := LCg.range_walks (prog := prog) (w := w) (I := I1) hh 0 kk
  refine loop2_inner (fun n s' => ∃ h' tk i ys oC o1 m₂, s' = { s with heap := h', toks := tk } ∧ i ≤ kk ∧ n = kk + 1 - i ∧ IsRangeIter h' I1 (0 + (i : Nat) * 1) ((kk : Int) - (i : Nat)) 1 ∧ h'.get? I1 = some o1 ∧ Fr h₀ L h' m ∧ News h₀ L h' ((I1, o1) :: (I, oI) :: (C, oC) :: (D, LCg.lst ys) :: news) ∧ LCg.NsObj oC m₂ ∧ m₂ x = some (.int a ta) ∧ Oct ys (n0 + i)) ?_ (kk + 1)
    ⟨s.heap, s.toks, 0, ys, oC, o1, m₂, rfl, Nat.zero_le _, rfl, hst, h1, F, N, hC, hx, hy⟩
  rintro n s' ⟨h', tk, i, ys, oC, o1, m₂, rfl, hi, rfl, hst', h1', F', N', hC', hx', hy'⟩
  have zI := N' (I, oI) (.tail _ (.head _))
  have zC := N' (C, oC) (.tail _ (.tail _ (.head _)))
  have zD := N' (D, LCg.lst ys) (.tail _ (.tail _ (.tail _ (.head _))))
  have z1 := N' (I1, o1) (.head _)
  by_cases hlt : i < kk
  · refine W.item i _ _ _ hlt hst' fun v h₂ tk₂ hPv hst₂ hk₂ => ?_
    obtain ⟨tb, rfl⟩ := hPv
    have hk' : ∀ b o, b ≠ I1 → h'.get? b = some o → h₂.get? b = some o := fun b o hb e => hk₂ b o (by simpa using hb) e
    have hn₂ : h₂.Ns C m₂ := hC'.ns (hk' _ _ (Ne.symm n1.2.1) zC.1)
    refine wpAny_assign_Name (wpAny_storeName_local (lookup_relabel_local hj) hn₂ (fun h₃ hn₃ hs₃ => ?_) (by simp [compEnvC, relabel, hkind]))
    have hst₃ : IsRangeIter h₃ I1 (0 + ((i + 1 : Nat) : Int) * 1) ((kk : Int) - ((i + 1 : Nat) : Int)) 1 := W.frame _ _ _ hst₂ fun b hb o e => hs₃.extBut b o (fun q => n1.2.1 ((List.mem_singleton.mp hb).symm.trans q)) e
    obtain ⟨oC₃, heC, hoC⟩ := LCg.ns_obj hn₃
    have F₃ : Fr h₀ L h₃ m := (LCg.fr_but F' hk₂ (Ne.symm z1.2.1) z1.2.2).change hs₃ zC.2.1 zC.2.2
    have up : ∀ b o, b ≠ I1 → b ≠ C → h'.get? b = some o → h₃.get? b = some o := fun b o hb hc e => hs₃.extBut b o hc (hk' b o hb e)
    have N₃ : News h₀ L h₃ ((I1, ({ cls := .type "range_iterator", dict := none, data := .fields #[rawInt (0 + ((i + 1 : Nat) : Int) * 1), rawInt ((kk : Int) - ((i + 1 : Nat) : Int)), rawInt 1], slots := #[] } : Obj)) :: (I, oI) :: (C, oC₃) :: (D, LCg.lst ys) :: news) := by
      refine news_of ⟨hst₃, z1.2⟩ (news_of ⟨up _ _ (Ne.symm n1.1) n1.2.2.2.1 zI.1, zI.2⟩ (news_of ⟨heC, zC.2⟩ (news_of ⟨up _ _ (Ne.symm n1.2.2.1) (Ne.symm n1.2.2.2.2.2) zD.1, zD.2⟩ fun p hp => ?_)))
      have zp := N' p (.tail _ (.tail _ (.tail _ (.tail _ hp))))
      exact ⟨up _ _ (n2 p hp).1 (n2 p hp).2.1 zp.1, zp.2⟩
    refine wpAny_mono (turn _ tb oC₃ _ _ ys h₃ _ _ hoC (by rw [if_neg hxj]; exact hx') (if_pos rfl) (by omega) (by omega) F₃ N₃) (fun y s₄ hy₄ => ?_) fun _ _ e => e
    obtain ⟨h₄, tk₄, n, t, rfl, hn0', hn1', rfl, F₄, N₄⟩ := hy₄
    have wI := N₄ (I, oI) (.tail _ (.head _))
    have wC := N₄ (C, oC₃) (.tail _ (.tail _ (.head _)))
    have wD := N₄ (D, LCg.lst ys) (.tail _ (.tail _ (.tail _ (.head _))))
    have w1 := N₄ (I1, _) (.head _)
    obtain ⟨ns, g1, g2, g3⟩ := hy'.ex
    refine append_at (hsz := by rw [List.size_toArray, g1.length, sizeLine_eq]; omega) wD.1 fun h₅ hs₅ hD₅ => ?_
    have up5 : ∀ b o, b ≠ D → h₄.get? b = some o → h₅.get? b = some o := fun b o hb e => hs₅.extBut b o hb e
    refine ⟨kk + 1 - (i + 1), by omega, h₅, tk₄, i + 1, ys ++ [.int n t], oC₃, _, _, rfl, hlt, rfl, up5 _ _ n1.2.2.1 w1.1, up5 _ _ n1.2.2.1 w1.1, F₄.change hs₅ wD.2.1 wD.2.2, ?_, hoC, by rw [if_neg hxj]; exact hx', ?_⟩
    · refine news_of ⟨up5 _ _ n1.2.2.1 w1.1, w1.2⟩ (news_of ⟨up5 _ _ n1.2.2.2.2.1 wI.1, wI.2⟩ (news_of ⟨up5 _ _ n1.2.2.2.2.2 wC.1, wC.2⟩ (news_of ⟨hD₅.trans (congrArg some (LCg.lst_snoc ys _)), wD.2⟩ fun p hp => ?_)))
      have zp := N₄ p (.tail _ (.tail _ (.tail _ (.tail _ hp))))
      exact ⟨up5 _ _ (n2 p hp).2.2 zp.1, zp.2⟩
    · exact hy'.snoc ⟨hn0', hn1'⟩
  · obtain rfl : i = kk := Nat.le_antisymm hi (Nat.not_lt.mp hlt)
    refine W.done _ _ _ hst' fun h₂ tk₂ hk₂ => ?_
    have hk' : ∀ b o, b ≠ I1 → h'.get? b = some o → h₂.get? b = some o := fun b o hb e => hk₂ b o (by simpa using hb) e
    obtain ⟨ns, g1, g2, g3⟩ := hy'.ex
    refine hQ h₂ tk₂ oC m₂ ys hC' ⟨ns, g1, g2, by omega⟩ (LCg.fr_but F' hk₂ (Ne.symm z1.2.1) z1.2.2) (fun p hp => ?_)
    refine ⟨hk' _ _ ?_ (N' p (.tail _ hp)).1, (N' p (.tail _ hp)).2⟩
    rcases List.mem_cons.mp hp with rfl | hp
    · exact Ne.symm n1.1
    · rcases List.mem_cons.mp hp with rfl | hp
      · exact Ne.symm n1.2.1
      · rcases List.mem_cons.mp hp with rfl | hp
        · exact Ne.symm n1.2.2.1
        · exact (n2 p hp).1
theorem ListComp_2 {ax : Addr} {vs : List Value} {ns : List Int} {Q : Value → Shared → Prop} (F : Fr h₀ L s.heap m) (N : News h₀ L s.heap news) (hh : A.handled = none) (hl : h₀.IsList ax vs.toArray) (hi : IntsAre vs ns) (hlen : ns.length ≤ 63)
    (hclos : closureFor scope env = pure cl) (hcell : ∀ y ∈ scope.names, y.2 ≠ .cell) (hkind : scope.kind = .function)
    (hnames : ∀ y ∈ scope.names, y.2 = .local → scope.names.lookup y.1 = some .local) (hx : scope.names.lookup x = some .local) (hj : scope.names.lookup j = some .local) (hxj : x ≠ j)
    (hit : ∀ Q' : Value → Shared → Prop, Q' (.ref ax) s → wpAny (model prog w) A (eval iter env) Q' E s)
    (turn1 : ∀ a ta I oI C oC D m₂ ys h tk (E' : Value → Shared → Prop), LCg.NsObj oC m₂ → m₂ x = some (.int a ta) → Fr h₀ L h m → News h₀ L h ((I, oI) :: (C, oC) :: (D, LCg.lst ys) :: news) →
      wpAny (model prog w) A (eval i1 (compEnvC scope cl C env)) (RanEnd h₀ L m { s with heap := h, toks := tk } ((I, oI) :: (C, oC) :: (D, LCg.lst ys) :: news)) E' { s with heap := h, toks := tk })
    (turn2 : ∀ a ta b tb I1 o1 I oI C oC D m₂ ys h tk (E' : Value → Shared → Prop), LCg.NsObj oC m₂ → m₂ x = some (.int a ta) → m₂ j = some (.int b tb) → 0 ≤ b → b < 31 → Fr h₀ L h m → News h₀ L h ((I1, o1) :: (I, oI) :: (C, oC) :: (D, LCg.lst ys) :: news) →
      wpAny (model prog w) A (eval elt (compEnvC scope cl C env)) (OctEnd h₀ L m { s with heap := h, toks := tk } ((I1, o1) :: (I, oI) :: (C, oC) :: (D, LCg.lst ys) :: news)) E' { s with heap := h, toks := tk })
    (fin : ∀ D h tk ys, Oct ys 1953 → Fr h₀ L h m → News h₀ L h ((D, LCg.lst ys) :: news) → (∀ p ∈ news, p.1 ≠ D) → Q (.ref D) { s with heap := h, toks := tk })
    (hs : ∀ x, foldedSetIterable iter env x = pure x := by intro _; rfl) (hf : ∀ C x, foldedSetIterable i1 (compEnvC scope cl C env) x = pure x := by intro _ _; rfl) :
    wpAny (model prog w) A (eval (.ListComp elt [⟨.Name x px, iter, [], 0⟩, ⟨.Name j pj, i1, [], 0⟩] scope pos) env) Q E s := by
  rw [eval_ListComp]
  refine wpAny_comprehension_free (use := none) rfl hs hclos hkind hnames (hit _ ?_)
  have hl' : s.heap.IsList ax vs.toArray := by obtain ⟨o, e, r⟩ := hl; exact ⟨o, F.keep _ _ e, r⟩
  have hlt : ax < s.heap.objs.size := by obtain ⟨_, e, _⟩ := hl'; exact Heap.lt_size e
  refine wpAny_pyIter_list hl' ?_
  have up0 : ∀ b o, s.heap.get? b = some o → (s.heap.push { cls := .type "list_iterator", data := .fields #[.ref ax, .int 0 0] }).get? b = some o := fun b o e => Heap.get?_push_of_some _ e
  have hstI : (s.heap.push { cls := .type "list_iterator", data := .fields #[.ref ax, .int 0 0] }).IsListIter s.heap.objs.size ax 0 := ⟨_, Heap.get?_push_size _ rfl, rfl, rfl⟩
  have hlI := hl'.push { cls := .type "list_iterator", data := .fields #[.ref ax, .int 0 0] }
  have FI := F.keeps up0
  have NI := N.grown up0
  have hI₀ := next_is_new F
  have hIL : L ≠ s.heap.objs.size := Nat.ne_of_lt F.ns.lt
  have hIax : ax ≠ s.heap.objs.size := Nat.ne_of_lt hlt
  have offI : ∀ p ∈ news, p.1 ≠ s.heap.objs.size := fun p hp => Nat.ne_of_lt (Heap.lt_size (N p hp).1)
  have hIlt : s.heap.objs.size < (s.heap.push { cls := .type "list_iterator", data := .fields #[.ref ax, .int 0 0] }).objs.size := by rw [Heap.size_push]; exact Nat.lt_succ_self _
  have haxlt : ax < (s.heap.push { cls := .type "list_iterator", data := .fields #[.ref ax, .int 0 0] }).objs.size := Nat.lt_trans hlt hIlt
  revert up0 hstI hlI FI NI hI₀ hIL hIax offI hIlt haxlt
  generalize s.heap.objs.size = I
  generalize s.heap.push { cls := .type "list_iterator", data := .fields #[.ref ax, .int 0 0] } = H1
  intro up0 hstI hlI FI NI hI₀ hIL hIax offI hIlt haxlt
  refine wpAny_newObj_type (wpAny_newFunctionEnv hcell (by intro y hy; simp at hy) (fun h₁ hns₁ hsb₁ => ?_) hkind)
  dsimp only at hns₁ hsb₁ ⊢
  generalize hH2 : H1.push { cls := .type "list", dict := none, data := .seq ([] : List Value).toArray } = H2 at hns₁ hsb₁ ⊢
  have hC : H2.objs.size = H1.objs.size + 1 := by rw [← hH2, Heap.size_push]
  have hDC : H1.objs.size ≠ H2.objs.size := by rw [hC]; exact Nat.ne_of_lt (Nat.lt_succ_self _)
  have below : ∀ b, b < H1.objs.size → b ≠ H2.objs.size ∧ b ≠ H1.objs.size := fun b hb => ⟨by rw [hC]; exact Nat.ne_of_lt (Nat.lt_succ_of_lt hb), Nat.ne_of_lt hb⟩
  have old : ∀ b o, H1.get? b = some o → h₁.get? b = some o := fun b o e => hsb₁.extBut b o (below b (Heap.lt_size e)).1 (Heap.get?_push_of_some _ (hH2 ▸ Heap.get?_push_of_some _ e))
  have hacc : h₁.get? H1.objs.size = some (LCg.lst []) := hsb₁.extBut _ _ hDC (Heap.get?_push_of_some _ (hH2 ▸ Heap.get?_push_size _ rfl))
  have fresh : ∀ a, H1.objs.size ≤ a → H1.get? a = none := fun a ha => by
    cases e : H1.get? a with
    | none => rfl
    | some o' => exact absurd (Heap.lt_size e) (Nat.not_lt.mpr ha)
  have fresh₀ : ∀ a, H1.objs.size ≤ a → h₀.get? a = none := fun a ha => by
    cases e : h₀.get? a with
    | none => rfl
    | some o' => have := FI.keep a o' e; rw [fresh a ha] at this; cases this
  have hD₀ : h₀.get? H1.objs.size = none := fresh₀ _ (Nat.le_refl _)
  have hC₀ : h₀.get? H2.objs.size = none := fresh₀ _ (by rw [hC]; exact Nat.le_succ _)
  have hLlt : L < H1.objs.size := FI.ns.lt
  have hDL : H1.objs.size ≠ L := Ne.symm (below L hLlt).2
  have hCL : H2.objs.size ≠ L := Ne.symm (below L hLlt).1
  have hIC : I ≠ H2.objs.size := (below I hIlt).1
  have hID : I ≠ H1.objs.size := (below I hIlt).2
  have haxC : ax ≠ H2.objs.size := (below ax haxlt).1
  have haxD : ax ≠ H1.objs.size := (below ax haxlt).2
  have offC : ∀ p ∈ news, p.1 ≠ H2.objs.size := fun p hp => (below _ (Heap.lt_size (NI p hp).1)).1
  have offD : ∀ p ∈ news, p.1 ≠ H1.objs.size := fun p hp => (below _ (Heap.lt_size (NI p hp).1)).2
  obtain ⟨oC₁, heC₁, hoC₁⟩ := LCg.ns_obj hns₁
  have W := Walks.list (prog := prog) (w := w) hh I ax hIax vs.toArray
  have hst₁ : h₁.IsListIter I ax 0 ∧ h₁.IsList ax vs.toArray := W.frame _ _ _ ⟨hstI, hlI⟩ fun b _ o e => old b o e
  have N₁ : News h₀ L h₁ ((H2.objs.size, oC₁) :: (H1.objs.size, LCg.lst []) :: news) := news_of ⟨heC₁, hCL, hC₀⟩ (news_of ⟨hacc, hDL, hD₀⟩ fun p hp => ⟨old _ _ (NI p hp).1, (NI p hp).2⟩)
  have F₁ : Fr h₀ L h₁ m := FI.keeps old
  revert N₁ F₁ hst₁ hoC₁ offC offD haxC haxD hIC hID hCL hDL hC₀ hD₀ hDC hacc hns₁ heC₁
  generalize H1.objs.size = D
  generalize H2.objs.size = C
  intro hns₁ hDC hacc hD₀ hC₀ hDL hCL hIC hID haxC haxD offC offD heC₁ hoC₁ hst₁ N₁ F₁
  have loop : ∀ s₃ : Shared, (∃ tk, s₃ = { s with heap := h₁, toks := tk }) →
      codeAny (model prog w) A (.compLoop (.ListComp elt [⟨.Name x px, iter, [], 0⟩, ⟨.Name j pj, i1, [], 0⟩] scope pos) 0 (.ref I) (.ref D) (compEnvC scope cl C env))
        (compPost (model prog w) A E none Q (.ref D) C) s₃ := by
    rintro s₃ ⟨tk₃, rfl⟩
    refine loop2_outer (fun n s' => ∃ h' tk i ys oC m', s' = { s with heap := h', toks := tk } ∧ i ≤ vs.length ∧ n = vs.length + 1 - i ∧ (h'.IsListIter I ax i ∧ h'.IsList ax vs.toArray) ∧ Fr h₀ L h' m ∧ LCg.NsObj oC m' ∧ News h₀ L h' ((C, oC) :: (D, LCg.lst ys) :: news) ∧ Oct ys (31 * i)) ?_ (vs.length + 1)
      ⟨h₁, _, 0, [], oC₁, _, rfl, Nat.zero_le _, rfl, hst₁, F₁, hoC₁, N₁, ⟨[], .nil, fun _ h => (nomatch h), Nat.zero_le _⟩⟩ (by intro _; rfl) (hf C)
    rintro n s' ⟨h', tk, i, ys, oC, m', rfl, hi', rfl, hst', F', hC', N', hy'⟩
    have zC := N' (C, oC) (.head _)
    have zD := N' (D, LCg.lst ys) (.tail _ (.head _))
    by_cases hlt' : i < vs.length
    · refine W.item i _ _ _ (by rw [List.size_toArray]; exact hlt') hst' fun v h₂ tk₂ hPv hst₂ hk₂ => ?_
      obtain ⟨a, ta, rfl, -⟩ := IntsAre.at hi i v (by have : vs.toArray[i]? = some v := hPv; simpa using this)
      have hk' : ∀ b o, b ≠ I → h'.get? b = some o → h₂.get? b = some o := fun b o hb e => hk₂ b o (by simpa using hb) e
      have hn₂ : h₂.Ns C m' := hC'.ns (hk' _ _ (Ne.symm hIC) zC.1)
      refine wpAny_assign_Name (wpAny_storeName_local (lookup_relabel_local hx) hn₂ (fun h₃ hn₃ hs₃ => ?_) (by simp [compEnvC, relabel, hkind]))
      have hst₃ : h₃.IsListIter I ax (i + 1) ∧ h₃.IsList ax vs.toArray := W.frame _ _ _ hst₂ fun b hb o e => hs₃.extBut b o (fun q => by
        rcases List.mem_cons.mp hb with r | hb
        · exact hIC (r.symm.trans q)
        · exact haxC ((List.mem_singleton.mp hb).symm.trans q)) e
      obtain ⟨oI, heI, hoI⟩ := hst₃.1
      obtain ⟨oC₃, heC, hoC⟩ := LCg.ns_obj hn₃
      have F₃ : Fr h₀ L h₃ m := (LCg.fr_but F' hk₂ hIL hI₀).change hs₃ hCL hC₀
      have up : ∀ b o, b ≠ I → b ≠ C → h'.get? b = some o → h₃.get? b = some o := fun b o hb hc e => hs₃.extBut b o hc (hk' b o hb e)
      have N₃ : News h₀ L h₃ ((I, oI) :: (C, oC₃) :: (D, LCg.lst ys) :: news) := by
        refine news_of ⟨heI, Ne.symm hIL, hI₀⟩ (news_of ⟨heC, hCL, hC₀⟩ (news_of ⟨up _ _ (Ne.symm hID) hDC zD.1, zD.2⟩ fun p hp => ?_))
        have zp := N' p (.tail _ (.tail _ hp))
        exact ⟨up _ _ (offI p hp) (offC p hp) zp.1, zp.2⟩
      refine wpAny_mono (turn1 a ta I oI C oC₃ D _ ys h₃ _ _ hoC (if_pos rfl) F₃ N₃) (fun y s₄ hy₄ => ?_) fun _ _ e => e
      obtain ⟨h₄, tk₄, r, b, t, u, v, rfl, hr, hb0, hb1, rfl, F₄, N₄⟩ := hy₄
      obtain ⟨kk, rfl⟩ := Int.eq_ofNat_of_zero_le hb0
      have hrs : Builtin.Range.rangeSize 0 (kk : Int) 1 = (kk : Int) := by
        rw [rangeSize_one]
        split <;> omega
      refine wpAny_pyIter_range hr (small_one (by decide) (by decide) (by omega) (by omega)) ?_
      rw [hrs]
      refine wpAny_runOwn ?_
      show codeAny (model prog w) A _ _ _
      have lt4 : ∀ {b : Addr} {o : Obj}, h₄.get? b = some o → b ≠ h₄.objs.size := fun e => Nat.ne_of_lt (Heap.lt_size e)
      have wI := N₄ (I, oI) (.head _)
      have wC := N₄ (C, oC₃) (.tail _ (.head _))
      have wD := N₄ (D, LCg.lst ys) (.tail _ (.tail _ (.head _)))
      have hI1₀ : h₀.get? h₄.objs.size = none := next_is_new F₄
      have hI1L : h₄.objs.size ≠ L := Ne.symm (Nat.ne_of_lt F₄.ns.lt)
      have e1 : (h₄.push { cls := .type "range_iterator", data := .fields #[rawInt 0, rawInt (kk : Int), rawInt 1] }).get? h₄.objs.size = some { cls := .type "range_iterator", data := .fields #[rawInt 0, rawInt (kk : Int), rawInt 1] } := Heap.get?_push_size _ rfl
      have e0 : IsRangeIter (h₄.push { cls := .type "range_iterator", data := .fields #[rawInt 0, rawInt (kk : Int), rawInt 1] }) h₄.objs.size (0 + ((0 : Nat) : Int) * 1) ((kk : Int) - ((0 : Nat) : Int)) 1 := by
        have := e1
        simpa using this
      have inn : ∀ s₅ : Shared, s₅ = { s with heap := h₄.push { cls := .type "range_iterator", data := .fields #[rawInt 0, rawInt (kk : Int), rawInt 1] }, toks := tk₄ } →
          codeAny (model prog w) A (.compLoop (.ListComp elt [⟨.Name x px, iter, [], 0⟩, ⟨.Name j pj, i1, [], 0⟩] scope pos) 1 (.ref h₄.objs.size) (.ref D) (compEnvC scope cl C env))
            (fun r s' => match r with
              | .ok _ => ∃ n', n' < vs.length + 1 - i ∧ ∃ h' tk i ys oC m', s' = { s with heap := h', toks := tk } ∧ i ≤ vs.length ∧ n' = vs.length + 1 - i ∧ (h'.IsListIter I ax i ∧ h'.IsList ax vs.toArray) ∧ Fr h₀ L h' m ∧ LCg.NsObj oC m' ∧ News h₀ L h' ((C, oC) :: (D, LCg.lst ys) :: news) ∧ Oct ys (31 * i)
              | .error e => cameBackBy (model prog w) A (compEnvC scope cl C env) (notedBy (model prog w) A (compEnvC scope cl C env) fun e s' => compPost (model prog w) A E none Q (.ref D) C (.error e) s') e s') s₅ := by
        rintro s₅ rfl
        refine inner2 (a := a) (ta := ta) (n0 := 31 * i) (kk := kk) (I := I) (oI := oI) (m₂ := _) hh (by omega) (by have := hi.length; omega) hxj hj hkind e0 e0 (F₄.push _) ?_ hoC (if_pos rfl) hy' ⟨Ne.symm (lt4 wI.1), Ne.symm (lt4 wC.1), Ne.symm (lt4 wD.1), hIC, hID, Ne.symm hDC⟩ (fun p hp => ⟨lt4 (N₄ p (.tail _ (.tail _ (.tail _ hp)))).1, offC p hp, offD p hp⟩) (fun b tb oC o1 m₂ ys h tk E' => turn2 a ta b tb _ o1 I oI C oC D m₂ ys h tk E') ?_
        · exact news_of ⟨e0, hI1L, hI1₀⟩ fun p hp => ⟨Heap.get?_push_of_some _ (N₄ p hp).1, (N₄ p hp).2⟩
        · intro h6 tk6 oC6 m6 ys6 hC6 hy6 F6 N6
          have g := N6 (I, oI) (.head _)
          refine ⟨vs.length + 1 - (i + 1), by omega, h6, tk6, i + 1, ys6, oC6, m6, rfl, hlt', rfl, ⟨⟨oI, g.1, hoI⟩, ?_⟩, F6, hC6, fun p hp => N6 p (.tail _ hp), ?_⟩
          · obtain ⟨o, e, r⟩ := hl
            exact ⟨o, F6.keep _ _ e, r⟩
          · rw [show 31 * (i + 1) = 31 * i + 31 by omega]
            exact hy6
      exact start2_inner (inn _ rfl) ((LCg.range_walks (prog := prog) (w := w) (I := h₄.objs.size) hh 0 kk).self 0 _ _ _ e0 (inn _ rfl))
    · obtain rfl : i = vs.length := Nat.le_antisymm hi' (Nat.not_lt.mp hlt')
      refine W.done _ _ _ (by rw [List.size_toArray]; exact hst') fun h₂ tk₂ hk₂ => ?_
      have hk' : ∀ b o, b ≠ I → h'.get? b = some o → h₂.get? b = some o := fun b o hb e => hk₂ b o (by simpa using hb) e
      obtain ⟨ks, g1, g2, g3⟩ := hy'.ex
      have hvl := hi.length
      refine ⟨m', hC'.ns (hk' _ _ (Ne.symm hIC) zC.1), fun h'' hs'' => fin D h'' tk₂ ys ⟨ks, g1, g2, by omega⟩ ((LCg.fr_but F' hk₂ hIL hI₀).change hs'' hCL hC₀) (fun p hp => ?_) offD⟩
      rcases List.mem_cons.mp hp with rfl | hp
      · exact ⟨hs''.extBut _ _ hDC (hk' _ _ (Ne.symm hID) zD.1), zD.2⟩
      · have zp := N' p (.tail _ (.tail _ hp))
        exact ⟨hs''.extBut _ _ (offC p hp) (hk' _ _ (offI p hp) zp.1), zp.2⟩
  exact codeAny_compStart_list (loop _ ⟨_, rfl⟩) (W.self 0 _ _ _ hst₁ (loop _ ⟨_, rfl⟩))
end
end Mine
end
section
open PySem PySem.W PyProof.Rows PySem.Calls PySem.Spec
set_option Elab.async false
set_option maxRecDepth 100000
namespace Mine
/-- the law's indent by the script's length -/
def indL (n : Nat) : List UInt8 := if n % 3 = 0 then [9] else if n % 3 = 1 then [32, 32] else [9, 32]
def leadL (n : Nat) (lv : Nat) : List UInt8 := (List.replicate lv (indL n)).flatten
theorem indL_ne (n : Nat) : indL n ≠ [] := by
  unfold indL
  split
  · simp
  · split <;> simp
theorem indL_len (n : Nat) : (indL n).length ≤ 2 := by
  unfold indL
  split
  · simp
  · split <;> simp
section
variable {prog : Program} {w : World} {A : Around} {E : Value → Shared → Prop} {s : Shared} {h₀ : Heap} {L l : Addr} {m : Str → Option Value} {news : List (Addr × Obj)} {value slice : PySem.Expr} {Q : Value → Shared → Prop}
theorem k_ind {n : Nat} {c : Nat} {t0 t1 t2 u : Tok} (N : News h₀ L s.heap news) (hm : (l, listOf #[.bytes #[9] t0, .bytes #[32, 32] t1, .bytes #[9, 32] t2] c) ∈ news) (h : ∀ t, Q (.bytes (indL n).toArray t) s)
    (hs : ∀ k, subscripted slice false (.ref l) (.int k u) = operate [.ref l, .int k u] (getItem (.ref l) (.int k u)) := by intro _; with_unfolding_all rfl) (hg : ∀ r, letTemporaryGo value (.ref l) r = pure () := by intro _; with_unfolding_all rfl) :
    wpAny (model prog w) A (subscriptTail value slice (.ref l) (.int (((n : Nat) : Int).fmod 3) u)) Q E s := by
  have hL : s.heap.IsList l (List.toArray [.bytes #[9] t0, .bytes #[32, 32] t1, .bytes #[9, 32] t2]) := ⟨_, N.get hm, rfl, _, rfl⟩
  have e : (((n : Nat) : Int).fmod 3) = ((n % 3 : Nat) : Int) := by
    rw [Int.fmod_eq_emod_of_nonneg _ (by decide)]
    rfl
  rw [e]
  have h3 : n % 3 < 3 := Nat.mod_lt _ (by decide)
  unfold indL at h
  generalize n % 3 = k at h h3
  have hk : k = 0 ∨ k = 1 ∨ k = 2 := by omega
  rcases hk with rfl | rfl | rfl
  · exact item_list hL (by decide) (by decide) rfl (h _) (hs _) hg
  · exact item_list hL (by decide) (by decide) rfl (h _) (hs _) hg
  · exact item_list hL (by decide) (by decide) rfl (h _) (hs _) hg
theorem k_mod13 {a : Int} {t u : Tok} (h : ∀ n : Nat, n < 13 → Q (.int (n : Int) s.toks) { s with toks := s.toks + 1 }) : wpAny (model prog w) A (binaryOp .Mod (.int a t) (.int 13 u)) Q E s := by
  have h0 := Int.fmod_nonneg_of_pos a (show (0 : Int) < 13 by decide)
  have h1 := Int.fmod_lt_of_pos a (show (0 : Int) < 13 by decide)
  obtain ⟨n, hn⟩ := Int.eq_ofNat_of_zero_le h0
  refine mod_int' (by decide) ?_
  rw [hn]
  exact h n (by omega)
theorem k_lead {n lv : Nat} {t u : Tok} (hl : lv < 13) (h : ∀ t' k, Q (.bytes (leadL n lv).toArray t') { s with toks := k }) : wpAny (model prog w) A (binaryOp .Mult (.bytes (indL n).toArray t) (.int (lv : Int) u)) Q E s := by
  refine bytes_mul_any (indL_ne n) (by omega) (by omega) (Nat.le_trans (indL_len n) (by decide)) fun t' k => ?_
  exact h t' k
theorem imul_declines (a : Int) (t : Tok) (b : Array UInt8) (u : Tok) : Gives (Builtin.«int.__mul__» ⟨[.int a t, .bytes b u], []⟩) (.val (Value.notImplemented)) := by
  first | exact .of_eq rfl | exact .rule (.of_eq rfl) | exact .of_eq (by kernel_rfl)
theorem int_mul_bytes {b : List UInt8} {n : Int} {t u : Tok} (hb : b ≠ []) (hlo : -1048576 ≤ n) (hn : n ≤ 1048576) (hs : b.length ≤ 16) (h : ∀ t' k, Q (.bytes ((List.replicate n.toNat b).flatten).toArray t') { s with toks := k }) :
    wpAny (model prog w) A (binaryOp .Mult (.int n u) (.bytes b.toArray t)) Q E s := by
  have e3 : b.toArray.size = b.length := by simp
  have hle : b.length * n.toNat ≤ 16777216 := by
    have e2 : b.length * n.toNat ≤ 16 * n.toNat := Nat.mul_le_mul_right _ hs
    omega
  by_cases h1 : n = 1
  · subst h1
    refine lm_binaryOp_repeat_right (T := "bytes") (U := "int") (by decide) (fun s' => typeIs_int s' 1 u) (typeIs_bytes s _ t) F.fills_int_mul BMul.noFill F.slot_int_mul lm_noRepeat_int BMul.repeats F.slot_int_index.lookup
      (call_gives F.slot_int_mul (typeIs_int s 1 u) F.entry_int_mul (F.args_int_mul_2 _ _) (imul_declines 1 u _ t)
        ⟨rfl, typeIs_bytes _ _ _, call_gives BMul.slot_mul (typeIs_bytes s _ t) BMul.entry_mul (BMul.args_mul _ _) (BMul.gives_mul1 (by rw [e3]; omega)) ?_⟩)
    have h' := h t s.toks
    have e : (List.replicate (1 : Int).toNat b).flatten = b := by simp
    rw [e] at h'
    exact h'
  · have hpos : 0 < b.length := List.length_pos_iff.mpr hb
    have hf : Builtin.Bytes.fitsIndex n = true := by
      simp only [Builtin.Bytes.fitsIndex, Bool.and_eq_true, decide_eq_true_eq]
      omega
    have h63 : ¬ b.toArray.size * n.toNat ≥ 2 ^ 63 := by rw [e3]; omega
    have hne : (b.toArray.size * n.toNat == b.toArray.size) = false := by
      rw [e3]
      refine beq_false_of_ne fun e => ?_
      rcases Nat.lt_or_ge n.toNat 2 with h2 | h2
      · have h0 : n.toNat = 0 := by omega
        rw [h0] at e
        omega
      · have e2 : b.length * 2 ≤ b.length * n.toNat := Nat.mul_le_mul_left _ h2
        omega
    have hl : Builtin.Bytes.tooLong (b.toArray.size * n.toNat) = false := by rw [e3]; exact KBy.tooLong_not hle
    refine lm_binaryOp_repeat_right (T := "bytes") (U := "int") (by decide) (fun s' => typeIs_int s' n u) (typeIs_bytes s _ t) F.fills_int_mul BMul.noFill F.slot_int_mul lm_noRepeat_int BMul.repeats F.slot_int_index.lookup
      (call_gives F.slot_int_mul (typeIs_int s n u) F.entry_int_mul (F.args_int_mul_2 _ _) (imul_declines n u _ t)
        ⟨rfl, typeIs_bytes _ _ _, call_gives BMul.slot_mul (typeIs_bytes s _ t) BMul.entry_mul (BMul.args_mul _ _) (BMul.gives_mul hf h63 hne hl) ?_⟩)
    rw [BMul.repeated_list hb]
    refine ⟨?_, h _ _⟩
    rw [sizeLine_eq]
    have e4 : ((List.replicate n.toNat b).flatten.toArray).size = n.toNat * b.length := by simp
    rw [e4, Nat.mul_comm]
    exact hle
theorem k_leadR {n lv : Nat} {t u : Tok} (hl : lv < 13) (h : ∀ t' k, Q (.bytes (leadL n lv).toArray t') { s with toks := k }) : wpAny (model prog w) A (binaryOp .Mult (.int (lv : Int) u) (.bytes (indL n).toArray t)) Q E s := by
  refine int_mul_bytes (indL_ne n) (by omega) (by omega) (Nat.le_trans (indL_len n) (by decide)) fun t' k => ?_
  exact h t' k
end
end Mine
end
section
open PySem PySem.W PyProof.Rows PySem.Calls PySem.Spec PySem.Builtin
set_option Elab.async false
set_option maxRecDepth 100000
namespace Mine
/-- a text's octets -/
def utfB (x : Str) : Array UInt8 := x.cps.foldl (fun acc y => acc ++ (Str.utf8Of y).toArray) #[]
theorem utf_one (c : Nat) : (Str.utf8Of c).length ≤ 4 := by
  unfold Str.utf8Of
  split
  · simp
  · split
    · simp
    · split <;> simp
theorem utf_fold : ∀ (l : List Nat) (acc : Array UInt8), l.foldl (fun acc y => acc ++ (Str.utf8Of y).toArray) acc = acc ++ (l.flatMap Str.utf8Of).toArray
  | [], acc => by simp
  | c :: r, acc => by
    rw [List.foldl_cons, utf_fold r, List.flatMap_cons]
    simp
theorem utfB_eq (x : Str) : utfB x = (x.cps.toList.flatMap Str.utf8Of).toArray := by
  unfold utfB
  rw [← Array.foldl_toList, utf_fold]
  simp
theorem utfB_size (x : Str) : (utfB x).size ≤ 4 * x.length := by
  rw [utfB_eq, List.size_toArray]
  show _ ≤ 4 * x.cps.size
  rw [← Array.length_toList]
  generalize x.cps.toList = l
  induction l with
  | nil => simp
  | cons c r ih =>
    rw [List.flatMap_cons, List.length_append, List.length_cons]
    have := utf_one c
    omega
theorem narrow_wp {M : Model} {A : Around} {E : Value → Shared → Prop} {s : Shared} {id : String} {self : Value} {x : Str} {Q : Array UInt8 → Shared → Prop} (hb : ∀ c ∈ x.cps.toList, Str.isSurrogate c = false) (hz : x.length ≤ 1000000)
    (h : Q (x.cps.foldl (fun acc y => acc ++ (Str.utf8Of y).toArray) #[]) s) : wpAny M A (_codecs.encodeNarrow id _codecs.utf8Codec none self x) Q E s := by
  unfold _codecs.encodeNarrow
  dsimp only
  rw [Std.Legacy.Range.forIn_eq_forIn_range']
  have hno : x.cps.findIdx? _codecs.utf8Codec.bad = none := by
    rw [Array.findIdx?_eq_none_iff]
    intro c hc
    exact hb c (Array.mem_toList_iff.mpr hc)
  have hU := utfB_size x
  refine wpAny_bind (wpAny_forIn_list _ (fun rest (st : Nat × Array UInt8 × _codecs.Faults) s' => s' = s ∧ ((st.1 = 0 ∧ st.2.1 = #[] ∧ rest.length = x.length) ∨ (st.1 = x.cps.size ∧ st.2.1 = utfB x))) _ ?turn ?fin _ _ ⟨rfl, .inl ⟨rfl, rfl, by simp [Std.Legacy.Range.size]⟩⟩)
  case fin =>
    rintro ⟨i, out, st⟩ s' ⟨rfl, h1⟩
    dsimp only at h1 ⊢
    have e : out = utfB x := by
      rcases h1 with ⟨-, h2, h3⟩ | ⟨-, h2⟩
      · have : x.cps = #[] := Array.size_eq_zero_iff.mp h3.symm
        rw [h2]
        unfold utfB
        rw [this]
        rfl
      · exact h2
    subst e
    exact wpAny_pure h
  case turn =>
    rintro q rest ⟨i, out, st⟩ s' ⟨rfl, h1⟩
    dsimp only at h1 ⊢
    rcases h1 with ⟨rfl, rfl, h3⟩ | ⟨rfl, rfl⟩
    · have hpos : 0 < x.cps.size := by
        have : (q :: rest).length = x.cps.size := h3
        simp at this
        omega
      rw [if_neg (by simp)]
      rw [Array.getElem?_eq_getElem hpos]
      dsimp only
      have hc := hb x.cps[0] (by simp)
      rw [if_pos (by show (!Str.isSurrogate x.cps[0]) = true; rw [hc]; rfl)]
      refine wpAny_pure ⟨rfl, .inr ?_⟩
      have e1 : x.cps.extract 0 = x.cps := by simp
      dsimp only
      rw [e1, hno]
      refine ⟨by simp, ?_⟩
      simp only [Option.getD_none, Array.extract_size]
      rfl
    · rw [if_neg (by rw [sizeLine_eq]; omega)]
      have e : x.cps[x.cps.size]? = none := by simp
      rw [e]
      dsimp only
      exact wpAny_pure (by dsimp only; exact wpAny_pure h)
theorem meets_encode {x : Str} {t u : Tok} (hb : ∀ c ∈ x.cps.toList, Str.isSurrogate c = false) (hz : x.length ≤ 1000000) :
    Meets (Builtin.«str.encode» ⟨[.str x t, .str (Str.ofString "utf-8") u], []⟩) (fun _ R s => ∀ t', R (.ok (.ret (.bytes (utfB x) t'))) { s with toks := s.toks + 1 }) := by
  intro prog w A R s hR
  unfold Builtin.«str.encode»
  refine wpAny_bind (wpAny_of_eq (a := (Value.str x t, x, [Value.str (Str.ofString "utf-8") u])) rfl ?_)
  dsimp only
  refine wpAny_bind (wpAny_of_eq (a := [some (Value.str (Str.ofString "utf-8") u), none]) (by kernel_rfl) ?_)
  dsimp only
  refine wpAny_bind (wpAny_of_eq (a := some (Str.ofString "utf-8")) (by kernel_rfl) ?_)
  refine wpAny_bind (wpAny_of_eq (a := none) (by kernel_rfl) ?_)
  have e : (some (Str.ofString "utf-8")).getD (Str.ofString "utf-8") = Str.ofString "utf-8" := rfl
  rw [e, PySem.encodeRoad_utf8]
  refine wpAny_bind (wpAny_bind (narrow_wp hb hz (wpAny_mkBytes (wpAny_pure (hR _)) ?_)))
  have := utfB_size x
  show (utfB x).size ≤ _
  rw [sizeLine_eq]
  omega
section
variable {prog : Program} {w : World} {A : Around} {E : Value → Shared → Prop} {s : Shared} {Q : Value → Shared → Prop}
theorem k_encode {x : Str} {t u : Tok} (hb : ∀ c ∈ x.cps.toList, Str.isSurrogate c = false) (hz : x.length ≤ 1000000) (h : ∀ t', Q (.bytes (utfB x) t') { s with toks := s.toks + 1 }) :
    wpAny (model prog w) A (call (.builtin "str.encode") [.str x t, .str (Str.ofString "utf-8") u]) Q E s :=
  call_meets F.slot_str_encode (typeIs_str _ _ _) F.entry_str_encode (by first | exact F.args_str_encode_2 _ _ | (unfold argsOk; kernel_rfl)) (meets_encode hb hz) h
theorem k_getenc {M : Model} {pl : Sem Bool} {x : Str} {t : Tok} {Q : Value × List Value → Shared → Prop} (h : Q (.builtin "str.encode", [.str x t]) s) : wpAny M A (getMethod (.str x t) (PySem.Str.ofString "encode") pl) Q E s :=
  getMethod_builtin (typeIs_str _ _ _) F.plainAttrs_str F.slot_str_encode F.type_str_encode (fun _ e => nomatch e) h
end
end Mine
end
section
open PySem PySem.W PyProof.Rows PySem.Calls PySem.Spec PySem.Builtin
set_option Elab.async false
set_option maxRecDepth 100000
namespace Mine
theorem txtData : Str.ofString "<" ++ Str.ofString "data" ++ Str.ofString ">" = ⟨#[60, 100, 97, 116, 97, 62]⟩ := by decide +kernel
theorem txtDataE : Str.ofString "</" ++ Str.ofString "data" ++ Str.ofString ">" = ⟨#[60, 47, 100, 97, 116, 97, 62]⟩ := by decide +kernel
theorem octData : utfB ⟨#[60, 100, 97, 116, 97, 62]⟩ = #[60, 100, 97, 116, 97, 62] := by decide +kernel
theorem octDataE : utfB ⟨#[60, 47, 100, 97, 116, 97, 62]⟩ = #[60, 47, 100, 97, 116, 97, 62] := by decide +kernel
section
variable {prog : Program} {w : World} {A : Around} {E : Value → Shared → Prop} {s : Shared} {Q : Value → Shared → Prop} {x : Str} {t u : Tok}
theorem k_encA (hx : x = Str.ofString "<" ++ Str.ofString "data" ++ Str.ofString ">") (h : ∀ t', Q (.bytes #[60, 100, 97, 116, 97, 62] t') { s with toks := s.toks + 1 }) : wpAny (model prog w) A (call (.builtin "str.encode") [.str x t, .str (Str.ofString "utf-8") u]) Q E s := by
  subst hx
  rw [txtData]
  refine k_encode (by decide +kernel) (by decide +kernel) fun t' => ?_
  rw [octData]
  exact h t'
theorem k_encB (hx : x = Str.ofString "</" ++ Str.ofString "data" ++ Str.ofString ">") (h : ∀ t', Q (.bytes #[60, 47, 100, 97, 116, 97, 62] t') { s with toks := s.toks + 1 }) : wpAny (model prog w) A (call (.builtin "str.encode") [.str x t, .str (Str.ofString "utf-8") u]) Q E s := by
  subst hx
  rw [txtDataE]
  refine k_encode (by decide +kernel) (by decide +kernel) fun t' => ?_
  rw [octDataE]
  exact h t'
end
end Mine
end
section
open PySem PySem.W PyProof.Rows PySem.Calls PySem.Spec PySem.Builtin
set_option Elab.async false
set_option maxRecDepth 100000
namespace Mine
theorem slot_bexp : Slot "bytes" "expandtabs" "bytes.expandtabs" :=
  .of (owner := "bytes") (n := "expandtabs") (by rw [typeLookup_type, builtinLookup_eq_fast]; kernel_rfl) (by decide +kernel) (by decide +kernel) (by decide +kernel)
    (by first | exact .inl (by decide +kernel) | exact .inr (by decide +kernel)) (by rw [isSubtype_type]; kernel_rfl)
theorem entry_bexp : entryFor table "bytes.expandtabs" = some Builtin.«bytes.expandtabs» := by first | exact entryFor_of_tree (by kernel_rfl) | exact entryFor_of_fast (by kernel_rfl)
theorem args_bexp (a : Value) : argsOk "bytes.expandtabs" ⟨[a], []⟩ := by unfold argsOk; kernel_rfl
theorem type_bexp : typeOf (.builtin "bytes.expandtabs") = pure (.type "method_descriptor") := by kernel_rfl
/-- the octets with tabs made blanks -/
@[irreducible] def tabsB (b : List UInt8) : Array UInt8 := Bytes.expanded 8 b
/-- how wide they are -/
def widthB (b : List UInt8) : Nat := (tabsB b).size
theorem meets_exp {b : Array UInt8} {t : Tok} (hz : b.size ≤ 100000) (hz2 : (tabsB b.toList).size ≤ 1000000) :
    Meets (Builtin.«bytes.expandtabs» ⟨[.bytes b t], []⟩) (fun _ R s => ∀ t', R (.ok (.ret (.bytes (tabsB b.toList) t'))) { s with toks := s.toks + 1 }) := by
  intro prog w A R s hR
  unfold Builtin.«bytes.expandtabs» Bytes.expandtabsM
  dsimp only
  refine wpAny_bind (wpAny_of_eq (a := [none]) (by kernel_rfl) ?_)
  dsimp only
  refine wpAny_bind (wpAny_pure ?_)
  refine wpAny_bind (wpAny_of_eq (a := b) rfl ?_)
  have hc : (b.toList.filter (· == 9)).length ≤ b.size := by
    rw [← Array.length_toList]
    exact List.length_filter_le _ _
  rw [if_neg (by
    rw [KBy.tooLong_not (by show b.size + (b.toList.filter (· == 9)).length * 8 ≤ _; omega)]
    exact Bool.false_ne_true)]
  have e8 : Bytes.expanded (Int.toNat 8) b.toList = tabsB b.toList := by unfold tabsB; rfl
  rw [e8]
  refine wpAny_bind (wpAny_mkBytes (wpAny_pure (hR _)) ?_)
  show (tabsB b.toList).size ≤ _
  rw [sizeLine_eq]
  omega
section
variable {prog : Program} {w : World} {A : Around} {E : Value → Shared → Prop} {s : Shared}
theorem k_exp {b : Array UInt8} {t : Tok} {Q : Value → Shared → Prop} (hz : b.size ≤ 100000) (hz2 : (tabsB b.toList).size ≤ 1000000) (h : ∀ t', Q (.bytes (tabsB b.toList) t') { s with toks := s.toks + 1 }) :
    wpAny (model prog w) A (call (.builtin "bytes.expandtabs") [.bytes b t]) Q E s :=
  call_meets (rest := []) slot_bexp (typeIs_bytes s b t) entry_bexp (args_bexp (.bytes b t)) (meets_exp (t := t) hz hz2) (fun t' => h t')
theorem k_getexp {M : Model} {pl : Sem Bool} {b : Array UInt8} {t : Tok} {Q : Value × List Value → Shared → Prop} (h : Q (.builtin "bytes.expandtabs", [.bytes b t]) s) : wpAny M A (getMethod (.bytes b t) (PySem.Str.ofString "expandtabs") pl) Q E s :=
  KBd.method_of (name := PySem.Str.ofString "expandtabs") (id := "bytes.expandtabs") (.bytes b t) (typeIs_bytes _ _ _) slot_bexp type_bexp KBd.noRef h
end
end Mine
end
section
open PySem PySem.W PyProof.Rows PySem.Calls PySem.Spec
set_option Elab.async false
set_option maxRecDepth 100000
namespace Mine
section
variable {prog : Program} {w : World} {A : Around} {E : Value → Shared → Prop} {s : Shared} {h₀ : Heap} {env : Env} {target : Expr} {body : List Stmt} {Q : Flow → Shared → Prop}
/-- a for over a made list, by what holds behind i turns -/
theorem listGo {D : Addr} {lo : Obj} {vs : List Value} {n : Nat} {m₀ : Str → Option Value} {news less : List (Addr × Obj)} (MI : Nat → (Str → Option Value) → List (Addr × Obj) → Prop)
    (hh : A.handled = none) (F : Fr h₀ env.locals s.heap m₀) (N : News h₀ env.locals s.heap news) (hm : (D, lo) ∈ news) (hc : lo.cls = .type "list") (hd : lo.data = .seq vs.toArray n) (sub : SubL less news) (h0 : MI 0 m₀ less)
    (hnil : ∀ m nw, MI vs.length m nw → ∀ h tk, Fr h₀ env.locals h m → News h₀ env.locals h nw → Q .next { s with heap := h, toks := tk })
    (hstep : ∀ (Q' : Flow → Shared → Prop) (i : Nat) (v : Value) m nw, vs[i]? = some v → MI i m nw → ∀ I it h tk, it.cls = .type "list_iterator" → Fr h₀ env.locals h m → News h₀ env.locals h ((I, it) :: nw) →
      wpAny (model prog w) A (assign target env v) (fun _ s₂ => wpAny (model prog w) A (execs body env) (UnrPostW h₀ env.locals { s with heap := h, toks := tk } [(I, it)] (fun m' n' => SubL [(D, lo)] n' ∧ MI (i + 1) m' n') Q') E s₂) E { s with heap := h, toks := tk }) :
    wpAny (model prog w) A (pyIter (.ref D)) (fun it s₂ => TurnsAt prog w A h₀ env target body Q E it s₂) E s := by
  refine iter_listTurns hh F N hm hc hd fun I _ => itemsLess sub (itemsInv (fun r m nw => ∃ i, r = vs.drop i ∧ i ≤ vs.length ∧ MI i m nw) (fun m nw hI h tk F N => ?_) (fun v r m nw hI h tk F => ?_) vs m₀ less ⟨0, rfl, Nat.zero_le _, h0⟩)
  · obtain ⟨i, hr, hi, hM⟩ := hI
    have hge : vs.length ≤ i := by
      have := congrArg List.length hr
      simp only [List.length_nil, List.length_drop] at this
      omega
    have e : i = vs.length := Nat.le_antisymm hi hge
    subst e
    exact hnil m nw hM h tk F N
  · obtain ⟨i, hr, hi, hM⟩ := hI
    have hlt : i < vs.length := by
      have := congrArg List.length hr
      simp only [List.length_cons, List.length_drop] at this
      omega
    have hv : vs[i]? = some v := by
      have : (vs.drop i)[0]? = some v := by rw [← hr]; rfl
      rw [List.getElem?_drop] at this
      exact this
    have hr' : r = vs.drop (i + 1) := by
      have : (v :: r).tail = (vs.drop i).tail := by rw [hr]
      rw [List.tail_drop] at this
      exact this
    refine AllObj.cons (fun o' hc' => ?_)
    refine AllObj.nil (fun N' => ?_)
    refine wpAny_mono (hstep Q i v m nw hv hM I o' h tk hc' F N') (fun _ s₂ h₂ => wpAny_mono h₂ (fun f s₃ p => UnrPostW.mono (fun m' n' ⟨a, b⟩ => ⟨a, i + 1, hr', hlt, b⟩) p) fun _ _ e => e) fun _ _ e => e
end
end Mine
end
section
open PySem PySem.W PyProof.Rows PySem.Calls PySem.Spec
set_option Elab.async false
set_option maxRecDepth 100000
set_option maxHeartbeats 8000000
namespace Mine
/-- a call of the function at f puts its argument at the end of the list at P -/
structure WrF (w : World) (p : Program) (loose : List Str) (mean : ExcName → Option Value) (mg mb : Str → Option Value) (f P : Addr) (core : List (Addr × Obj)) : Prop where
  go : ∀ {A₀ A : Around} {env : Env} {outer : List Env} {base g : Heap} {s : Shared} {L : Addr} {m : Str → Option Value} {its : Array Value} {n : Nat} {v : Value} {Q E : Value → Shared → Prop} {news news' : List (Addr × Obj)},
    Below A₀ base outer g → A.frames = some (env :: outer) → env.frame = some L → env.scope.kind = .function → A.depth + 10 < recursionLimit → A.handled = none →
    Fr g L s.heap m → (hd06.heap_39 w.params).In g → Top p loose mean mg mb g → News g L s.heap news → SubL core news → Upd P (listOf its n) (listOf (its.push v) (n + 1)) news news' → its.size ≤ 1000000 →
    (∀ h' tk, Fr g L h' m → News g L h' news' → Q .none { s with heap := h', toks := tk }) →
    wpAny (model PySem.Challenge.rw_ko0126_06.row.prog w) A (call (.ref f) [v]) Q E s
theorem k_encC {w : World} {b : Array UInt8} {tb tm : Tok} {M : Int} {z : Nat} {ks : List Int} {mg mb : Str → Option Value} {mean : ExcName → Option Value} {loose : List Str} {dp un : Nat} {gd : Option (List Code)} {outer : List Env} {base g₀ : Heap} {s : Shared} {L a : Addr} {m : Str → Option Value} {news : List (Addr × Obj)}
    {cn : Str} {cs : Scope} {ccd : Value} {p : Program} {Q E : Value → Shared → Prop} (B : Below (arnd dp un gd outer) base outer g₀) (F : Fr g₀ L s.heap m) (N : News g₀ L s.heap news) (X : (hd06.heap_39 w.params).In g₀) (T : Top p loose mean mg mb g₀) (hck : cs.kind = .function)
    (hk : KBw.bInts b = ks) (hl : ks.length ≤ 100000) (hM : 16 ≤ M ∧ M ≤ 76) (hz : M.fdiv 4 * 3 = (z : Int)) (hdp : dp + 35 < recursionLimit) (hu : un + 210 < cLine)
    (h : ∀ h' tk t c, Fr g₀ L h' m → News g₀ L h' news → KBw.bInts c = (rowsB ks z (cntB ks.length z)).flatten → Q (.bytes c t) { s with heap := h', toks := tk }) :
    wpAny (model PySem.Challenge.rw_ko0126_06.row.prog w) ((arnd dp un gd outer).deeper (envOf cn cs L a ccd)) (call (.ref 152) [.bytes b tb, .int M tm]) Q E s :=
  wpAny_call (enc b tb tm ks M z mg mb mean loose (dp + 1) (un + 3) gd (envOf cn cs L a ccd :: outer) base s.heap s _ rfl (B.push F hck) (X.keeps F.keep) (T.keeps F.keep) hk hl hM hz
    (fun h' tk t c hkp hc => h h' tk t c (F.keptAll hkp) (N.grown hkp) hc) (by omega) (by omega))
theorem k_leadE {prog : Program} {w : World} {A : Around} {E : Value → Shared → Prop} {s : Shared} {Q : Value → Shared → Prop} {n lv : Nat} {e : Int} {t u : Tok} (he : e = (lv : Int)) (hl : lv < 13) (h : ∀ t' k, Q (.bytes (leadL n lv).toArray t') { s with toks := k }) :
    wpAny (model prog w) A (binaryOp .Mult (.int e u) (.bytes (indL n).toArray t)) Q E s := by
  subst he
  exact k_leadR hl h
theorem k_leadF {prog : Program} {w : World} {A : Around} {E : Value → Shared → Prop} {s : Shared} {Q : Value → Shared → Prop} {n lv : Nat} {e : Int} {t u : Tok} (he : e = (lv : Int)) (hl : lv < 13) (h : ∀ t' k, Q (.bytes (leadL n lv).toArray t') { s with toks := k }) :
    wpAny (model prog w) A (binaryOp .Mult (.bytes (indL n).toArray t) (.int e u)) Q E s := by
  subst he
  exact k_lead hl h
end Mine
end
section
open PySem PySem.W PyProof.Rows PySem.Calls PySem.Spec
set_option Elab.async false
set_option maxRecDepth 100000
namespace Mine
/-- base64 by groups of three -/
def G : List Int → List Int
  | [] => []
  | [x] => [sg (x / 4), sg (x % 4 * 16), 61, 61]
  | [x, y] => [sg (x / 4), sg (x % 4 * 16 + y / 16), sg (y % 16 * 4), 61]
  | x :: y :: z :: r => sg (x / 4) :: sg (x % 4 * 16 + y / 16) :: sg (y % 16 * 4 + z / 64) :: sg (z % 64) :: G r
theorem btail_G : ∀ (ks : List Int) (out : List Int) (lc : Int), (∀ k ∈ ks, 0 ≤ k ∧ k < 256) → 0 ≤ lc → btail (ks.foldl bstep (out, 0, lc)) = out ++ G ks
  | [], out, lc, _, _ => by simp [btail, G]
  | [x], out, lc, h, h0 => by
    have hx := h x (.head _)
    rw [List.foldl_cons, List.foldl_nil, bstep0]
    have e1 : (lc * 256 + x) % 65536 / 4 % 64 = x / 4 := by omega
    have e2 : (lc * 256 + x) % 65536 % 4 = x % 4 := by omega
    unfold btail
    rw [if_pos rfl]
    dsimp only
    rw [e1, e2]
    simp [G]
  | [x, y], out, lc, h, h0 => by
    have hx := h x (.head _)
    have hy := h y (.tail _ (.head _))
    rw [List.foldl_cons, List.foldl_cons, List.foldl_nil, bstep0, bstep2]
    have e1 : (lc * 256 + x) % 65536 / 4 % 64 = x / 4 := by omega
    have e2 : ((lc * 256 + x) % 65536 * 256 + y) % 65536 / 16 % 64 = x % 4 * 16 + y / 16 := by omega
    have e3 : ((lc * 256 + x) % 65536 * 256 + y) % 65536 % 16 = y % 16 := by omega
    unfold btail
    rw [if_neg (by show ¬ (4 : Int) = 2; decide), if_pos rfl]
    dsimp only
    rw [e1, e2, e3]
    simp [G]
  | x :: y :: z :: r, out, lc, h, h0 => by
    have hx := h x (.head _)
    have hy := h y (.tail _ (.head _))
    have hz := h z (.tail _ (.tail _ (.head _)))
    rw [List.foldl_cons, List.foldl_cons, List.foldl_cons, bstep0, bstep2, bstep4]
    have e1 : (lc * 256 + x) % 65536 / 4 % 64 = x / 4 := by omega
    have e2 : ((lc * 256 + x) % 65536 * 256 + y) % 65536 / 16 % 64 = x % 4 * 16 + y / 16 := by omega
    have e3 : (((lc * 256 + x) % 65536 * 256 + y) % 65536 * 256 + z) % 65536 / 64 % 64 = y % 16 * 4 + z / 64 := by omega
    have e4 : (((lc * 256 + x) % 65536 * 256 + y) % 65536 * 256 + z) % 65536 / 1 % 64 = z % 64 := by omega
    rw [e1, e2, e3, e4, btail_G r _ _ (fun k hk => h k (.tail _ (.tail _ (.tail _ hk)))) (by omega)]
    simp [G]
theorem b64_G {ks : List Int} (h : ∀ k ∈ ks, 0 ≤ k ∧ k < 256) : b64 ks = G ks := by
  unfold b64 brun
  rw [btail_G ks [] 0 h (by decide)]
  rfl
theorem G_app : ∀ (a b : List Int), 3 ∣ a.length → G (a ++ b) = G a ++ G b
  | [], b, _ => rfl
  | [_], _, h => by simp at h
  | [_, _], _, h => by simp at h
  | x :: y :: z :: r, b, h => by
    have hr : 3 ∣ r.length := by simp only [List.length_cons] at h; omega
    simp only [List.cons_append, G, G_app r b hr]
theorem G_len : ∀ (ks : List Int), (G ks).length = (ks.length + 2) / 3 * 4
  | [] => rfl
  | [_] => by simp [G]
  | [_, _] => by simp [G]
  | x :: y :: z :: r => by
    simp only [G, List.length_cons, G_len r]
    omega
end Mine
end
section
open PySem PySem.W PyProof.Rows PySem.Calls PySem.Spec
set_option Elab.async false
set_option maxRecDepth 100000
namespace Mine
def sl (l : List Nat) : Str := ⟨l.toArray⟩
theorem sl_len (l : List Nat) : (sl l).length = l.length := rfl
theorem fm_range' (l : List Nat) (i n : Nat) : (List.map (fun (k : Nat) => ((i : Int) + 1 * (k : Int)).toNat) (List.range n)).filterMap (fun i => l[i]?) = (l.drop i).take n := by
  induction n with
  | zero => simp
  | succ n ih =>
    rw [List.range_succ, List.map_append, List.filterMap_append, ih, List.take_add_one, List.getElem?_drop]
    congr 1
    have : ((i : Int) + 1 * (n : Int)).toNat = i + n := by omega
    simp only [List.map_cons, List.map_nil, this, List.filterMap_cons, List.filterMap_nil]
    cases l[i + n]? <;> rfl
theorem slice_ft (l : List Nat) {i j : Int} (h0 : 0 ≤ i) (h1 : i ≤ j) (h2 : j ≤ (l.length : Int)) : Txt.slice (sl l) (some i) (some j) = sl ((l.drop i.toNat).take (j.toNat - i.toNat)) := by
  have hl : (sl l).length = l.length := rfl
  obtain ⟨a, rfl⟩ := Int.eq_ofNat_of_zero_le h0
  obtain ⟨b, rfl⟩ := Int.eq_ofNat_of_zero_le (Int.le_trans h0 h1)
  have e : Builtin.Str.strSliceIndices (some (a : Int)) (some (b : Int)) 1 (sl l).length = List.map (fun (k : Nat) => ((a : Int) + 1 * (k : Int)).toNat) (List.range (b - a)) := by
    unfold Builtin.Str.strSliceIndices sliceRange
    simp only [show (1 : Int) > 0 by decide, if_true, Int.ediv_one, hl, if_neg (Int.not_lt.mpr h0), if_neg (Int.not_lt.mpr (Int.le_trans h0 h1))]
    have e1 : max (0 : Int) (min (a : Int) (l.length : Int)) = (a : Int) := by omega
    have e2 : max (0 : Int) (min (b : Int) (l.length : Int)) = (b : Int) := by omega
    rw [e1, e2]
    congr 2
    split <;> omega
  unfold Txt.slice
  rw [e]
  have e2 : ((List.map (fun (k : Nat) => ((a : Int) + 1 * (k : Int)).toNat) (List.range (b - a))).filterMap ((sl l).cps[·]?)) = (l.drop a).take (b - a) := by
    rw [← fm_range' l a (b - a)]
    simp [sl]
  rw [e2]
  split
  · rename_i hc
    simp only [List.length_map, List.length_range, hl, Bool.and_eq_true, beq_iff_eq] at hc
    have ha : a = 0 ∨ l.length = 0 := by omega
    rcases ha with ha | ha
    · subst ha
      rw [show ((0 : Nat) : Int).toNat = 0 from rfl, List.drop_zero, List.take_of_length_le (by omega)]
    · rw [List.length_eq_zero_iff.mp ha]; simp
  · rfl
section
variable {prog : Program} {w : World} {A : Around} {E : Value → Shared → Prop} {s : Shared} {value slice : PySem.Expr} {x y : Str} {t u : Tok} {h₀ : Heap} {L : Addr} {m : Str → Option Value} {news : List (Addr × Obj)} {Q : Value → Shared → Prop} {l : List Nat}
theorem k_ft {i j : Int} {ui uj : Tok} (hF : Fr h₀ L s.heap m) (hN : News h₀ L s.heap news) (hx : x = sl l) (h0 : 0 ≤ i) (h1 : i ≤ j) (h2 : j ≤ (l.length : Int)) (hl : l.length ≤ 1000000) (h : ∀ h' t' k, Fr h₀ L h' m → News h₀ L h' news → Q (.str (sl ((l.drop i.toNat).take (j.toNat - i.toNat))) t') { s with heap := h', toks := k })
    (hs : subscripted slice false (.str x t) (.ref s.heap.objs.size) = operate [.ref s.heap.objs.size, .str x t] (getItem (.str x t) (.ref s.heap.objs.size)) := by with_unfolding_all rfl)
    (ht : ∀ r, letTemporaryGo value (.str x t) r = pure () := by intro _; with_unfolding_all rfl) :
    wpAny (model prog w) A (subscriptTail value slice (.str x t) (.ref s.heap.objs.size)) Q E { s with heap := s.heap.push { cls := .type "slice", data := .fields #[.int i ui, .int j uj, .none] } } := by
  subst hx
  refine slice_strN_ss hF hN (fun h' t' k F' N' => ?_) hs ht (by rw [sl_len, sizeLine_eq]; omega)
  rw [slice_ft l h0 h1 h2]
  exact h h' t' k F' N'
end
def letS : Str := sl [65, 66, 67, 68, 69, 70, 71, 72, 73, 74, 75, 76, 77, 78, 79, 80, 81, 82, 83, 84, 85, 86, 87, 88, 89, 90, 97, 98, 99, 100, 101, 102, 103, 104, 105, 106, 107, 108, 109, 110, 111, 112, 113, 114, 115, 116, 117, 118, 119, 120, 121, 122, 48, 49, 50, 51, 52, 53, 54, 55, 56, 57, 43, 47]
theorem letS_eq : Str.ofString "ABCDEFGHIJKLMNOPQRSTUVWXYZabcdefghijklmnopqrstuvwxyz0123456789+/" = letS := by decide +kernel
theorem txtEq : Str.ofString "=" = sl [61] := by decide +kernel
/-- the sign as a code point -/
def sgn (a : Int) : Nat := (sg a).toNat
theorem occ_all : ∀ a : Fin 64, Builtin.Str.occurrences letS (sl [(tabB.getD a.val 0).toNat]) 0 letS.length 1 = [a.val] := by decide +kernel
theorem occ_at {a : Int} (h0 : 0 ≤ a) (h1 : a < 64) : Builtin.Str.occurrences letS (sl [sgn a]) 0 letS.length 1 = [a.toNat] := by
  have := occ_all ⟨a.toNat, by omega⟩
  exact this
theorem sgn_all : ∀ a : Fin 64, (tabB.getD a.val 0).toNat ≠ 61 ∧ (tabB.getD a.val 0).toNat < 128 ∧ (tabB.getD a.val 0).toNat ≠ 10 := by decide +kernel
theorem sgn_ne {a : Int} (h0 : 0 ≤ a) (h1 : a < 64) : sgn a ≠ 61 := (sgn_all ⟨a.toNat, by omega⟩).1
theorem rs4 (a b c d : Nat) (h : d ≠ 61) : Txt.rstripChars (sl [a, b, c, d]) (sl [61]) = sl [a, b, c, d] := by
  have e : PySem.stripSame (sl [61]).cps.contains false true (sl [a, b, c, d]) = true := by
    simp [PySem.stripSame, PySem.stripLo, PySem.stripHi, sl, Str.length, h]
  unfold Txt.rstripChars Txt.stripBy
  rw [e, if_pos rfl]
theorem rs3 (a b c : Nat) (h : c ≠ 61) : Txt.rstripChars (sl [a, b, c, 61]) (sl [61]) = sl [a, b, c] := by
  unfold Txt.rstripChars Txt.stripBy
  rw [if_neg (by simp [PySem.stripSame, PySem.stripLo, PySem.stripHi, sl, Str.length, h])]
  simp [PySem.stripped, PySem.stripLo, PySem.stripHi, sl, Str.length, h, Builtin.Str.strSub]
theorem rs2 (a b : Nat) (h : b ≠ 61) : Txt.rstripChars (sl [a, b, 61, 61]) (sl [61]) = sl [a, b] := by
  unfold Txt.rstripChars Txt.stripBy
  rw [if_neg (by simp [PySem.stripSame, PySem.stripLo, PySem.stripHi, sl, Str.length, h])]
  simp [PySem.stripped, PySem.stripLo, PySem.stripHi, sl, Str.length, h, Builtin.Str.strSub]
theorem G_take : ∀ (ks : List Int) (j : Nat), ((G ks).drop (4 * j)).take 4 = G ((ks.drop (3 * j)).take 3)
  | [], j => by simp [G]
  | [x], 0 => by simp [G]
  | [x], j + 1 => by
    rw [List.drop_eq_nil_of_le (by simp [G]; omega), List.drop_eq_nil_of_le (by simp; omega)]; rfl
  | [x, y], 0 => by simp [G]
  | [x, y], j + 1 => by
    rw [List.drop_eq_nil_of_le (by simp [G]; omega), List.drop_eq_nil_of_le (by simp; omega)]; rfl
  | x :: y :: z :: r, 0 => by simp [G]
  | x :: y :: z :: r, j + 1 => by
    have ih := G_take r j
    have e1 : 4 * (j + 1) = 4 * j + 1 + 1 + 1 + 1 := by omega
    have e2 : 3 * (j + 1) = 3 * j + 1 + 1 + 1 := by omega
    rw [e1, e2]
    simp only [G, List.drop_succ_cons]
    exact ih
end Mine
end
section
open PySem PySem.W PyProof.Rows PySem.Calls PySem.Spec PySem.Builtin
set_option Elab.async false
set_option maxRecDepth 100000
namespace Mine
/-- the column behind the octets -/
def colF (l : List UInt8) : Nat := l.foldl (fun c o => if o = 9 then c + (8 - c % 8) else c + 1) 0
theorem wid0 : ∀ lv : Fin 13, widthB (List.replicate lv.val [(9 : UInt8)]).flatten = colF (List.replicate lv.val [(9 : UInt8)]).flatten ∧ colF (List.replicate lv.val [(9 : UInt8)]).flatten ≤ 97 := by decide +kernel
theorem wid1 : ∀ lv : Fin 13, widthB (List.replicate lv.val [(32 : UInt8), 32]).flatten = colF (List.replicate lv.val [(32 : UInt8), 32]).flatten ∧ colF (List.replicate lv.val [(32 : UInt8), 32]).flatten ≤ 97 := by decide +kernel
theorem wid2 : ∀ lv : Fin 13, widthB (List.replicate lv.val [(9 : UInt8), 32]).flatten = colF (List.replicate lv.val [(9 : UInt8), 32]).flatten ∧ colF (List.replicate lv.val [(9 : UInt8), 32]).flatten ≤ 97 := by decide +kernel
theorem wid {n lv : Nat} (h : lv < 13) : widthB (leadL n lv) = colF (leadL n lv) ∧ colF (leadL n lv) ≤ 97 := by
  unfold leadL indL
  split
  · exact wid0 ⟨lv, h⟩
  · split
    · exact wid1 ⟨lv, h⟩
    · exact wid2 ⟨lv, h⟩
theorem leadL_len {n lv : Nat} (h : lv < 13) : (leadL n lv).length ≤ 24 := by
  have e : (leadL n lv).length = lv * (indL n).length := by
    unfold leadL
    simp
  have := indL_len n
  rw [e]
  have h2 : lv * (indL n).length ≤ 12 * 2 := Nat.mul_le_mul (by omega) this
  omega
section
variable {prog : Program} {w : World} {A : Around} {E : Value → Shared → Prop} {s : Shared} {Q : Value → Shared → Prop} {n lv : Nat} {t : Tok}
theorem k_expL (hl : lv < 13) (h : ∀ t', Q (.bytes (tabsB (leadL n lv)) t') { s with toks := s.toks + 1 }) : wpAny (model prog w) A (call (.builtin "bytes.expandtabs") [.bytes (leadL n lv).toArray t]) Q E s := by
  have h1 := wid (n := n) hl
  have h2 := leadL_len (n := n) hl
  refine k_exp (by rw [List.size_toArray]; omega) ?_ h
  show widthB (leadL n lv) ≤ 1000000
  omega
theorem k_lenL (hl : lv < 13) (h : ∀ t' k, Q (.int (colF (leadL n lv) : Int) t') { s with toks := k }) : wpAny (model prog w) A (call (.builtin "len") [.bytes (tabsB (leadL n lv)) t]) Q E s := by
  have e : (KBw.bInts (tabsB (leadL n lv))).length = colF (leadL n lv) := by
    rw [KBw.ints_length]
    exact (wid hl).1
  have h2 := (wid (n := n) hl).2
  refine KBw.len_K rfl (by rw [e]; omega) ?_
  rw [e]
  exact h _ _
end
end Mine
end
section
open PySem PySem.W PyProof.Rows PySem.Calls PySem.Spec
set_option Elab.async false
set_option maxRecDepth 100000
namespace Mine
/-- the rows without their ends -/
def rowsS (ks : List Int) (z i : Nat) : List (List Int) := (List.range i).map fun j => b64 (chunkB ks z j)
theorem rowsB_S (ks : List Int) (z i : Nat) : rowsB ks z i = (rowsS ks z i).map (fun r => r ++ [10]) := by
  unfold rowsB rowsS
  rw [List.map_map]
  rfl
theorem slRun_plain (r : List Int) (h : (10 : Int) ∉ r) (st : List (List Int) × List Int) : r.foldl slStep st = (st.1, st.2 ++ r) := by
  induction r generalizing st with
  | nil => simp
  | cons a r ih =>
    have ha : a ≠ 10 := fun e => h (e ▸ List.mem_cons_self)
    rw [List.foldl_cons, ih (fun hm => h (List.mem_cons_of_mem _ hm))]
    unfold slStep
    rw [if_neg ha]
    simp
theorem slRun_rows : ∀ (rs : List (List Int)), (∀ r ∈ rs, (10 : Int) ∉ r) → ∀ acc, ((rs.map (fun r => r ++ [10])).flatten).foldl slStep (acc, []) = (acc ++ rs, [])
  | [], _, acc => by simp
  | r :: rs, h, acc => by
    rw [List.map_cons, List.flatten_cons, List.foldl_append, List.foldl_append, slRun_plain r (h r (.head _)), List.foldl_cons, List.foldl_nil]
    have e : slStep (acc, [] ++ r) 10 = (acc ++ [r], []) := by
      unfold slStep
      rw [if_pos rfl]
      simp
    rw [e, slRun_rows rs (fun x hx => h x (.tail _ hx))]
    simp
theorem splitL_rows (rs : List (List Int)) (h : ∀ r ∈ rs, (10 : Int) ∉ r) : splitL ((rs.map (fun r => r ++ [10])).flatten) = rs ++ [[]] := by
  unfold splitL slRun
  rw [slRun_rows rs h]
  simp
theorem splitL_tail (rs : List (List Int)) (h : ∀ r ∈ rs, (10 : Int) ∉ r) (x : List Int) (hx : (10 : Int) ∉ x) : splitL ((rs.map (fun r => r ++ [10])).flatten ++ x) = rs ++ [x] := by
  unfold splitL slRun
  rw [List.foldl_append, slRun_rows rs h, slRun_plain x hx]
  simp
/-- a sign of base64 -/
def Sgn (c : Int) : Prop := (∃ a, 0 ≤ a ∧ a < 64 ∧ c = sg a) ∨ c = 61
theorem sg_all : ∀ a : Fin 64, tabB.getD a.val 0 ≠ 10 ∧ tabB.getD a.val 0 ≠ 61 ∧ 0 ≤ tabB.getD a.val 0 ∧ tabB.getD a.val 0 < 128 := by decide +kernel
theorem sg_at {a : Int} (h0 : 0 ≤ a) (h1 : a < 64) : sg a ≠ 10 ∧ sg a ≠ 61 ∧ 0 ≤ sg a ∧ sg a < 128 := sg_all ⟨a.toNat, by omega⟩
theorem Sgn.ok {c : Int} (h : Sgn c) : c ≠ 10 ∧ 0 ≤ c ∧ c < 128 := by
  rcases h with ⟨a, h0, h1, rfl⟩ | rfl
  · have := sg_at h0 h1
    exact ⟨this.1, this.2.2.1, this.2.2.2⟩
  · exact ⟨by decide, by decide, by decide⟩
theorem Sgn.of {a : Int} (h0 : 0 ≤ a) (h1 : a < 64) : Sgn (sg a) := .inl ⟨a, h0, h1, rfl⟩
theorem G_sgn : ∀ (ks : List Int), (∀ k ∈ ks, 0 ≤ k ∧ k < 256) → ∀ c ∈ G ks, Sgn c
  | [], _, c, hc => by simp [G] at hc
  | [x], h, c, hc => by
    have hx := h x (.head _)
    simp only [G, List.mem_cons, List.not_mem_nil, or_false] at hc
    rcases hc with rfl | rfl | rfl | rfl
    · exact .of (by omega) (by omega)
    · exact .of (by omega) (by omega)
    · exact .inr rfl
    · exact .inr rfl
  | [x, y], h, c, hc => by
    have hx := h x (.head _)
    have hy := h y (.tail _ (.head _))
    simp only [G, List.mem_cons, List.not_mem_nil, or_false] at hc
    rcases hc with rfl | rfl | rfl | rfl
    · exact .of (by omega) (by omega)
    · exact .of (by omega) (by omega)
    · exact .of (by omega) (by omega)
    · exact .inr rfl
  | x :: y :: z :: r, h, c, hc => by
    have hx := h x (.head _)
    have hy := h y (.tail _ (.head _))
    have hz := h z (.tail _ (.tail _ (.head _)))
    simp only [G, List.mem_cons] at hc
    rcases hc with rfl | rfl | rfl | rfl | hc
    · exact .of (by omega) (by omega)
    · exact .of (by omega) (by omega)
    · exact .of (by omega) (by omega)
    · exact .of (by omega) (by omega)
    · exact G_sgn r (fun k hk => h k (.tail _ (.tail _ (.tail _ hk)))) c hc
theorem chunk_in {ks : List Int} (h : ∀ k ∈ ks, 0 ≤ k ∧ k < 256) (z j : Nat) : ∀ k ∈ chunkB ks z j, 0 ≤ k ∧ k < 256 := fun k hk => h k (List.mem_of_mem_drop (List.mem_of_mem_take hk))
theorem rowsS_mem {ks : List Int} (h : ∀ k ∈ ks, 0 ≤ k ∧ k < 256) {z i : Nat} : ∀ r ∈ rowsS ks z i, ∀ c ∈ r, Sgn c := fun r hr c hc => by
  unfold rowsS at hr
  obtain ⟨j, -, rfl⟩ := List.mem_map.mp hr
  rw [b64_G (chunk_in h z j)] at hc
  exact G_sgn _ (chunk_in h z j) c hc
theorem rowsS_no10 {ks : List Int} (h : ∀ k ∈ ks, 0 ≤ k ∧ k < 256) {z i : Nat} : ∀ r ∈ rowsS ks z i, (10 : Int) ∉ r := fun r hr hc => (rowsS_mem h r hr 10 hc).ok.1 rfl
theorem enc_split {ks : List Int} (h : ∀ k ∈ ks, 0 ≤ k ∧ k < 256) {z i : Nat} : splitL (rowsB ks z i).flatten = rowsS ks z i ++ [[]] := by
  rw [rowsB_S]
  exact splitL_rows _ (rowsS_no10 h)
theorem chunk_len (ks : List Int) (z j : Nat) : (chunkB ks z j).length = min z (ks.length - j * z) := by
  unfold chunkB
  rw [List.length_take, List.length_drop]
theorem rowsS_len {ks : List Int} (h : ∀ k ∈ ks, 0 ≤ k ∧ k < 256) (z i j : Nat) (hj : j < i) : ∃ r, (rowsS ks z i)[j]? = some r ∧ r.length = (min z (ks.length - j * z) + 2) / 3 * 4 := by
  refine ⟨b64 (chunkB ks z j), ?_, ?_⟩
  · unfold rowsS
    rw [List.getElem?_map, List.getElem?_range hj]
    rfl
  · rw [b64_G (chunk_in h z j), G_len, chunk_len]
theorem cnt_hi {n z i : Nat} (hz : 1 ≤ z) (h : i < cntB n z) : i * z < n := cntB_lt h
theorem cnt_end {n z : Nat} (hz : 1 ≤ z) : n ≤ cntB n z * z := by
  unfold cntB
  split
  · rename_i hn
    have h1 := Nat.lt_div_mul_add (a := n - 1) (b := z) hz
    rw [Nat.add_mul, Nat.one_mul]
    omega
  · omega
theorem rows_upto {ks : List Int} (h : ∀ k ∈ ks, 0 ≤ k ∧ k < 256) {z : Nat} (h3 : 3 ∣ z) : ∀ i, i ≤ cntB ks.length z → 1 ≤ z → (rowsS ks z i).flatten = G (ks.take (i * z))
  | 0, _, _ => by simp [rowsS, G]
  | i + 1, hi, hz => by
    have ih := rows_upto h h3 i (by omega) hz
    have e : rowsS ks z (i + 1) = rowsS ks z i ++ [b64 (chunkB ks z i)] := by
      unfold rowsS
      rw [List.range_succ, List.map_append]
      rfl
    rw [e, List.flatten_append, ih, List.flatten_cons, List.flatten_nil, List.append_nil, b64_G (chunk_in h z i)]
    have hlt : i * z < ks.length := cntB_lt (by omega)
    rw [← G_app _ _ (by
      rw [List.length_take, Nat.min_eq_left (by omega)]
      exact Nat.dvd_trans h3 (Nat.dvd_mul_left z i))]
    congr 1
    rw [Nat.add_mul, Nat.one_mul, List.take_add]
    rfl
theorem rows_all {ks : List Int} (h : ∀ k ∈ ks, 0 ≤ k ∧ k < 256) {z : Nat} (h3 : 3 ∣ z) (hz : 1 ≤ z) : (rowsS ks z (cntB ks.length z)).flatten = G ks := by
  rw [rows_upto h h3 _ (Nat.le_refl _) hz, List.take_of_length_le (cnt_end hz)]
/-- how many octets a row holds -/
def zL (n lv : Nat) : Nat := max 16 (76 - colF (leadL n lv)) / 4 * 3
theorem zL_ok (n lv : Nat) : 12 ≤ zL n lv ∧ zL n lv ≤ 57 ∧ 3 ∣ zL n lv := by
  unfold zL
  refine ⟨by omega, by omega, Nat.dvd_mul_left 3 _⟩
theorem zL_eq (n lv : Nat) : (if 76 - (colF (leadL n lv) : Int) > 16 then 76 - (colF (leadL n lv) : Int) else 16).fdiv 4 * 3 = (zL n lv : Int) := by
  rw [Int.fdiv_eq_ediv_of_nonneg _ (by decide)]
  unfold zL
  split <;> omega
theorem mL_ok (n lv : Nat) : 16 ≤ (if 76 - (colF (leadL n lv) : Int) > 16 then 76 - (colF (leadL n lv) : Int) else 16) ∧ (if 76 - (colF (leadL n lv) : Int) > 16 then 76 - (colF (leadL n lv) : Int) else 16) ≤ 76 := by
  split <;> omega
/-- what the writer puts for one row of split -/
def outR (lead r : List Int) : List (List Int) := if r = [] then [] else [lead, r, [10]]
/-- the lead's octets as ints -/
def leadI (n lv : Nat) : List Int := KBw.bInts (leadL n lv).toArray
/-- all that write_bytes writes -/
def partsL (ks : List Int) (n lv : Nat) : List (List Int) := ((([leadI n lv, [60, 100, 97, 116, 97, 62], [10]] ++ ((rowsS ks (zL n lv) (cntB ks.length (zL n lv)) ++ [[]]).map (outR (leadI n lv))).flatten) ++ [leadI n lv]) ++ [[60, 47, 100, 97, 116, 97, 62]]) ++ [[10]]
end Mine
end
section
open PySem PySem.W PyProof.Rows PySem.Calls PySem.Spec
set_option Elab.async false
set_option maxRecDepth 100000
namespace Mine
theorem subL_of : ∀ {l all : List (Addr × Obj)}, (∀ p ∈ l, p ∈ all) → SubL l all
  | [], _, _ => trivial
  | _ :: _, _, h => ⟨h _ (.head _), subL_of fun p hp => h p (.tail _ hp)⟩
/-- what a turn of write_bytes' loop leaves -/
structure WT (D P W : Addr) (lo : Obj) (g : Obj → List (Addr × Obj)) (acc : List (List Int)) (bd : Nat) (m : Str → Option Value) (nw : List (Addr × Obj)) : Prop where
  self : m "self" = some (.ref W)
  led : ∃ its n, BysAre its.toList acc ∧ its.size ≤ bd ∧ nw = (D, lo) :: g (listOf its n)
section
variable {prog : Program} {w : World} {A : Around} {E : Value → Shared → Prop} {s : Shared} {h₀ : Heap} {env : Env} {target : Expr} {body : List Stmt} {Q : Flow → Shared → Prop}
/-- a for over a made list, by what holds behind i turns -/
theorem listGoI {D : Addr} {lo : Obj} {vs : List Value} {n : Nat} {m₀ : Str → Option Value} {news less : List (Addr × Obj)} (MI : Nat → (Str → Option Value) → List (Addr × Obj) → Prop)
    (hh : A.handled = none) (F : Fr h₀ env.locals s.heap m₀) (N : News h₀ env.locals s.heap news) (hm : (D, lo) ∈ news) (hc : lo.cls = .type "list") (hd : lo.data = .seq vs.toArray n) (sub : SubL less news) (h0 : MI 0 m₀ less)
    (hnil : ∀ m nw, MI vs.length m nw → ∀ h tk, Fr h₀ env.locals h m → News h₀ env.locals h nw → Q .next { s with heap := h, toks := tk })
    (hstep : ∀ (Q' : Flow → Shared → Prop) (i : Nat) (v : Value) m nw, vs[i]? = some v → MI i m nw → ∀ I it h tk, it.cls = .type "list_iterator" → (∀ p ∈ news, p.1 < I) → Fr h₀ env.locals h m → News h₀ env.locals h ((I, it) :: nw) →
      wpAny (model prog w) A (assign target env v) (fun _ s₂ => wpAny (model prog w) A (execs body env) (UnrPostW h₀ env.locals { s with heap := h, toks := tk } [(I, it)] (fun m' n' => SubL [(D, lo)] n' ∧ MI (i + 1) m' n') Q') E s₂) E { s with heap := h, toks := tk }) :
    wpAny (model prog w) A (pyIter (.ref D)) (fun it s₂ => TurnsAt prog w A h₀ env target body Q E it s₂) E s := by
  refine iter_listTurns hh F N hm hc hd fun I hI0 => itemsLess sub (itemsInv (fun r m nw => ∃ i, r = vs.drop i ∧ i ≤ vs.length ∧ MI i m nw) (fun m nw hI h tk F N => ?_) (fun v r m nw hI h tk F => ?_) vs m₀ less ⟨0, rfl, Nat.zero_le _, h0⟩)
  · obtain ⟨i, hr, hi, hM⟩ := hI
    have hge : vs.length ≤ i := by
      have := congrArg List.length hr
      simp only [List.length_nil, List.length_drop] at this
      omega
    have e : i = vs.length := Nat.le_antisymm hi hge
    subst e
    exact hnil m nw hM h tk F N
  · obtain ⟨i, hr, hi, hM⟩ := hI
    have hlt : i < vs.length := by
      have := congrArg List.length hr
      simp only [List.length_cons, List.length_drop] at this
      omega
    have hv : vs[i]? = some v := by
      have : (vs.drop i)[0]? = some v := by rw [← hr]; rfl
      rw [List.getElem?_drop] at this
      exact this
    have hr' : r = vs.drop (i + 1) := by
      have : (v :: r).tail = (vs.drop i).tail := by rw [hr]
      rw [List.tail_drop] at this
      exact this
    refine AllObj.cons (fun o' hc' => ?_)
    refine AllObj.nil (fun N' => ?_)
    refine wpAny_mono (hstep Q i v m nw hv hM I o' h tk hc' hI0 F N') (fun _ s₂ h₂ => wpAny_mono h₂ (fun f s₃ p => UnrPostW.mono (fun m' n' ⟨a, b⟩ => ⟨a, i + 1, hr', hlt, b⟩) p) fun _ _ e => e) fun _ _ e => e
theorem rowsGo {D P W : Addr} {vs : List Value} {its0 : Array Value} {n0 : Nat} {m₀ : Str → Option Value} {less : List (Addr × Obj)} {g : Obj → List (Addr × Obj)} {rows head : List (List Int)} (lead : List Int)
    (hh : A.handled = none) (F : Fr h₀ env.locals s.heap m₀) (N : News h₀ env.locals s.heap ((D, listOf vs.toArray 0) :: less)) (U : UpdF P (listOf its0 n0) less g) (hg : less = g (listOf its0 n0)) (hv : BysAre vs rows) (hW : m₀ "self" = some (.ref W)) (hhead : BysAre its0.toList head) (hs0 : its0.size ≤ 3) (hrl : rows.length ≤ 10000)
    (hnil : ∀ m its n h tk, m "self" = some (.ref W) → BysAre its.toList (head ++ (rows.map (outR lead)).flatten) → its.size ≤ 100000 → Fr h₀ env.locals h m → News h₀ env.locals h (g (listOf its n)) → Q .next { s with heap := h, toks := tk })
    (hstep : ∀ (Q' : Flow → Shared → Prop) b t r acc m its n I it h tk, r ∈ rows → KBw.bInts b = r → m "self" = some (.ref W) → BysAre its.toList acc → its.size ≤ 100000 → it.cls = .type "list_iterator" → (∀ o', ∀ p ∈ (D, listOf vs.toArray 0) :: g o', p.1 ≠ I) → @LT.lt Nat _ P I → Fr h₀ env.locals h m → News h₀ env.locals h ((I, it) :: (D, listOf vs.toArray 0) :: g (listOf its n)) →
      wpAny (model prog w) A (assign target env (.bytes b t)) (fun _ s₂ => wpAny (model prog w) A (execs body env) (UnrPostW h₀ env.locals { s with heap := h, toks := tk } [(I, it)] (WT D P W (listOf vs.toArray 0) g (acc ++ outR lead r) (its.size + 3)) Q') E s₂) E { s with heap := h, toks := tk }) :
    wpAny (model prog w) A (pyIter (.ref D)) (fun it s₂ => TurnsAt prog w A h₀ env target body Q E it s₂) E s := by
  refine listGoI (D := D) (lo := listOf vs.toArray 0) (vs := vs) (n := 0) (MI := fun i m nw => WT D P W (listOf vs.toArray 0) g (head ++ ((rows.take i).map (outR lead)).flatten) (3 + 3 * i) m nw) (less := (D, listOf vs.toArray 0) :: less) hh F N (.head _) rfl rfl ?sub ?h0 ?nil ?step
  case sub =>
    exact subL_of fun _ hp => hp
  case h0 =>
    refine ⟨hW, its0, n0, ?_, by omega, by rw [hg]⟩
    simpa using hhead
  case nil =>
    intro m nw hI h tk F N
    obtain ⟨hs, its, n, hb, hz, rfl⟩ := hI
    rw [hv.length, List.take_of_length_le (Nat.le_refl _)] at hb
    rw [hv.length] at hz
    exact hnil m its n h tk hs hb (by omega) F fun p hp => N p (.tail _ hp)
  case step =>
    intro Q' i v m nw hvi hI I it h tk hit hlt F N
    obtain ⟨pre, post, e1, e2, e3, e4⟩ := U.split
    have hPI : P < I := hlt (P, listOf its0 n0) (.tail _ (by rw [e1]; exact List.mem_append.mpr (.inr (.head _))))
    have hoff : ∀ o', ∀ p ∈ (D, listOf vs.toArray 0) :: g o', p.1 ≠ I := fun o' p hp => by
      rcases List.mem_cons.mp hp with rfl | hp
      · exact Nat.ne_of_lt (hlt _ (.head _))
      · rw [e2] at hp
        rcases List.mem_append.mp hp with hp | hp
        · exact Nat.ne_of_lt (hlt p (.tail _ (by rw [e1]; exact List.mem_append.mpr (.inl hp))))
        · rcases List.mem_cons.mp hp with rfl | hp
          · exact Nat.ne_of_lt hPI
          · exact Nat.ne_of_lt (hlt p (.tail _ (by rw [e1]; exact List.mem_append.mpr (.inr (.tail _ hp)))))
    obtain ⟨hs, its, n, hb, hz, rfl⟩ := hI
    obtain ⟨b, t, r, rfl, hr, hbr⟩ := hv.at i v hvi
    have hi : i < rows.length := (List.getElem?_eq_some_iff.mp hr).1
    refine wpAny_mono (hstep Q' b t r _ m its n I it h tk (List.mem_of_getElem? hr) hbr hs hb (by omega) hit hoff hPI F N) (fun _ s₂ h₂ => wpAny_mono h₂ (fun f s₃ p => UnrPostW.mono (fun m' n' x => ?_) p) fun _ _ e => e) fun _ _ e => e
    obtain ⟨hs', its', n1, hb', hz', rfl⟩ := x
    refine ⟨⟨.head _, trivial⟩, hs', its', n1, ?_, by omega, rfl⟩
    have e : ((rows.take (i + 1)).map (outR lead)).flatten = ((rows.take i).map (outR lead)).flatten ++ outR lead r := by
      rw [List.take_add_one, hr]
      simp
    rw [e, ← List.append_assoc]
    exact hb'
end
end Mine
end
section
open PySem PySem.W PyProof.Rows PySem.Calls PySem.Spec
set_option Elab.async false
set_option maxRecDepth 100000
set_option maxHeartbeats 8000000
namespace Mine
local macro_rules | `(tactic| walk_at "call ref") => `(tactic| (k_here; refine wpAny_call ?_; k_dflt (refine' code_def ?k1 ?k2 ?k3 ?k4 ?k5 ?kA ?kF ?kK ?k6 ?k7 ?k8 ?k9 ?kB ?_ ?c2 ?c3 ?c4 ?c5; (case kA => exact rfl); (case kF => exact rfl); (case kK => exact rfl); (case k2 => assumption); (case k4 => assumption); (case k1 => assumption); (case k3 => assumption); (case k5 => assumption); (case k6 => k_is); (case k7 => k_is); (case k8 => ktr_room); (case k9 => exact BindsTo.of_eq rfl); (case c5 => decide); (case kB => exact locs rfl); (case c2 => exact rfl); (case c3 => exact rfl); (case c4 => exact rfl); k_whole; intro g' L' h' FG' F' N' B' X' T'; (try dsimp only); (try k_lift B'); (try k_fold))))
local macro_rules | `(tactic| walk_at "call ref") => `(tactic| (k_here; (rename WrF _ _ _ _ _ _ _ _ _ => zW); (rename Below _ _ _ _ => zB); (rename Fr _ _ _ _ => zF); (rename News _ _ _ _ => zN); (rename Frag.In _ _ => zX); (rename Top _ _ _ _ _ _ => zT); k_dflt (refine' zW.go zB rfl rfl rfl ?hd rfl zF zX zT zN ?hc ?hu ?hz ?_; (case hd => ktr_room); (case hc => k_subL); (case hu => k_upd); (case hz => (first | exact of_decide_eq_true rfl | ((try simp only [Array.size_push]); omega)))); intro h' k' F' N'))
local macro_rules | `(tactic| walk_at "callWith ref") => `(tactic| (k_here; k_dflt (refine' callWith_F ?k1 ?_; (case k1 => exact FnAt.of (by k_asm) (by k_mem)); k_whole)))
local macro_rules | `(tactic| walk_at "getMethod bytes") => `(tactic| (k_here; (with_reducible show wpAny _ _ (getMethod (Value.bytes _ _) (PySem.Str.ofString "expandtabs") _) _ _ _); k_dflt (refine k_getexp ?_)))
local macro_rules | `(tactic| walk_at "getMethod bytes") => `(tactic| (k_here; (with_reducible show wpAny _ _ (getMethod (Value.bytes _ _) (PySem.Str.ofString "split") _) _ _ _); k_dflt (refine k_getsplit ?_)))
local macro_rules | `(tactic| walk_at "call builtin:bytes.expandtabs") => `(tactic| (k_here; k_dflt (refine k_expL (by assumption) ?_); intro t'))
local macro_rules | `(tactic| walk_at "call builtin:len") => `(tactic| (k_here; (with_reducible show wpAny _ _ (call (Value.builtin "len") [Value.bytes (tabsB _) _]) _ _ _); k_dflt (refine k_lenL (by assumption) ?_); intro t' k'))
local macro_rules | `(tactic| walk_at "call ref") => `(tactic| (k_here; (with_reducible show wpAny _ _ (call (Value.ref 152) _) _ _ _); refine hold ?_))
local macro_rules | `(tactic| walk_at "call builtin:bytes.split") => `(tactic| (k_here; refine hold ?_))
local macro_rules | `(tactic| walk_at "exec For Name Call cons nil") => `(tactic| (k_here; (rename Fr _ _ _ _ => lF'); (with_unfolding_all refine' For_turns lF' ?_; k_whole)))
local macro_rules | `(tactic| walk_at "pyIter ref") => `(tactic| ((with_reducible show wpAny _ _ (pyIter (Value.ref _)) (fun it s₂ => TurnsAt _ _ _ _ _ _ _ _ _ it s₂) _ _); (refine hold ?_)))
local macro_rules | `(tactic| walk_at "getMethod str") => `(tactic| (k_here; (with_reducible show wpAny _ _ (getMethod (Value.str _ _) (PySem.Str.ofString "encode") _) _ _ _); k_dflt (refine k_getenc ?_)))
local macro_rules | `(tactic| walk_at "call builtin:str.encode") => `(tactic| (k_here; k_dflt (first | refine k_encA (by with_reducible rfl) ?_ | refine k_encB (by with_reducible rfl) ?_); intro t'))
local macro_rules | `(tactic| walk_at "binaryOp Mult int bytes") => `(tactic| (k_here; k_dflt (refine' k_leadE ?he ?hl ?_; (case hl => assumption); (case he => omega)); intro t' k'))
local macro_rules | `(tactic| walk_at "binaryOp Mult bytes int") => `(tactic| (k_here; k_dflt (refine' k_leadF ?he ?hl ?_; (case hl => assumption); (case he => omega)); intro t' k'))
structure SW (m : Str → Option Value) (W : Addr) : Prop where
  self : m "self" = some (.ref W)
section
variable {prog : Program} {w : World} {A : Around} {E : Value → Shared → Prop} {s : Shared} {b : Array UInt8} {t : Tok} {Q : Bool → Shared → Prop}
theorem k_truE (hk : KBw.bInts b = []) (h : Q false { s with toks := s.toks + 1 + 1 }) : wpAny (model prog w) A (truthy (.bytes b t)) Q E s := KBw.truthy_K hk (by decide) h
theorem k_truN {x : Int} {r : List Int} (hk : KBw.bInts b = x :: r) (hr : (x :: r).length ≤ 1000) (h : Q true { s with toks := s.toks + 1 + 1 }) : wpAny (model prog w) A (truthy (.bytes b t)) Q E s := KBw.truthy_K hk (by omega) h
end
local macro_rules | `(tactic| walk_at "truthy bytes") => `(tactic| (k_here; k_dflt (first | refine k_truE (by assumption) ?_ | refine k_truN (by assumption) (by assumption) ?_)))
local macro_rules | `(tactic| walk_at "eval Name") => `(tactic| (k_here; (with_reducible show wpAny _ _ (eval (Expr.Name _ _) _) _ _ _); (rename Fr _ _ _ _ => zF); (rename SW _ _ => zM); k_dflt (refine ld zF (by with_unfolding_all exact zM.self) ?_)))
theorem k_wb {w : World} {env : Env} {dp un : Nat} {gd : Option (List Code)} {outer : List Env} {base g₀ : Heap} {s : Shared} {L : Addr} {m mg mb : Str → Option Value} {mean : ExcName → Option Value} {loose : List Str} {p : Program} {Q E : Value → Shared → Prop}
    {S W d f c Fl d2 P cell : Addr} {oc oo : Obj} {fd : FuncData} {ps : Array Value} {cS cP nS lv : Nat} {y1 y2 y3 y4 y5 y6 y7 y8 y9 u3 u4 u8 tb9 : Tok} {b : Array UInt8} {ks : List Int}
    (B : Below (arnd dp un gd outer) base outer g₀) (hf : env.frame = some L) (hke : env.scope.kind = .function) (F : Fr g₀ L s.heap m) (X : (hd06.heap_39 w.params).In g₀) (T : Top p loose mean mg mb g₀)
    (N : News g₀ L s.heap [(S, listOf #[] cS), (W, instObj 270 d), (d, dictOf [{ hash := PyData.keyHash w.params (Str.ofString "file"), key := .str (Str.ofString "file") y1, val := .ref Fl }, { hash := PyData.keyHash w.params (Str.ofString "stack"), key := .str (Str.ofString "stack") y2, val := .ref S },
      { hash := PyData.keyHash w.params (Str.ofString "_indent_level"), key := .str (Str.ofString "_indent_level") y3, val := .int (lv : Int) u3 }, { hash := PyData.keyHash w.params (Str.ofString "indent"), key := .str (Str.ofString "indent") y4, val := .bytes (indL nS).toArray u4 },
      { hash := PyData.keyHash w.params (Str.ofString "_sort_keys"), key := .str (Str.ofString "_sort_keys") y5, val := .bool true }, { hash := PyData.keyHash w.params (Str.ofString "_skipkeys"), key := .str (Str.ofString "_skipkeys") y6, val := .bool false },
      { hash := PyData.keyHash w.params (Str.ofString "_aware_datetime"), key := .str (Str.ofString "_aware_datetime") y7, val := .bool false }] 7),
      (f, ({ cls := .type "function", data := .func fd } : Obj)), (c, oc), (Fl, instObj 113 d2), (d2, dictOf [{ hash := PyData.keyHash w.params (Str.ofString "data"), key := .str (Str.ofString "data") y8, val := .int 0 u8 }, { hash := PyData.keyHash w.params (Str.ofString "write"), key := .str (Str.ofString "write") y9, val := .ref f }] 2),
      (P, listOf #[] cP), (cell, oo), (281, tabObj ps)])
    (l1 : @LT.lt Nat _ 281 cell) (l2 : @LT.lt Nat _ cell P) (l3 : @LT.lt Nat _ P d2) (l4 : @LT.lt Nat _ d2 Fl) (l5 : @LT.lt Nat _ Fl c) (l6 : @LT.lt Nat _ c f) (l7 : @LT.lt Nat _ f d) (l8 : @LT.lt Nat _ d W) (l9 : @LT.lt Nat _ W S)
    (wf : WrF w p loose mean mg mb f P [(f, ({ cls := .type "function", data := .func fd } : Obj)), (c, oc), (cell, oo), (281, tabObj ps)]) (hlv : lv < 13) (hk : KBw.bInts b = ks) (hk2 : ∀ k ∈ ks, 0 ≤ k ∧ k < 256) (hl : ks.length ≤ 5000) (hdp : dp + 60 < recursionLimit) (hu : un + 400 < cLine)
    (hfin : ∀ h' tk (its : Array Value) (n cS' : Nat) (u : Tok), BysAre its.toList (partsL ks nS lv) → its.size ≤ 100003 → Fr g₀ L h' m → News g₀ L h' [(S, listOf #[] cS'), (W, instObj 270 d), (d, dictOf [{ hash := PyData.keyHash w.params (Str.ofString "file"), key := .str (Str.ofString "file") y1, val := .ref Fl }, { hash := PyData.keyHash w.params (Str.ofString "stack"), key := .str (Str.ofString "stack") y2, val := .ref S },
      { hash := PyData.keyHash w.params (Str.ofString "_indent_level"), key := .str (Str.ofString "_indent_level") y3, val := .int (lv : Int) u }, { hash := PyData.keyHash w.params (Str.ofString "indent"), key := .str (Str.ofString "indent") y4, val := .bytes (indL nS).toArray u4 },
      { hash := PyData.keyHash w.params (Str.ofString "_sort_keys"), key := .str (Str.ofString "_sort_keys") y5, val := .bool true }, { hash := PyData.keyHash w.params (Str.ofString "_skipkeys"), key := .str (Str.ofString "_skipkeys") y6, val := .bool false },
      { hash := PyData.keyHash w.params (Str.ofString "_aware_datetime"), key := .str (Str.ofString "_aware_datetime") y7, val := .bool false }] 7),
      (f, ({ cls := .type "function", data := .func fd } : Obj)), (c, oc), (Fl, instObj 113 d2), (d2, dictOf [{ hash := PyData.keyHash w.params (Str.ofString "data"), key := .str (Str.ofString "data") y8, val := .int 0 u8 }, { hash := PyData.keyHash w.params (Str.ofString "write"), key := .str (Str.ofString "write") y9, val := .ref f }] 2),
      (P, listOf its n), (cell, oo), (281, tabObj ps)] → Q .none { s with heap := h', toks := tk }) :
    wpAny (model PySem.Challenge.rw_ko0126_06.row.prog w) ((arnd dp un gd outer).deeper env) (call (.ref 253) [.ref W, .bytes b tb9]) Q E s := by
  w_top off
  obtain ⟨g, gens₀, drawn₀, toks₀, os₀⟩ := s
  dsimp only at *
  revert X; k_fill; intro X
  refine wpAny_call ?_
  refine' code_def B F X N T rfl hf hke ?k6 ?k7 ?k8 ?k9 ?kB ?_ ?c2 ?c3 ?c4 ?c5
  case k6 => k_is
  case k7 => k_is
  case k8 => ktr_room
  case k9 => exact BindsTo.of_eq rfl
  case c5 => decide
  case kB => exact locs rfl
  case c2 => exact rfl
  case c3 => exact rfl
  case c4 => exact rfl
  k_whole
  intro g' L' h' FG' F' N' B' X' T'
  (try dsimp only)
  (try k_lift B')
  (try k_fold)
  k_steps
  delta Hold
  refine' k_encC (dp := dp + 1) (un := un + 3) (z := zL nS lv) ?eB ?eF ?eN ?eX ?eT rfl hk (by omega) (mL_ok nS lv) (zL_eq nS lv) (by omega) (by omega) ?_
  case eB => assumption
  case eF => assumption
  case eN => assumption
  case eX => assumption
  case eT => assumption
  intro h7 tk7 t7 c7 F7 N7 hc7
  dsimp only
  k_steps
  delta Hold
  have hcs : c7.size ≤ 1000000 := by
    have e := congrArg List.length hc7
    rw [KBw.ints_length] at e
    have h2 := (zL_ok nS lv).2.1
    have h3 := rowsB_len (ks := ks) (z := zL nS lv) (i := cntB ks.length (zL nS lv)) (B := 118) (by omega)
    have h4 := cntB_le ks.length (zL nS lv)
    omega
  refine k_bsplit F7 N7 hcs ?_
  intro D h8 vs k8 hv F8 N8 hlt
  clear F7 N7
  rw [hc7, enc_split hk2] at hv
  dsimp only
  k_steps
  delta Hold
  have hPD : @LT.lt Nat _ P D := hlt (P, _) (by k_mem)
  (rename Fr _ _ _ _ => zF)
  (rename News _ _ _ _ => zN)
  refine' rowsGo (P := P) (W := W) (KBw.bInts (leadL nS lv).toArray) rfl zF zN ?rU ?rg hv rfl ?rH ?rs ?rl ?rnil ?rstep
  case rU => k_updF
  case rg => rfl
  case rH => exact .cons rfl (.cons rfl (.cons rfl .nil))
  case rs => exact of_decide_eq_true rfl
  case rl =>
    have h4 := cntB_le ks.length (zL nS lv)
    unfold rowsS
    rw [List.length_append, List.length_map, List.length_range, List.length_singleton]
    omega
  case rstep =>
    intro Q' b1 t1 r acc m1 its n I it h tk hr hb1 hself hacc hsz hit hoff hPI F N
    have hM : SW m1 W := ⟨hself⟩
    have hrz : r.length ≤ 1000 := by
      rcases List.mem_append.mp hr with hr | hr
      · unfold rowsS at hr
        obtain ⟨j, -, rfl⟩ := List.mem_map.mp hr
        have h1 := b64_len (chunkB ks (zL nS lv) j)
        have h2 := chunk_len ks (zL nS lv) j
        have h3 := (zL_ok nS lv).2.1
        omega
      · rw [List.mem_singleton.mp hr]
        decide
    clear zF zN hv hlt hc7 hcs hr
    dsimp only at N
    cases r with
    | nil =>
      k_steps
      (rename Fr _ _ _ _ => zF)
      (rename News _ _ _ _ => zN)
      refine ⟨_, _, _, _, rfl, zF, zN, fun p hp q hq => by rw [List.mem_singleton.mp hq]; exact hoff _ p hp, by with_unfolding_all exact hself, _, _, ?_, ?_, rfl⟩
      · show BysAre its.toList (acc ++ outR _ [])
        rw [outR, if_pos rfl, List.append_nil]
        exact hacc
      · omega
    | cons x r =>
      k_steps
      (rename Fr _ _ _ _ => zF)
      (rename News _ _ _ _ => zN)
      refine ⟨_, _, _, _, rfl, zF, zN, fun p hp q hq => by rw [List.mem_singleton.mp hq]; exact hoff _ p hp, by with_unfolding_all exact hself, _, _, ?_, ?_, rfl⟩
      · rw [outR, if_neg (List.cons_ne_nil _ _), Array.toList_push, Array.toList_push, Array.toList_push]
        rw [show acc ++ [KBw.bInts (leadL nS lv).toArray, x :: r, [10]] = ((acc ++ [KBw.bInts (leadL nS lv).toArray]) ++ [x :: r]) ++ [[10]] by simp]
        exact ((hacc.snoc rfl).snoc hb1).snoc rfl
      · simp only [Array.size_push]
        omega
  case rnil =>
    intro m1 its n h tk hself hb1 hsz F N
    have hM : SW m1 W := ⟨hself⟩
    clear zF zN hv hlt hc7 hcs
    dsimp only at N
    dsimp only
    k_steps
    (rename Fr _ _ _ _ => zF)
    (rename News _ _ _ _ => zN)
    have e : ((lv : Int) + 1 - 1 + 1 - 1) = (lv : Int) := by omega
    rw [e] at zN
    exact hfin _ _ _ _ _ _ (by rw [Array.toList_push, Array.toList_push, Array.toList_push]; exact ((hb1.snoc rfl).snoc rfl).snoc rfl) (by simp only [Array.size_push]; omega) zF zN
end Mine
end
section
open PySem PySem.W PyProof.Rows PySem.Calls PySem.Spec
set_option Elab.async false
set_option maxRecDepth 100000
set_option maxHeartbeats 8000000
namespace Mine
theorem k_wb12 {w : World} {env : Env} {dp un : Nat} {gd : Option (List Code)} {outer : List Env} {base g₀ : Heap} {s : Shared} {L : Addr} {m mg mb : Str → Option Value} {mean : ExcName → Option Value} {loose : List Str} {p : Program} {Q E : Value → Shared → Prop}
    {S W d f c Fl d2 P cell : Addr} {oc oo om1 om2 : Obj} {me1 me2 : Addr} {fd : FuncData} {ps : Array Value} {cS cP nS lv : Nat} {y1 y2 y3 y4 y5 y6 y7 y8 y9 u3 u4 u8 tb9 : Tok} {b : Array UInt8} {ks : List Int}
    (B : Below (arnd dp un gd outer) base outer g₀) (hf : env.frame = some L) (hke : env.scope.kind = .function) (F : Fr g₀ L s.heap m) (X : (hd06.heap_39 w.params).In g₀) (T : Top p loose mean mg mb g₀)
    (N : News g₀ L s.heap [(S, listOf #[] cS), (W, instObj 270 d), (d, dictOf [{ hash := PyData.keyHash w.params (Str.ofString "file"), key := .str (Str.ofString "file") y1, val := .ref Fl }, { hash := PyData.keyHash w.params (Str.ofString "stack"), key := .str (Str.ofString "stack") y2, val := .ref S },
      { hash := PyData.keyHash w.params (Str.ofString "_indent_level"), key := .str (Str.ofString "_indent_level") y3, val := .int (lv : Int) u3 }, { hash := PyData.keyHash w.params (Str.ofString "indent"), key := .str (Str.ofString "indent") y4, val := .bytes (indL nS).toArray u4 },
      { hash := PyData.keyHash w.params (Str.ofString "_sort_keys"), key := .str (Str.ofString "_sort_keys") y5, val := .bool true }, { hash := PyData.keyHash w.params (Str.ofString "_skipkeys"), key := .str (Str.ofString "_skipkeys") y6, val := .bool false },
      { hash := PyData.keyHash w.params (Str.ofString "_aware_datetime"), key := .str (Str.ofString "_aware_datetime") y7, val := .bool false }] 7),
      (me1, om1), (f, ({ cls := .type "function", data := .func fd } : Obj)), (c, oc), (Fl, instObj 113 d2), (d2, dictOf [{ hash := PyData.keyHash w.params (Str.ofString "data"), key := .str (Str.ofString "data") y8, val := .int 0 u8 }, { hash := PyData.keyHash w.params (Str.ofString "write"), key := .str (Str.ofString "write") y9, val := .ref f }] 2),
      (P, listOf #[] cP), (me2, om2), (cell, oo), (281, tabObj ps)])
    (l1 : @LT.lt Nat _ 281 cell) (l2 : @LT.lt Nat _ cell P) (l3 : @LT.lt Nat _ P d2) (l4 : @LT.lt Nat _ d2 Fl) (l5 : @LT.lt Nat _ Fl c) (l6 : @LT.lt Nat _ c f) (l7 : @LT.lt Nat _ f d) (l8 : @LT.lt Nat _ d W) (l9 : @LT.lt Nat _ W S)
    (wf : WrF w p loose mean mg mb f P [(f, ({ cls := .type "function", data := .func fd } : Obj)), (c, oc), (cell, oo), (281, tabObj ps)]) (hlv : lv < 13) (hk : KBw.bInts b = ks) (hk2 : ∀ k ∈ ks, 0 ≤ k ∧ k < 256) (hl : ks.length ≤ 5000) (hdp : dp + 60 < recursionLimit) (hu : un + 400 < cLine)
    (hfin : ∀ h' tk (its : Array Value) (n cS' : Nat) (u : Tok), BysAre its.toList (partsL ks nS lv) → its.size ≤ 100003 → Fr g₀ L h' m → News g₀ L h' [(S, listOf #[] cS'), (W, instObj 270 d), (d, dictOf [{ hash := PyData.keyHash w.params (Str.ofString "file"), key := .str (Str.ofString "file") y1, val := .ref Fl }, { hash := PyData.keyHash w.params (Str.ofString "stack"), key := .str (Str.ofString "stack") y2, val := .ref S },
      { hash := PyData.keyHash w.params (Str.ofString "_indent_level"), key := .str (Str.ofString "_indent_level") y3, val := .int (lv : Int) u }, { hash := PyData.keyHash w.params (Str.ofString "indent"), key := .str (Str.ofString "indent") y4, val := .bytes (indL nS).toArray u4 },
      { hash := PyData.keyHash w.params (Str.ofString "_sort_keys"), key := .str (Str.ofString "_sort_keys") y5, val := .bool true }, { hash := PyData.keyHash w.params (Str.ofString "_skipkeys"), key := .str (Str.ofString "_skipkeys") y6, val := .bool false },
      { hash := PyData.keyHash w.params (Str.ofString "_aware_datetime"), key := .str (Str.ofString "_aware_datetime") y7, val := .bool false }] 7),
      (f, ({ cls := .type "function", data := .func fd } : Obj)), (c, oc), (Fl, instObj 113 d2), (d2, dictOf [{ hash := PyData.keyHash w.params (Str.ofString "data"), key := .str (Str.ofString "data") y8, val := .int 0 u8 }, { hash := PyData.keyHash w.params (Str.ofString "write"), key := .str (Str.ofString "write") y9, val := .ref f }] 2),
      (P, listOf its n), (cell, oo), (281, tabObj ps)] → Q .none { s with heap := h', toks := tk }) :
    wpAny (model PySem.Challenge.rw_ko0126_06.row.prog w) ((arnd dp un gd outer).deeper env) (call (.ref 253) [.ref W, .bytes b tb9]) Q E s :=
  k_wb B hf hke F X T (fun q hq => N q (SubL.mem (by k_subL) q hq)) l1 l2 l3 l4 l5 l6 l7 l8 l9 wf hlv hk hk2 hl hdp hu hfin
end Mine
end
section
open PySem PySem.W PyProof.Rows PySem.Calls PySem.Spec
set_option Elab.async false
set_option maxRecDepth 100000
set_option maxHeartbeats 8000000
namespace Mine
theorem upd_mem {d : Addr} {o o' : Obj} {l l' : List (Addr × Obj)} (U : Upd d o o' l l') : (d, o) ∈ l := by
  obtain ⟨pre, post, rfl, -, -, -⟩ := U.split
  exact List.mem_append.mpr (.inr (.head _))
local macro_rules | `(tactic| walk_at "getMethod ref") => `(tactic| (k_here; (with_reducible show wpAny _ _ (getMethod (Value.ref _) (PySem.Str.ofString "append") _) _ _ _); (rename Upd _ _ _ _ _ => zU); (rename News _ _ _ _ => zN); k_dflt (refine kl_method zN (upd_mem zU) PySem.F.slot_list_append PySem.F.type_list_append ?_)))
local macro_rules | `(tactic| walk_at "eval Name") => `(tactic| (k_here; (with_reducible show wpAny _ _ (eval (Expr.Name (PySem.Str.ofString "parts") _) _) _ _ _); (rename SubL _ _ => zS); (rename News _ _ _ _ => zN); k_dflt (refine' nameX_F zN rfl zS.2.2.1 (by assumption) ?_ rfl rfl)))
local macro_rules | `(tactic| walk_at "call builtin:list.append") => `(tactic| (k_here; (rename Upd _ _ _ _ _ => zU); (rename News _ _ _ _ => zN); (rename Fr _ _ _ _ => zF); k_dflt (refine' append_K zF zN zU ?_ ?az; (case az => (rw [sizeLine_eq]; omega))); intro h' F' N'))
theorem wrF {w : World} {p : Program} {loose : List Str} {mean : ExcName → Option Value} {mg mb : Str → Option Value} {f P c cell : Addr} {oc oo tb : Obj} {qual : Str} {pm ct : Value} {b0 e0 b1 e1 b2 e2 b3 e3 b4 e4 : Nat} {vs : Array Value} {t : Tok}
    (d1 : oc.data = .fields vs) (d2 : vs[1]? = some (.str qual t)) (d3 : oo.data = .cell (some (.ref P))) :
    WrF w p loose mean mg mb f P [(f, kla_obj (Str.ofString "<lambda>") qual { posonlyargs := [], args := [{ arg := Str.ofString "part", annotation := none, pos := ⟨224, b0, 224, e0⟩ }], vararg := none, kwonlyargs := [], kw_defaults := [], kwarg := none, defaults := [] }
      (.Call (.Attribute (.Name (Str.ofString "parts") ⟨224, b1, 224, e1⟩) (Str.ofString "append") ⟨224, b2, 224, e2⟩) [.Name (Str.ofString "part") ⟨224, b3, 224, e3⟩] [] ⟨224, b4, 224, e4⟩)
      { kind := .function, names := [(Str.ofString "part", .local), (Str.ofString "parts", .free)], isGenerator := false, isCoroutine := false } [(Str.ofString "parts", cell)] pm c ct), (c, oc), (cell, oo), (281, tb)] := by
  w_top off
  refine ⟨?_⟩
  intro A₀ A env outer base g s L m its n v Q E news news' B hA hf hke hdp hh F X T N hcore U hz hq
  obtain ⟨g0, gens₀, drawn₀, toks₀, os₀⟩ := s
  dsimp only at *
  revert X; k_fill; intro X
  refine wpAny_call ?_
  refine' kla_code B F X N T hA hf hke hcore.1 ?k7 ?k8 ?k9 ?kB ?_ ?c2 ?c3 ?c4 ?c5
  case k7 => exact codeRec_news N hcore.2.1 d1 d2
  case k8 => omega
  case k9 => exact rfl
  case kB => exact locs rfl
  case c2 => exact rfl
  case c3 => exact rfl
  case c4 => exact rfl
  case c5 => decide
  k_whole
  intro g' L' h' FG' F' N' B' X' T'
  dsimp only
  clear F N B X T
  (try k_fold)
  k_steps
  rename Fr _ _ _ _ => zF
  rename News _ _ _ _ => zN
  exact leaveK_ zF zN fun kF kN => hq _ _ kF kN
end Mine
end
section
open PySem PySem.W PyProof.Rows PySem.Calls PySem.Spec
set_option Elab.async false
set_option maxRecDepth 100000
namespace Mine
theorem ints_inj {b c : Array UInt8} (h : KBw.bInts b = KBw.bInts c) : b = c := by
  refine Array.toList_inj.mp ?_
  have hinj : ∀ (l r : List UInt8), (l.map fun c => ((c.toNat : Nat) : Int)) = (r.map fun c => ((c.toNat : Nat) : Int)) → l = r := by
    intro l
    induction l with
    | nil => intro r h; cases r with
      | nil => rfl
      | cons _ _ => cases h
    | cons a l ih => intro r h; cases r with
      | nil => cases h
      | cons d r =>
        rw [List.map_cons, List.map_cons] at h
        obtain ⟨h1, h2⟩ := List.cons.inj h
        rw [ih r h2, UInt8.toNat_inj.mp (Int.ofNat.inj h1)]
  exact hinj _ _ h
section
variable {prog : Program} {w : World} {A : Around} {E : Value → Shared → Prop} {s : Shared} {b c : Array UInt8} {t u : Tok} {ks : List Int} {h₀ : Heap} {L : Addr} {news : List (Addr × Obj)}
theorem k_bne {Q : Value → Shared → Prop} (hb : KBw.bInts b = ks) (hc : KBw.bInts c = ks) (h : Q (.bool false) s) : wpAny (model prog w) A (compareOp .NotEq (.bytes b t) (.bytes c u)) Q E s := by
  have e := ints_inj (hb.trans hc.symm)
  subst e
  refine ne_bytes ?_
  rw [bne_self_eq_false]
  exact h
theorem bytes_eqAt (hb : KBw.bInts b = ks) (hc : KBw.bInts c = ks) : SeqAt.EqAt A s (.bytes b t) (.bytes c u) true := fun prog w E Q hq => by
  have e := ints_inj (hb.trans hc.symm)
  subst e
  unfold eqBool
  refine wpAny_holding ?_
  refine wpAny_ite_split (fun _ => ?_) (fun _ => ?_)
  · exact wpAny_bind (wpAny_rule (wpAny_pure hq))
  · refine wpAny_bind (richCompare_gives (typeIs_bytes s b t) (typeIs_bytes s b u) FB.slot_bytes_eq FB.entry_bytes_eq (FB.args_bytes_eq_2 _ _) (gives_bytes_eq b b t u) (fun e => nomatch e) ?_)
    refine wpAny_truthy_bool ?_
    rw [beq_self_eq_true]
    exact hq
/-- two lists of two equal octet strings each are not unequal -/
theorem k_bbne {l1 l2 : Addr} {n1 n2 : Nat} {a1 a2 b1 b2 : Array UInt8} {ta1 ta2 tb1 tb2 : Tok} {k1 k2 : List Int} {Q : Value → Shared → Prop} (N : News h₀ L s.heap news) (h1 : (l1, listOf #[.bytes a1 ta1, .bytes a2 ta2] n1) ∈ news) (h2 : (l2, listOf #[.bytes b1 tb1, .bytes b2 tb2] n2) ∈ news)
    (e1 : KBw.bInts a1 = k1) (e2 : KBw.bInts a2 = k2) (e3 : KBw.bInts b1 = k1) (e4 : KBw.bInts b2 = k2) (hu : A.units + 64 < cLine) (hq : Q (.bool false) s) : wpAny (model prog w) A (compareOp .NotEq (.ref l1) (.ref l2)) Q E s := by
  refine cmp_ofNotEq (SeqAt.RcNeAt.lists (items := #[.bytes a1 ta1, .bytes a2 ta2]) (items2 := #[.bytes b1 tb1, .bytes b2 tb2]) (e := fun _ => true) ⟨_, N.get h1, rfl, _, rfl⟩ ⟨_, N.get h2, rfl, _, rfl⟩ rfl (by omega) (fun j hj1 hj2 => ?_) prog w _ _ ?_)
  · have e0 : j = 0 ∨ j = 1 := by simp at hj1; omega
    rcases e0 with e0 | e0
    · subst e0
      exact bytes_eqAt e1 e3
    · subst e0
      exact bytes_eqAt e2 e4
  · exact hq
end
/-- rows with a front, then two at the end -/
theorem bys_cut {vs : List Value} {a b c : List Int} {mid : List (List Int)} (h : BysAre vs (a :: mid ++ [b, c])) :
    ∃ ba ta vm bb tb bc tc, vs = .bytes ba ta :: vm ++ [.bytes bb tb, .bytes bc tc] ∧ KBw.bInts ba = a ∧ BysAre vm mid ∧ KBw.bInts bb = b ∧ KBw.bInts bc = c := by
  cases h with
  | cons ha r =>
    have key : ∀ {mid : List (List Int)} {ws : List Value}, BysAre ws (mid ++ [b, c]) → ∃ vm bb tb bc tc, ws = vm ++ [.bytes bb tb, .bytes bc tc] ∧ BysAre vm mid ∧ KBw.bInts bb = b ∧ KBw.bInts bc = c := by
      intro mid
      induction mid with
      | nil =>
        intro ws h
        cases h with
        | cons hb r => cases r with
          | cons hc r => cases r with
            | nil => exact ⟨[], _, _, _, _, rfl, .nil, hb, hc⟩
      | cons x mid ih =>
        intro ws h
        cases h with
        | cons hx r =>
          obtain ⟨vm, bb, tb, bc, tc, e, h1, h2, h3⟩ := ih r
          exact ⟨_ :: vm, bb, tb, bc, tc, by rw [e]; rfl, .cons hx h1, h2, h3⟩
    obtain ⟨vm, bb, tb, bc, tc, e, h1, h2, h3⟩ := key r
    exact ⟨_, _, vm, bb, tb, bc, tc, by rw [e]; rfl, ha, h1, h2, h3⟩
end Mine
end
section
open PySem PySem.W PyProof.Rows PySem.Calls PySem.Spec PySem.Builtin
set_option Elab.async false
set_option maxRecDepth 100000
namespace Mine
section
variable {M : Model} {A : Around} {E : Value → Shared → Prop} {s : Shared}
theorem run_ascii {b : Array UInt8} {id : String} {Q : Array Nat × Nat → Shared → Prop} (hb : ∀ x ∈ b.toList, x.toNat < 128) (hz : b.size ≤ 1000000) (h : Q ((b.toList.map UInt8.toNat).toArray, b.size) s) :
    wpAny M A (_codecs.runDecoder id _codecs.asciiDecoder none true b 0 []) Q E s := by
  unfold _codecs.runDecoder
  show wpAny _ _ (bind (forIn _ _ _) _) _ _ _
  rw [Std.Legacy.Range.forIn_eq_forIn_range']
  have e0 : List.range' ([:b.size] : Std.Legacy.Range).start ([:b.size] : Std.Legacy.Range).size ([:b.size] : Std.Legacy.Range).step = List.range' 0 b.size := by simp [Std.Legacy.Range.size]
  rw [e0]
  refine wpAny_bind (wpAny_forIn_list _ (fun rest (st : Nat × Array Nat × _codecs.Faults) s' => s' = s ∧ ∃ i, i ≤ b.size ∧ rest = List.range' i (b.size - i) ∧ st.1 = i ∧ st.2.1 = ((b.toList.take i).map UInt8.toNat).toArray) _ ?turn ?fin _ _ ⟨rfl, 0, Nat.zero_le _, rfl, rfl, rfl⟩)
  case turn =>
    rintro x rest ⟨p, out, fs⟩ s' ⟨rfl, i, hi, hr, hp, ho⟩
    dsimp only at hp ho ⊢
    subst hp
    have hlt : p < b.size := by
      have := congrArg List.length hr
      simp at this
      omega
    have hrest : rest = List.range' (p + 1) (b.size - (p + 1)) := by
      have e : b.size - p = (b.size - (p + 1)) + 1 := by omega
      rw [e, List.range'_succ] at hr
      exact (List.cons.inj hr).2
    have hos : out.size = p := by
      rw [ho]
      simp
      omega
    rw [if_neg (by rw [hos, sizeLine_eq]; omega), if_neg (by omega)]
    have hf : _codecs.asciiDecoder.find true b p = _codecs.Found.text [b[p].toNat] (p + 1) := by
      have hc : b[p].toNat < 128 := hb _ (by simp)
      have hg : b.getD p 0 = b[p] := by simp [hlt]
      show (if (b.getD p 0).toNat < 128 then _ else _) = _
      rw [hg, if_pos hc]
      rfl
    rw [hf]
    dsimp only
    refine wpAny_pure ⟨rfl, p + 1, hlt, hrest, rfl, ?_⟩
    dsimp only
    rw [ho, List.take_add_one]
    simp [hlt]
  case fin =>
    rintro ⟨p, out, fs⟩ s' ⟨rfl, i, hi, hr, hp, ho⟩
    dsimp only at hp ho ⊢
    have hi' : i = b.size := by
      have := congrArg List.length hr
      simp at this
      omega
    subst hi' hp
    rw [ho, List.take_of_length_le (by simp)]
    exact wpAny_pure h
theorem road_ascii {id : String} {b : Array UInt8} : _codecs.decodeRoad id b (PySem.Str.ofString "ascii") none [] = (_codecs.runDecoder id _codecs.asciiDecoder none true b 0 [] >>= fun r => mkStr ⟨r.1⟩) := by kernel_rfl
theorem meets_textA {b : Array UInt8} {t t1 t2 : Tok} {d : PySem.Str} (hb : ∀ x ∈ b.toList, x.toNat < 128) (hz : b.size ≤ 1000000) :
    Meets («_codecs.decode.text» ⟨[.bytes b t, .str (PySem.Str.ofString "ascii") t1, .none, .str d t2], []⟩) (fun _ R s => R (.ok (.ret (.str ⟨(b.toList.map UInt8.toNat).toArray⟩ s.toks))) { s with toks := s.toks + 1 }) := by
  refine .of_wp fun prog w A R s h => ?_
  show wpAny _ _ (Bytes.bytesLike _ (.bytes b t) >>= fun r => _) _ _ s
  refine wpAny_bind (wpAny_of_eq KBd.like_eq ?_)
  refine wpAny_bind (wpAny_of_eq KBd.held_eq ?_)
  show wpAny _ _ (_codecs.decodeRoad _ b (PySem.Str.ofString "ascii") none [] >>= fun v => _) _ _ s
  rw [road_ascii]
  refine wpAny_bind (wpAny_bind (run_ascii hb hz ?_))
  exact wpAny_mkStr (wpAny_pure ⟨_, rfl, h⟩) (by
    show ((b.toList.map UInt8.toNat).toArray).size ≤ _
    rw [sizeLine_eq]
    simp
    omega)
theorem entry_dec2 {c : UInt8} {cs : List UInt8} {t t1 : Tok} : «bytes.decode» ⟨[.bytes (c :: cs).toArray t, .str (PySem.Str.ofString "ascii") t1], []⟩ = (mkStr (PySem.Str.ofString "utf-8") >>= fun _ => mkStr (PySem.Str.ofString "ascii") >>= fun e => mkStr (PySem.Str.ofString "bytes.decode") >>= fun d =>
    call (.builtin "_codecs.decode.text") [.bytes (c :: cs).toArray t, e, .none, d] >>= fun v => ret v) := by kernel_rfl
theorem args_dec2 (a b : Value) : argsOk "bytes.decode" ⟨[a, b], []⟩ := by unfold argsOk; kernel_rfl
theorem meets_dec {c : UInt8} {cs : List UInt8} {t t1 : Tok} (hb : ∀ x ∈ c :: cs, x.toNat < 128) (hz : (c :: cs).length ≤ 1000000) :
    Meets («bytes.decode» ⟨[.bytes (c :: cs).toArray t, .str (PySem.Str.ofString "ascii") t1], []⟩) (fun _ R s => ∀ t' k, R (.ok (.ret (.str ⟨((c :: cs).map UInt8.toNat).toArray⟩ t'))) { s with toks := k }) := by
  refine .of_wp fun prog w A R s h => ?_
  rw [entry_dec2]
  refine wpAny_bind (wpAny_mkStr ?_ (by decide))
  refine wpAny_bind (wpAny_mkStr ?_ (by decide))
  refine wpAny_bind (wpAny_mkStr ?_ (by decide))
  exact wpAny_bind (call_function_meets KBd.kind_text KBd.plain_text KBd.entry_text (KBd.args_text _ _ _ _) (meets_textA hb (by rw [List.size_toArray]; exact hz)) (wpAny_pure ⟨_, rfl, h _ _⟩))
end
section
variable {prog : Program} {w : World} {A : Around} {E : Value → Shared → Prop} {s : Shared} {Q : Value → Shared → Prop}
/-- ASCII octets that are not none at all, decoded -/
theorem k_dec {b : Array UInt8} {ks : List Int} {t t1 : Tok} (hk : KBw.bInts b = ks) (hn : ks ≠ []) (hb : ∀ k ∈ ks, k < 128) (hz : ks.length ≤ 1000000) (h : ∀ t' k, Q (.str ⟨(ks.map Int.toNat).toArray⟩ t') { s with toks := k }) :
    wpAny (model prog w) A (call (.builtin "bytes.decode") [.bytes b t, .str (PySem.Str.ofString "ascii") t1]) Q E s := by
  obtain ⟨l⟩ := b
  cases l with
  | nil => exact absurd (hk.symm.trans rfl) hn
  | cons c cs =>
    have e : ks = (c :: cs).map fun x => ((x.toNat : Nat) : Int) := by rw [← hk]; rfl
    subst e
    refine call_meets FB.slot_bytes_decode (typeIs_bytes _ _ _) FB.entry_bytes_decode (args_dec2 _ _) (meets_dec (fun x hx => ?_) (by rw [List.length_map] at hz; exact hz)) fun t' k => ?_
    · have := hb _ (List.mem_map_of_mem hx)
      omega
    · have := h t' k
      rw [List.map_map] at this
      have e2 : (Int.toNat ∘ fun (x : UInt8) => ((x.toNat : Nat) : Int)) = UInt8.toNat := rfl
      rw [e2] at this
      exact this
theorem k_getdec {M : Model} {b : Array UInt8} {t : Tok} {pl : Sem Bool} {Q : Value × List Value → Shared → Prop} (h : Q (.builtin "bytes.decode", [.bytes b t]) s) : wpAny M A (getMethod (.bytes b t) "decode" pl) Q E s :=
  KBd.method h
end
end Mine
end
section
open PySem PySem.W PyProof.Rows PySem.Calls PySem.Spec
set_option Elab.async false
set_option maxRecDepth 100000
namespace Mine
section
variable {prog : Program} {w : World} {A : Around} {E : Value → Shared → Prop} {s : Shared} {h₀ : Heap} {env : Env} {x : Str} {body : List Stmt} {Q : Flow → Shared → Prop}
/-- a for over range(0, stop, step), by what holds behind i turns -/
theorem stepGo {r : Addr} {stop stp : Int} {n : Nat} {t₀ u₀ v₀ : Tok} {m₀ : Str → Option Value} {news less : List (Addr × Obj)} (MI : Nat → (Str → Option Value) → List (Addr × Obj) → Prop)
    (hh : A.handled = none) (hr : IsRange s.heap r 0 stop stp t₀ u₀ v₀) (hs : Builtin.Range.small 0 stop stp = true) (hc : Builtin.Range.rangeSize 0 stop stp = (n : Int))
    (F : Fr h₀ env.locals s.heap m₀) (N : News h₀ env.locals s.heap news) (sub : SubL less news) (h0 : MI 0 m₀ less)
    (hnil : ∀ m nw h tk, MI n m nw → Fr h₀ env.locals h m → News h₀ env.locals h nw → Q .next { s with heap := h, toks := tk })
    (hstep : ∀ (Q' : Flow → Shared → Prop) i m nw t h tk I it, i < n → MI i m nw → it.cls = .type "range_iterator" → Fr h₀ env.locals h (fun y => if y = x then some (.int ((i : Int) * stp) t) else m y) →
      News h₀ env.locals h ((I, it) :: nw) →
      wpAny (model prog w) A (execs body env) (UnrPost h₀ env.locals { s with heap := h, toks := tk } I it (fun m' n' => MI (i + 1) m' n') Q') E { s with heap := h, toks := tk }) :
    wpAny (model prog w) A (pyIter (.ref r)) (fun it s₂ => LoopAtV prog w A h₀ env x body Q E it s₂) E s := by
  refine krs_iter (n := n) hh hr hs hc F N fun I _ => ?_
  refine krsLess (less := less) sub _ 0 (krsInv MI (fun m nw hI h tk F N => hnil m nw h tk hI F N) (fun i m nw hi hI t h tk F N => ?_) _ 0 m₀ _ (Nat.zero_add _) h0)
  have e : (0 : Int) + (i : Int) * stp = (i : Int) * stp := Int.zero_add _
  rw [e] at F
  exact hstep Q i m nw t h tk I _ hi hI rfl F N
end
end Mine
end
section
open PySem PySem.W PyProof.Rows PySem.Calls PySem.Spec
set_option Elab.async false
set_option maxRecDepth 100000
namespace Mine
/-- one octet's step of the column -/
def colS (c : Nat) (k : Int) : Nat := if k = 9 then c + (8 - c % 8) else c + 1
theorem colI_eq (l : List UInt8) : (KBw.bInts l.toArray).foldl colS 0 = colF l := by
  have key : ∀ (l : List UInt8) (c : Nat), (l.map fun x => ((x.toNat : Nat) : Int)).foldl colS c = l.foldl (fun c o => if o = 9 then c + (8 - c % 8) else c + 1) c := by
    intro l
    induction l with
    | nil => intro c; rfl
    | cons a l ih =>
      intro c
      rw [List.map_cons, List.foldl_cons, List.foldl_cons, ih]
      congr 1
      unfold colS
      by_cases h : a = 9
      · subst h; rfl
      · rw [if_neg h]
        exact if_neg (fun e => h (UInt8.toNat_inj.mp (Int.ofNat.inj e)))
  exact key l 0
section
variable {prog : Program} {w : World} {A : Around} {E : Value → Shared → Prop} {s : Shared} {h₀ : Heap} {env : Env} {x : Str} {body : List Stmt}
theorem colGo {Q : Flow → Shared → Prop} {b : Array UInt8} {tb : Tok} {ks : List Int} {m₀ : Str → Option Value} {news : List (Addr × Obj)} (PM : (Str → Option Value) → Prop) (hk : KBw.bInts b = ks) (hh : A.handled = none) (F : Fr h₀ env.locals s.heap m₀) (N : News h₀ env.locals s.heap news)
    (hP : PM m₀) (h0 : ∃ t, m₀ "column" = some (.int 0 t))
    (turn : ∀ k t m h tk own (c : Nat), 0 ≤ k → k < 256 → OwnOff own (news.map (·.1)) → PM m → (∃ t, m "column" = some (.int (c : Int) t)) → Fr h₀ env.locals h (fun y => if y = x then some (.int k t) else m y) → News h₀ env.locals h (news ++ own) →
      wpAny (model prog w) A (execs body env) (InvPostN h₀ env.locals (fun m' nx => (PM m' ∧ ∃ t, m' "column" = some (.int (colS c k : Int) t)) ∧ nx = news) own (news.map (·.1)) { s with heap := h, toks := tk } Q) E { s with heap := h, toks := tk })
    (done : ∀ m h tk t, PM m → m "column" = some (.int (ks.foldl colS 0 : Nat) t) → Fr h₀ env.locals h m → News h₀ env.locals h news → Q .next { s with heap := h, toks := tk }) :
    wpAny (model prog w) A (pyIter (.bytes b tb)) (fun it s₂ => LoopAtV prog w A h₀ env x body Q E it s₂) E s := by
  refine KBmo.iter_bytesN (fun i m nx => (PM m ∧ ∃ t, m "column" = some (.int ((ks.take i).foldl colS 0 : Nat) t)) ∧ nx = news) hk hh F N ⟨⟨hP, h0⟩, rfl⟩ (fun i k t m₁ news₁ h tk own hi h0 h1 hoff hJ F₁ N₁ => ?_) (fun m₁ news₁ h tk hJ F₁ N₁ => ?_)
  · obtain ⟨⟨hp, hc⟩, rfl⟩ := hJ
    have e : (ks.take (i + 1)).foldl colS 0 = colS ((ks.take i).foldl colS 0) k := by
      rw [List.take_add_one, hi, List.foldl_append]
      rfl
    rw [e]
    exact turn k t m₁ h tk own _ h0 h1 hoff hp hc F₁ N₁
  · obtain ⟨⟨hp, t, hc⟩, rfl⟩ := hJ
    rw [List.take_length] at hc
    exact done m₁ h tk t hp hc F₁ N₁
end
section
variable {prog : Program} {w : World} {A : Around} {E : Value → Shared → Prop} {s : Shared} {h₀ : Heap} {L : Addr} {m : Str → Option Value} {news : List (Addr × Obj)} {value slice : PySem.Expr} {Q : Value → Shared → Prop} {l : Addr} {va vb vc : Value} {vm : List Value} {n : Nat} {t1 t2 : Tok}
/-- rows[-2:] -/
theorem k_sl2 (F : Fr h₀ L s.heap m) (N : News h₀ L s.heap news) (hm : (l, listOf (va :: vm ++ [vb, vc]).toArray n) ∈ news) (hz : vm.length ≤ 100000)
    (h : ∀ D h', Fr h₀ L h' m → News h₀ L h' ((D, listOf #[vb, vc] 0) :: news) → (∀ p ∈ news, p.1 < D) → Q (.ref D) { s with heap := h' })
    (hs : subscripted slice false (.ref l) (.ref s.heap.objs.size) = operate [.ref s.heap.objs.size, .ref l] (getItem (.ref l) (.ref s.heap.objs.size)) := by with_unfolding_all rfl) (ht : ∀ r, letTemporaryGo value (.ref l) r = pure () := by intro _; with_unfolding_all rfl) :
    wpAny (model prog w) A (subscriptTail value slice (.ref l) (.ref s.heap.objs.size)) Q E { s with heap := s.heap.push { cls := .type "slice", data := .fields #[.int (-2) t1, .none, .none] } } := by
  refine kms_slice_lit (lo := some (-2)) (hi := none) (zs := [vb, vc]) F N (N.isList hm) (.int _ _) .none ?_ h hs ht (by rw [List.size_toArray, sizeLine_eq]; simp; omega)
  unfold kms_pick kms_lo kms_hi
  have e1 : (va :: vm ++ [vb, vc]).length = vm.length + 3 := by simp
  show List.take _ (List.drop _ (va :: vm ++ [vb, vc])) = _
  dsimp only
  rw [e1, if_pos (by decide)]
  have e2 : vm.length + 3 - (- (-2 : Int)).toNat = (va :: vm).length := by rw [List.length_cons]; omega
  rw [e2, List.drop_left]
  exact List.take_of_length_le (by simp)
/-- rows[1:-2] -/
theorem k_sl1 (F : Fr h₀ L s.heap m) (N : News h₀ L s.heap news) (hm : (l, listOf (va :: vm ++ [vb, vc]).toArray n) ∈ news) (hz : vm.length ≤ 100000)
    (h : ∀ D h', Fr h₀ L h' m → News h₀ L h' ((D, listOf vm.toArray 0) :: news) → (∀ p ∈ news, p.1 < D) → Q (.ref D) { s with heap := h' })
    (hs : subscripted slice false (.ref l) (.ref s.heap.objs.size) = operate [.ref s.heap.objs.size, .ref l] (getItem (.ref l) (.ref s.heap.objs.size)) := by with_unfolding_all rfl) (ht : ∀ r, letTemporaryGo value (.ref l) r = pure () := by intro _; with_unfolding_all rfl) :
    wpAny (model prog w) A (subscriptTail value slice (.ref l) (.ref s.heap.objs.size)) Q E { s with heap := s.heap.push { cls := .type "slice", data := .fields #[.int 1 t1, .int (-2) t2, .none] } } := by
  refine kms_slice_lit (lo := some 1) (hi := some (-2)) (zs := vm) F N (N.isList hm) (.int _ _) (.int _ _) ?_ h hs ht (by rw [List.size_toArray, sizeLine_eq]; simp; omega)
  unfold kms_pick kms_lo kms_hi
  have e1 : (va :: vm ++ [vb, vc]).length = vm.length + 3 := by simp
  show List.take _ (List.drop _ (va :: vm ++ [vb, vc])) = _
  dsimp only
  rw [e1, if_pos (show (-2 : Int) < 0 by decide), if_neg (show ¬ (1 : Int) < 0 by decide)]
  have e2 : min (1 : Int).toNat (vm.length + 3) = 1 := by omega
  have e3 : vm.length + 3 - (- (-2 : Int)).toNat - 1 = vm.length := by omega
  rw [e2, e3]
  show List.take _ (vm ++ [vb, vc]) = _
  rw [List.take_left']
  rfl
/-- the first row -/
theorem k_row0 {t : Tok} (N : News h₀ L s.heap news) (hm : (l, listOf (va :: vm ++ [vb, vc]).toArray n) ∈ news) (h : Q va s)
    (hs : ∀ k, subscripted slice false (.ref l) (.int k t) = operate [.ref l, .int k t] (getItem (.ref l) (.int k t)) := by intro _; with_unfolding_all rfl) (hg : ∀ r, letTemporaryGo value (.ref l) r = pure () := by intro _; with_unfolding_all rfl) :
    wpAny (model prog w) A (subscriptTail value slice (.ref l) (.int 0 t)) Q E s :=
  item_list (N.isList hm) (by decide) (by simp) rfl h (hs 0) hg
end
end Mine
end
section
open PySem PySem.W PyProof.Rows PySem.Calls PySem.Spec
set_option Elab.async false
set_option maxRecDepth 100000
namespace Mine
/-- the law's names while it reads -/
structure LF (m : Str → Option Value) (W : Addr) (b : Array UInt8) (lv n : Nat) : Prop where
  data : ∃ t, m "data" = some (.bytes b t)
  level : ∃ t, m "level" = some (.int (lv : Int) t)
  lead : ∃ t, m "lead" = some (.bytes (leadL n lv).toArray t)
  writer : m "writer" = some (.ref W)
structure CF (m : Str → Option Value) (c : Nat) : Prop where
  column : ∃ t, m "column" = some (.int (c : Int) t)
theorem partsL_flat (ks : List Int) (n lv : Nat) (h : ∀ k ∈ ks, 0 ≤ k ∧ k < 256) : (partsL ks n lv).flatten =
    (([leadI n lv ++ [60, 100, 97, 116, 97, 62]] ++ (rowsS ks (zL n lv) (cntB ks.length (zL n lv))).map (fun r => leadI n lv ++ r) ++ [leadI n lv ++ [60, 47, 100, 97, 116, 97, 62]]).map (fun r => r ++ [10])).flatten := by
  have key : ∀ rs : List (List Int), (∀ r ∈ rs, r ≠ []) → (rs.map (outR (leadI n lv))).flatten.flatten = ((rs.map (fun r => leadI n lv ++ r)).map (fun r => r ++ [10])).flatten := by
    intro rs hrs
    induction rs with
    | nil => rfl
    | cons r rs ih =>
      have hr : r ≠ [] := hrs r (.head _)
      have e : outR (leadI n lv) r = [leadI n lv, r, [10]] := by unfold outR; rw [if_neg hr]
      simp only [List.cons_append, List.map_cons, List.flatten_cons, List.flatten_append, e]
      rw [ih (fun x hx => hrs x (.tail _ hx))]
      simp
  have hne : ∀ r ∈ rowsS ks (zL n lv) (cntB ks.length (zL n lv)), r ≠ [] := by
    intro r hr e
    obtain ⟨j, hj⟩ := List.mem_iff_getElem?.mp hr
    have hz := zL_ok n lv
    have hlen : (rowsS ks (zL n lv) (cntB ks.length (zL n lv))).length = cntB ks.length (zL n lv) := by unfold rowsS; rw [List.length_map, List.length_range]
    have hj2 : j < cntB ks.length (zL n lv) := by
      have := (List.getElem?_eq_some_iff.mp hj).1
      omega
    obtain ⟨r', h1, h2⟩ := rowsS_len h (zL n lv) _ j hj2
    rw [hj] at h1
    cases h1
    have hlt := cntB_lt hj2
    rw [e, List.length_nil] at h2
    omega
  unfold partsL
  simp only [List.flatten_append, List.map_append, List.flatten_cons, List.flatten_nil, List.append_nil, List.map_cons, List.map_nil]
  rw [key _ hne]
  have e0 : outR (leadI n lv) [] = [] := by unfold outR; rw [if_pos rfl]
  rw [e0]
  simp
/-- the rows that the law reads -/
theorem law_split {ks : List Int} {n lv : Nat} (h : ∀ k ∈ ks, 0 ≤ k ∧ k < 256) :
    splitL (partsL ks n lv).flatten = (leadI n lv ++ [60, 100, 97, 116, 97, 62]) :: (rowsS ks (zL n lv) (cntB ks.length (zL n lv))).map (fun r => leadI n lv ++ r) ++ [leadI n lv ++ [60, 47, 100, 97, 116, 97, 62], []] := by
  have hl : (10 : Int) ∉ leadI n lv := by
    unfold leadI leadL indL
    intro hm
    obtain ⟨c, hc, e⟩ := List.mem_map.mp hm
    rw [List.toList_toArray] at hc
    obtain ⟨x, hx, hcx⟩ := List.mem_flatten.mp hc
    rw [List.eq_of_mem_replicate hx] at hcx
    split at hcx
    · rw [List.mem_singleton.mp hcx] at e; exact absurd e (by decide)
    · split at hcx
      · simp at hcx; subst hcx; exact absurd e (by decide)
      · simp at hcx; rcases hcx with rfl | rfl <;> exact absurd e (by decide)
  have e : (partsL ks n lv).flatten = _ := partsL_flat ks n lv h
  rw [e, splitL_rows]
  · simp
  · intro r hr hm
    simp only [List.mem_append, List.mem_cons, List.not_mem_nil, or_false, List.mem_map] at hr
    rcases hr with (rfl | ⟨r', hr', rfl⟩) | rfl
    · rcases List.mem_append.mp hm with hm | hm
      · exact hl hm
      · exact absurd hm (by decide)
    · rcases List.mem_append.mp hm with hm | hm
      · exact hl hm
      · exact rowsS_no10 h r' hr' hm
    · rcases List.mem_append.mp hm with hm | hm
      · exact hl hm
      · exact absurd hm (by decide)
theorem leadI_len {n lv : Nat} (h : lv < 13) : (leadI n lv).length ≤ 24 := by
  unfold leadI
  rw [KBw.ints_length, List.size_toArray]
  exact leadL_len h
theorem rowsS_le {ks : List Int} {z i : Nat} (hz : z ≤ 57) : ∀ r ∈ rowsS ks z i, r.length ≤ 120 := fun r hr => by
  unfold rowsS at hr
  obtain ⟨j, -, rfl⟩ := List.mem_map.mp hr
  have h1 := b64_len (chunkB ks z j)
  have h2 := chunk_len ks z j
  omega
theorem partsL_len {ks : List Int} {n lv : Nat} (h : ∀ k ∈ ks, 0 ≤ k ∧ k < 256) (hl : ks.length ≤ 5000) (hv : lv < 13) : (partsL ks n lv).flatten.length ≤ 1000000 := by
  rw [partsL_flat ks n lv h]
  have h1 := leadI_len (n := n) hv
  have h2 := (zL_ok n lv).2.1
  have h3 := cntB_le ks.length (zL n lv)
  refine Nat.le_trans (flat_len (B := 150) _ fun a ha => ?_) ?_
  · obtain ⟨r, hr, rfl⟩ := List.mem_map.mp ha
    simp only [List.mem_append, List.mem_cons, List.not_mem_nil, or_false, List.mem_map] at hr
    rcases hr with (rfl | ⟨r', hr', rfl⟩) | rfl
    · simp; omega
    · have := rowsS_le h2 r' hr'
      simp; omega
    · simp; omega
  · simp only [List.length_map, List.length_append, List.length_cons, List.length_nil]
    unfold rowsS
    simp only [List.length_map, List.length_range]
    omega
theorem colA (c : Nat) : (c : Int) + (8 - (c : Int).fmod 8) = (colS c 9 : Int) := by
  rw [Int.fmod_eq_emod_of_nonneg _ (by decide)]
  unfold colS
  rw [if_pos rfl]
  omega
theorem colB (c : Nat) {k : Int} (h : ¬ k = 9) : (c : Int) + 1 = (colS c k : Int) := by
  unfold colS
  rw [if_neg h]
  omega
section
variable {prog : Program} {w : World} {A : Around} {E : Value → Shared → Prop} {s : Shared} {Q : Value → Shared → Prop}
theorem k_ladd {n lv : Nat} {c : Array UInt8} {t u : Tok} (ls : List Int) (hc : KBw.bInts c = ls) (hv : lv < 13) (hl : ls.length ≤ 100) (h : ∀ d t' k, KBw.bInts d = leadI n lv ++ ls → Q (.bytes d t') { s with toks := k }) :
    wpAny (model prog w) A (binaryOp .Add (.bytes (leadL n lv).toArray t) (.bytes c u)) Q E s := by
  have h1 := leadI_len (n := n) hv
  exact KBa.add_K (ks := leadI n lv) rfl hc (by omega) fun t' k e => h _ t' k e
end
end Mine
end
section
open PySem PySem.W PyProof.Rows PySem.Calls PySem.Spec
set_option Elab.async false
set_option maxRecDepth 100000
set_option maxHeartbeats 8000000
namespace Mine
structure UF (m : Str → Option Value) (oc : Addr) (l : List Nat) : Prop where
  text : ∃ t, m "text" = some (.str (sl l) t)
  letters : ∃ t, m "letters" = some (.str letS t)
  octets : m "octets" = some (.ref oc)
structure UI (ks : List Int) (oc : Addr) (l : List Nat) (i : Nat) (m : Str → Option Value) (nw : List (Addr × Obj)) : Prop where
  f : UF m oc l
  led : ∃ its n, IntsAre its.toList (ks.take (3 * i)) ∧ nw = [(oc, listOf its n)]
/-- the sign stands at that place -/
structure At (c : Nat) (a : Int) : Prop where
  lo : 0 ≤ a
  occ : Builtin.Str.occurrences letS (sl [c]) 0 letS.length 1 = [a.toNat]
section
variable {prog : Program} {w : World} {A : Around} {E : Value → Shared → Prop} {s : Shared} {t u : Tok} {Q : Value → Shared → Prop}
theorem k_idx {c : Nat} {a : Int} (h : At c a) (hq : Q (.int a s.toks) { s with toks := s.toks + 1 }) : wpAny (model prog w) A (call (.builtin "str.index") [.str letS t, .str ⟨#[c]⟩ u]) Q E s := by
  refine SC.index (i := a.toNat) (rest := []) h.occ ?_
  have e : ((a.toNat : Nat) : Int) = a := Int.toNat_of_nonneg h.lo
  rw [e]
  exact hq
theorem k_slen {l : List Nat} (hl : l.length ≤ 1000000) (h : Q (.int (l.length : Int) (s.toks + 1)) { s with toks := s.toks + 1 + 1 }) : wpAny (model prog w) A (call (.builtin "len") [.str (sl l) t]) Q E s :=
  len_str (by rw [sl_len]; omega) h
end
theorem k_pw {n : Nat} {e : Int} (he : e = (n : Int)) (hn : n ≤ 2) (h : Q (.int (64 ^ n) s.toks) { s with toks := s.toks + 1 }) : wpAny (model prog w) A (binaryOp .Pow (.int 64 t) (.int e u)) Q E s := by
  subst he
  refine pow_int_small (by omega) (by omega) (by decide) ?_
  rw [Int.toNat_natCast]
  exact h
theorem k_ext {h₀ : Heap} {L D b : Addr} {m : Str → Option Value} {news news' : List (Addr × Obj)} {its : Array Value} {v : Value} {r : List Value} {n n2 : Nat} (F : Fr h₀ L s.heap m) (N : News h₀ L s.heap news) (hb : (b, listOf (v :: r).toArray n2) ∈ news)
    (U : Upd D (listOf its n) (listOf (its.toList ++ (v :: r)).toArray (n + 1)) news news') (hz : its.size ≤ 100000) (hr : (v :: r).length ≤ 3)
    (h : ∀ h', Fr h₀ L h' m → News h₀ L h' news' → Q .none { s with heap := h' }) : wpAny (model prog w) A (call (.builtin "list.extend") [.ref D, .ref b]) Q E s := by
  have e1 : (v :: r).toArray.size = (v :: r).length := rfl
  refine kl_extend F N hb rfl (Nat.succ_ne_zero _) U (fun hh => ?_) (by rw [Array.length_toList, sizeLine_eq]; omega) (by rw [e1, sizeLine_eq]; omega) h
  have h2 := (Bool.and_eq_true_iff.mp hh).2
  have h3 : Builtin.List.listTooLong (its.size + (v :: r).toArray.size) = false := by
    unfold Builtin.List.listTooLong
    exact decide_eq_false (by rw [sizeLine_eq, e1]; omega)
  rw [h3] at h2
  exact absurd h2 Bool.false_ne_true
theorem und_end {h₀ h' : Heap} {L I oc : Addr} {it : Obj} {s₁ : Shared} {tk i n : Nat} {m' : Str → Option Value} {all : List (Addr × Obj)} {a : Array Value} {ks : List Int} {l : List Nat} (F : Fr h₀ L h' m') (N : News h₀ L h' all) (hI : (I, it) ∈ all) (hO : (oc, listOf a n) ∈ all) (hne : oc ≠ I)
    (f : UF m' oc l) (hi : IntsAre a.toList (ks.take (3 * (i + 1)))) : UnrEnd h₀ L s₁ I it (fun m' n' => UI ks oc l (i + 1) m' n') { s₁ with heap := h', toks := tk } :=
  UnrEnd.intro F N [(oc, listOf a n)] (fun p hp => by
    rcases List.mem_cons.mp hp with rfl | hp
    · exact hI
    · rw [List.mem_singleton.mp hp]; exact hO) (fun p hp => by rw [List.mem_singleton.mp hp]; exact hne) ⟨f, a, n, hi, rfl⟩
theorem ints3 {a b c x y z : Int} {t1 t2 t3 : Tok} (h1 : a = x) (h2 : b = y) (h3 : c = z) : IntsAre [.int a t1, .int b t2, .int c t3] [x, y, z] := by
  subst h1; subst h2; subst h3
  exact .cons _ _ (.cons _ _ (.cons _ _ .nil))
theorem ints2 {a b x y : Int} {t1 t2 : Tok} (h1 : a = x) (h2 : b = y) : IntsAre [.int a t1, .int b t2] [x, y] := by
  subst h1; subst h2
  exact .cons _ _ (.cons _ _ .nil)
theorem ints1 {a x : Int} {t1 : Tok} (h1 : a = x) : IntsAre [.int a t1] [x] := by
  subst h1
  exact .cons _ _ .nil
theorem fd (a : Int) {b : Int} (h : 0 ≤ b) : a.fdiv b = a / b := Int.fdiv_eq_ediv_of_nonneg _ h
theorem fm (a : Int) {b : Int} (h : 0 ≤ b) : a.fmod b = a % b := Int.fmod_eq_emod_of_nonneg _ h
theorem at_sg {a : Int} (h0 : 0 ≤ a) (h1 : a < 64) : At (sg a).toNat a := ⟨h0, occ_at h0 h1⟩
theorem sz4 (n : Nat) (hn : n ≤ 25000) : Builtin.Range.small 0 ((4 * n : Nat) : Int) 4 = true ∧ Builtin.Range.rangeSize 0 ((4 * n : Nat) : Int) 4 = (n : Int) := by
  have h := small_z (n := 4 * n) (z := 4) (by omega) (by decide) (by decide)
  have e : cntB (4 * n) 4 = n := by
    unfold cntB
    split <;> omega
  rw [e] at h
  exact h
local macro_rules | `(tactic| walk_at "eval Name") => `(tactic| (k_here; (with_reducible show wpAny _ _ (eval (Expr.Name _ _) _) _ _ _); (rename Fr _ _ _ _ => zF); (rename UF _ _ _ => zM); k_dflt (first | refine ld zF (by with_unfolding_all exact Exists.choose_spec zM.text) ?_ | refine ld zF (by with_unfolding_all exact Exists.choose_spec zM.letters) ?_ | refine ld zF (by with_unfolding_all exact zM.octets) ?_)))
local macro_rules | `(tactic| walk_at "call type:bytes") => `(tactic| (k_here; refine hold ?_))
local macro_rules | `(tactic| walk_at "pyIter ref") => `(tactic| ((with_reducible show wpAny _ _ (pyIter (Value.ref _)) (fun it s₂ => LoopAtV _ _ _ _ _ _ _ _ _ it s₂) _ _); (refine hold ?_)))
local macro_rules | `(tactic| walk_at "subscriptTail Name Slice str ref") => `(tactic| (k_here; refine hold ?_))
local macro_rules | `(tactic| walk_at "call builtin:len") => `(tactic| (k_here; (with_reducible show wpAny _ _ (call (Value.builtin "len") [Value.str (sl _) _]) _ _ _); k_dflt (refine k_slen (by (try simp only [List.length_map, List.length_cons, List.length_nil]); omega) ?_)))
local macro_rules | `(tactic| walk_at "call builtin:str.rstrip") => `(tactic| (k_here; k_dflt (refine KXw.rstripChars (by assumption) (by rw [sl_len, sizeLine_eq]; simp) ?_); intro t' k'))
local macro_rules | `(tactic| walk_at "pyIter str") => `(tactic| (k_here; (rename Fr _ _ _ _ => zF); (rename News _ _ _ _ => zN); k_dflt (first | refine iter_strUnr (l := [⟨#[_]⟩, ⟨#[_]⟩, ⟨#[_]⟩, ⟨#[_]⟩]) rfl zF zN rfl ?_ | refine iter_strUnr (l := [⟨#[_]⟩, ⟨#[_]⟩, ⟨#[_]⟩]) rfl zF zN rfl ?_ | refine iter_strUnr (l := [⟨#[_]⟩, ⟨#[_]⟩]) rfl zF zN rfl ?_); clear zF zN; intro i' l1; (try k_lt l1)))
local macro_rules | `(tactic| walk_at "binaryOp Pow int int") => `(tactic| (k_here; k_dflt (first | refine k_pw (n := 0) (by rfl) (by decide) ?_ | refine k_pw (n := 1) (by rfl) (by decide) ?_ | refine k_pw (n := 2) (by rfl) (by decide) ?_)))
local macro_rules | `(tactic| walk_at "call builtin:list.extend") => `(tactic| (k_here; (rename Fr _ _ _ _ => zF); (rename News _ _ _ _ => zN); k_dflt (refine' k_ext zF zN ?b ?U (by assumption) ?z ?_; (case b => k_mem); (case U => k_upd); (case z => (simp))); intro h' F' N'))
local macro_rules | `(tactic| walk_at "call builtin:str.index") => `(tactic| (k_here; k_dflt (refine k_idx (by assumption) ?_)))
theorem und {w : World} (l : List Nat) (t : Tok) (ks : List Int) (mg mb : Str → Option Value) (mean : ExcName → Option Value) (loose : List Str)
   (dp un : Nat) (gd : Option (List Code)) (outer : List Env) (base g₀ : Heap) (s : Shared) (R : Result → Shared → Prop) (hg₀ : s.heap = g₀)
    (B : Below (arnd dp un gd outer) base outer g₀) (X : (hd06.heap_39 w.params).In g₀) {p : Program} (T : Top p loose mean mg mb g₀)
    (hk : ∀ k ∈ ks, 0 ≤ k ∧ k < 256) (hl : l = (G ks).map Int.toNat) (hz : ks.length ≤ 20000)
    (hret : ∀ h' tk t c, (∀ b o, g₀.get? b = some o → h'.get? b = some o) → KBw.bInts c = ks → R (.ok (.ret (.bytes c t))) { s with heap := h', toks := tk })
    (hdp : dp + 20 < recursionLimit) (hu : un + 100 < cLine) :
      codeAny (model PySem.Challenge.rw_ko0126_06.row.prog w) (arnd dp un gd outer) (.call (.ref 279) ⟨[.str (sl l) t], []⟩) R s := by
  w_top off
  subst hg₀
  have hlen : l.length = 4 * cntB ks.length 3 := by
    rw [hl, List.length_map, G_len]
    unfold cntB
    split <;> omega
  have hcn := cntB_le ks.length 3
  revert X; k_fill; intro X
  refine' enter B X T ?k6 ?k7 ?k8 ?k9 ?kB ?_ ?c2 ?c3 ?c4 ?c5
  case k6 => k_is
  case k7 => k_is
  case k8 => ktr_room
  case k9 => exact BindsTo.of_eq rfl
  case c5 => decide
  case kB => exact locs rfl
  case c2 => exact rfl
  case c3 => exact rfl
  case c4 => exact rfl
  k_whole
  intro L' h' F' N'
  obtain ⟨g₀, gens₀, drawn₀, toks₀, os₀⟩ := s
  dsimp only at *
  (try k_fold)
  k_steps
  rename IsRange _ _ _ _ _ _ _ _ => hR
  rename Fr _ _ _ _ => zF
  rename News _ _ _ _ => zN
  rw [hlen] at hR
  obtain ⟨hs1, hs2⟩ := sz4 (cntB ks.length 3) (by omega)
  delta Hold
  refine' stepGo (n := cntB ks.length 3) (UI ks _ l) rfl hR hs1 hs2 zF zN (less := [(_, listOf #[] 0)]) ⟨.head _, trivial⟩ ⟨⟨⟨_, rfl⟩, ⟨_, by rw [← letS_eq]; rfl⟩, rfl⟩, _, _, .nil, rfl⟩ ?nil ?step
  case nil =>
    intro m nw h tk hI F N
    obtain ⟨hf, its, n, hin, rfl⟩ := hI
    clear zF zN
    rw [List.take_of_length_le (by unfold cntB; split <;> omega)] at hin
    dsimp only
    k_steps
    rename Fr _ _ _ _ => zF
    rename News _ _ _ _ => zN
    delta Hold
    refine k_bytesL (zN.isList (List.mem_singleton.mpr rfl)) hin hk (by have := IntsAre.length hin; rw [Array.length_toList] at this; omega) rfl ?_
    intro h9 t9 k9 c9 hk9 hc9
    have F9 := zF.keptAll hk9
    dsimp only
    k_steps
    exact hret _ _ _ _ F9.keep hc9
  case step =>
    intro Q' i m nw t h tk I it hi hI hit F N
    obtain ⟨hf, its, n, hin, rfl⟩ := hI
    clear zF zN
    have h3 : 3 * i < ks.length := by
      have := cntB_lt hi
      omega
    have hg4 : (l.drop (4 * i)).take 4 = (G ((ks.drop (3 * i)).take 3)).map Int.toNat := by
      rw [hl, ← List.map_drop, ← List.map_take, G_take]
    have htk : ks.take (3 * (i + 1)) = ks.take (3 * i) ++ (ks.drop (3 * i)).take 3 := by
      rw [show 3 * (i + 1) = 3 * i + 3 by omega, List.take_add]
    have hmem : ∀ k ∈ (ks.drop (3 * i)).take 3, 0 ≤ k ∧ k < 256 := fun k hk' => hk k (List.mem_of_mem_drop (List.mem_of_mem_take hk'))
    have hne : (ks.drop (3 * i)).take 3 ≠ [] := fun e => by
      have := congrArg List.length e
      rw [List.length_take, List.length_drop, List.length_nil] at this
      omega
    have hl3 : ((ks.drop (3 * i)).take 3).length ≤ 3 := by rw [List.length_take]; omega
    generalize (ks.drop (3 * i)).take 3 = g at *
    have h4i : 4 * i + 4 ≤ l.length := by omega
    have hl6 : l.length ≤ 1000000 := by omega
    have hits : its.size ≤ 100000 := by
      have := IntsAre.length hin
      rw [Array.length_toList, List.length_take] at this
      omega
    have hneI := neN (ri_ne (N (I, it) (.head _)).1 (N (_, listOf its n) (.tail _ (.head _))).1 hit)
    dsimp only at hneI
    clear hl hlen hk hs1 hs2 hR hcn hi h3
    dsimp only
    k_steps
    rename Fr _ _ _ _ => zF
    rename News _ _ _ _ => zN
    have he : (l.drop ((i : Int) * 4).toNat).take (((i : Int) * 4 + 4).toNat - ((i : Int) * 4).toNat) = (G g).map Int.toNat := by
      rw [← hg4]
      congr 1
      · omega
      · congr 1
        omega
    delta Hold
    refine k_ft (l := l) zF zN rfl (by omega) (by omega) (by omega) (by omega) ?_
    intro h7 t7 k7 F7 N7
    rw [he]
    clear zF zN he hg4
    match g, hne, hl3 with
    | [x, y, z], _, _ =>
      have hx := hmem x (.head _)
      have hy := hmem y (.tail _ (.head _))
      have hz := hmem z (.tail _ (.tail _ (.head _)))
      have a1 := at_sg (a := x / 4) (by omega) (by omega)
      have a2 := at_sg (a := x % 4 * 16 + y / 16) (by omega) (by omega)
      have a3 := at_sg (a := y % 16 * 4 + z / 64) (by omega) (by omega)
      have a4 := at_sg (a := z % 64) (by omega) (by omega)
      have n4 : (sg (z % 64)).toNat ≠ 61 := sgn_ne (by omega) (by omega)
      have eG : (G [x, y, z]).map Int.toNat = [(sg (x / 4)).toNat, (sg (x % 4 * 16 + y / 16)).toNat, (sg (y % 16 * 4 + z / 64)).toNat, (sg (z % 64)).toNat] := rfl
      rw [eG]
      generalize (sg (x / 4)).toNat = c1 at *
      generalize (sg (x % 4 * 16 + y / 16)).toNat = c2 at *
      generalize (sg (y % 16 * 4 + z / 64)).toNat = c3 at *
      generalize (sg (z % 64)).toNat = c4 at *
      have hrs : Txt.rstripChars (sl [c1, c2, c3, c4]) (Str.ofString "=") = sl [c1, c2, c3, c4] := by rw [txtEq]; exact rs4 _ _ _ _ n4
      clear hmem n4 eG
      dsimp only
      k_steps
      rename UF _ _ _ => zM
      rename Fr _ _ _ _ => zF
      rename News _ _ _ _ => zN
      refine und_end zF zN (by k_mem) (by k_mem) hneI ⟨by with_unfolding_all exact zM.text, by with_unfolding_all exact zM.letters, by with_unfolding_all exact zM.octets⟩ ?_
      rw [htk]
      refine IntsAre.append (by assumption) (ints3 ?_ ?_ ?_)
      · rw [fd _ (by decide)]; simp only [Int.pow_zero, Int.mul_one]; omega
      · rw [fd _ (by decide), fm _ (by decide)]; simp only [Int.pow_zero, Int.mul_one]; omega
      · rw [fm _ (by decide)]; simp only [Int.pow_zero, Int.mul_one]; omega
    | [x, y], _, _ =>
      have hx := hmem x (.head _)
      have hy := hmem y (.tail _ (.head _))
      have a1 := at_sg (a := x / 4) (by omega) (by omega)
      have a2 := at_sg (a := x % 4 * 16 + y / 16) (by omega) (by omega)
      have a3 := at_sg (a := y % 16 * 4) (by omega) (by omega)
      have n4 : (sg (y % 16 * 4)).toNat ≠ 61 := sgn_ne (by omega) (by omega)
      have eG : (G [x, y]).map Int.toNat = [(sg (x / 4)).toNat, (sg (x % 4 * 16 + y / 16)).toNat, (sg (y % 16 * 4)).toNat, 61] := rfl
      rw [eG]
      generalize (sg (x / 4)).toNat = c1 at *
      generalize (sg (x % 4 * 16 + y / 16)).toNat = c2 at *
      generalize (sg (y % 16 * 4)).toNat = c3 at *
      have hrs : Txt.rstripChars (sl [c1, c2, c3, 61]) (Str.ofString "=") = sl [c1, c2, c3] := by rw [txtEq]; exact rs3 _ _ _ n4
      clear hmem n4 eG
      dsimp only
      k_steps
      rename UF _ _ _ => zM
      rename Fr _ _ _ _ => zF
      rename News _ _ _ _ => zN
      refine und_end zF zN (by k_mem) (by k_mem) hneI ⟨by with_unfolding_all exact zM.text, by with_unfolding_all exact zM.letters, by with_unfolding_all exact zM.octets⟩ ?_
      rw [htk]
      refine IntsAre.append (by assumption) (ints2 ?_ ?_)
      · rw [fd _ (by decide)]; simp only [Int.pow_succ, Int.pow_zero, Int.mul_one, Int.one_mul]; omega
      · rw [fd _ (by decide), fm _ (by decide)]; simp only [Int.pow_succ, Int.pow_zero, Int.mul_one, Int.one_mul]; omega
    | [x], _, _ =>
      have hx := hmem x (.head _)
      have a1 := at_sg (a := x / 4) (by omega) (by omega)
      have a2 := at_sg (a := x % 4 * 16) (by omega) (by omega)
      have n4 : (sg (x % 4 * 16)).toNat ≠ 61 := sgn_ne (by omega) (by omega)
      have eG : (G [x]).map Int.toNat = [(sg (x / 4)).toNat, (sg (x % 4 * 16)).toNat, 61, 61] := rfl
      rw [eG]
      generalize (sg (x / 4)).toNat = c1 at *
      generalize (sg (x % 4 * 16)).toNat = c2 at *
      have hrs : Txt.rstripChars (sl [c1, c2, 61, 61]) (Str.ofString "=") = sl [c1, c2] := by rw [txtEq]; exact rs2 _ _ n4
      clear hmem n4 eG
      dsimp only
      k_steps
      rename UF _ _ _ => zM
      rename Fr _ _ _ _ => zF
      rename News _ _ _ _ => zN
      refine und_end zF zN (by k_mem) (by k_mem) hneI ⟨by with_unfolding_all exact zM.text, by with_unfolding_all exact zM.letters, by with_unfolding_all exact zM.octets⟩ ?_
      rw [htk]
      refine IntsAre.append (by assumption) (ints1 ?_)
      rw [fd _ (by decide)]; simp only [Int.pow_succ, Int.pow_zero, Int.mul_one, Int.one_mul]; omega
end Mine
end
section
open PySem PySem.W PyProof.Rows PySem.Calls PySem.Spec
set_option Elab.async false
set_option maxRecDepth 100000
namespace Mine
section
variable {prog : Program} {w : World} {A : Around} {E : Value → Shared → Prop} {s : Shared} {h₀ : Heap} {env : Env} {target : Expr} {body : List Stmt} {Q : Flow → Shared → Prop}
/-- the loop over the rows that stand between the first and the last -/
theorem readGo {Dm Wd : Addr} {vm : List Value} {rows : List (List Int)} {lead : List Int} {c0 : Nat} {m₀ : Str → Option Value} {news base : List (Addr × Obj)} (PM : List Int → (Str → Option Value) → Prop)
    (Nb : ∃ hb, News h₀ env.locals hb base) (hh : A.handled = none) (F : Fr h₀ env.locals s.heap m₀) (N : News h₀ env.locals s.heap news) (sub : SubL ((Dm, listOf vm.toArray 0) :: (Wd, listOf #[] c0) :: base) news) (hv : BysAre vm (rows.map (fun r => lead ++ r))) (h0 : PM [] m₀) (hz : rows.flatten.length ≤ 900000) (hrl : rows.length ≤ 10000)
    (hnil : ∀ m its n h tk, PM rows.flatten m → IntsAre its.toList (rows.map (fun r => (r.length : Int))) → Fr h₀ env.locals h m → News h₀ env.locals h ((Wd, listOf its n) :: base) → Q .next { s with heap := h, toks := tk })
    (hstep : ∀ (Q' : Flow → Shared → Prop) b t r tl ws m its n I it h tk, r ∈ rows → KBw.bInts b = lead ++ r → PM tl m → tl.length ≤ 900000 → IntsAre its.toList ws → its.size ≤ 100000 → it.cls = .type "list_iterator" → (∀ o', ∀ p ∈ (Dm, listOf vm.toArray 0) :: (Wd, o') :: base, p.1 ≠ I) → @LT.lt Nat _ Wd I → @LT.lt Nat _ Dm I → Fr h₀ env.locals h m → News h₀ env.locals h ((I, it) :: (Dm, listOf vm.toArray 0) :: (Wd, listOf its n) :: base) →
      wpAny (model prog w) A (assign target env (.bytes b t)) (fun _ s₂ => wpAny (model prog w) A (execs body env) (UnrPostW h₀ env.locals { s with heap := h, toks := tk } [(I, it)] (fun m' n' => ∃ its' n1, PM (tl ++ r) m' ∧ IntsAre its'.toList (ws ++ [(r.length : Int)]) ∧ n' = (Dm, listOf vm.toArray 0) :: (Wd, listOf its' n1) :: base) Q') E s₂) E { s with heap := h, toks := tk }) :
    wpAny (model prog w) A (pyIter (.ref Dm)) (fun it s₂ => TurnsAt prog w A h₀ env target body Q E it s₂) E s := by
  refine listGoI (D := Dm) (lo := listOf vm.toArray 0) (vs := vm) (n := 0) (MI := fun i m nw => ∃ its n, PM (rows.take i).flatten m ∧ IntsAre its.toList ((rows.take i).map (fun r => (r.length : Int))) ∧ nw = (Dm, listOf vm.toArray 0) :: (Wd, listOf its n) :: base) (less := (Dm, listOf vm.toArray 0) :: (Wd, listOf #[] c0) :: base) hh F N sub.1 rfl rfl sub ⟨_, _, h0, .nil, rfl⟩ ?nil ?step
  case nil =>
    intro m nw hI h tk F N
    obtain ⟨its, n, hp, hi, rfl⟩ := hI
    rw [hv.length, List.length_map, List.take_of_length_le (Nat.le_refl _)] at hp hi
    exact hnil m its n h tk hp hi F fun p hp => N p (.tail _ hp)
  case step =>
    intro Q' i v m nw hvi hI I it h tk hit hlt F N
    obtain ⟨its, n, hp, hi, rfl⟩ := hI
    obtain ⟨b, t, r', rfl, hr, hbr⟩ := hv.at i v hvi
    rw [List.getElem?_map] at hr
    obtain ⟨r, hr0, rfl⟩ := Option.map_eq_some_iff.mp hr
    have hsub : ∀ q ∈ (Dm, listOf vm.toArray 0) :: (Wd, listOf #[] c0) :: base, q.1 < I := fun q hq => hlt q (SubL.mem sub q hq)
    have hoff : ∀ o', ∀ p ∈ (Dm, listOf vm.toArray 0) :: (Wd, o') :: base, p.1 ≠ I := fun o' p hp => by
      rcases List.mem_cons.mp hp with rfl | hp
      · exact Nat.ne_of_lt (hsub (Dm, listOf vm.toArray 0) (.head _))
      · rcases List.mem_cons.mp hp with rfl | hp
        · exact Nat.ne_of_lt (hsub (Wd, listOf #[] c0) (.tail _ (.head _)))
        · exact Nat.ne_of_lt (hsub p (.tail _ (.tail _ hp)))
    have hil : i < rows.length := (List.getElem?_eq_some_iff.mp hr0).1
    have hts : (rows.take i).flatten.length ≤ 900000 := by
      have e : rows.flatten = (rows.take i).flatten ++ (rows.drop i).flatten := by rw [← List.flatten_append, List.take_append_drop]
      rw [e, List.length_append] at hz
      omega
    have hit2 : its.size ≤ 100000 := by
      have := IntsAre.length hi
      rw [Array.length_toList, List.length_map, List.length_take] at this
      omega
    refine wpAny_mono (hstep Q' b t r _ _ m its n I it h tk (List.mem_of_getElem? hr0) hbr hp hts hi hit2 hit hoff (hsub (Wd, listOf #[] c0) (.tail _ (.head _))) (hsub (Dm, listOf vm.toArray 0) (.head _)) F N) (fun _ s₂ h₂ => wpAny_mono h₂ (fun f s₃ p => UnrPostW.mono (fun m' n' x => ?_) p) fun _ _ e => e) fun _ _ e => e
    obtain ⟨its', n1, hp', hi', rfl⟩ := x
    refine ⟨⟨.head _, trivial⟩, its', n1, ?_, ?_, rfl⟩
    · rw [List.take_add_one, hr0, List.flatten_append]
      simpa using hp'
    · rw [List.take_add_one, hr0, List.map_append]
      simpa using hi'
end
section
variable {prog : Program} {w : World} {A : Around} {E : Value → Shared → Prop} {s : Shared} {h₀ : Heap} {L : Addr} {m : Str → Option Value} {news : List (Addr × Obj)} {value slice : PySem.Expr} {Q : Value → Shared → Prop} {b : Array UInt8} {t u : Tok} {a r : List Int}
theorem k_bto {n : Int} {un : Tok} (hF : Fr h₀ L s.heap m) (hN : News h₀ L s.heap news) (hk : KBw.bInts b = a ++ r) (hn : n = (a.length : Int)) (hz : (a ++ r).length ≤ 100000)
    (h : ∀ h' t' k c, Fr h₀ L h' m → News h₀ L h' news → KBw.bInts c = a → Q (.bytes c t') { s with heap := h', toks := k })
    (hs : subscripted slice false (.bytes b t) (.ref s.heap.objs.size) = operate [.ref s.heap.objs.size, .bytes b t] (getItem (.bytes b t) (.ref s.heap.objs.size)) := by with_unfolding_all rfl)
    (ht : ∀ r, letTemporaryGo value (.bytes b t) r = pure () := by intro _; with_unfolding_all rfl) :
    wpAny (model prog w) A (subscriptTail value slice (.bytes b t) (.ref s.heap.objs.size)) Q E { s with heap := s.heap.push { cls := .type "slice", data := .fields #[.none, .int n un, .none] } } := by
  subst hn
  refine KBc.slice_K (lo := none) (hi := some (a.length : Int)) hF hN hk .none (.int _ _) (by omega) (fun h' t' k F' N' e => h h' t' k _ F' N' (e.trans ?_)) hs ht
  show (List.drop 0 (a ++ r)).take (clipAt (a ++ r).length (a.length : Int) - 0) = a
  rw [clipAt_nat, List.length_append, Nat.min_eq_left (by omega), Nat.sub_zero, List.drop_zero, List.take_left]
theorem k_bfr {n : Int} {un : Tok} (hF : Fr h₀ L s.heap m) (hN : News h₀ L s.heap news) (hk : KBw.bInts b = a ++ r) (hn : n = (a.length : Int)) (hz : (a ++ r).length ≤ 100000)
    (h : ∀ h' t' k c, Fr h₀ L h' m → News h₀ L h' news → KBw.bInts c = r → Q (.bytes c t') { s with heap := h', toks := k })
    (hs : subscripted slice false (.bytes b t) (.ref s.heap.objs.size) = operate [.ref s.heap.objs.size, .bytes b t] (getItem (.bytes b t) (.ref s.heap.objs.size)) := by with_unfolding_all rfl)
    (ht : ∀ r, letTemporaryGo value (.bytes b t) r = pure () := by intro _; with_unfolding_all rfl) :
    wpAny (model prog w) A (subscriptTail value slice (.bytes b t) (.ref s.heap.objs.size)) Q E { s with heap := s.heap.push { cls := .type "slice", data := .fields #[.int n un, .none, .none] } } := by
  subst hn
  refine KBc.slice_K (lo := some (a.length : Int)) (hi := none) hF hN hk (.int _ _) .none (by omega) (fun h' t' k F' N' e => h h' t' k _ F' N' (e.trans ?_)) hs ht
  show (List.drop (clipAt (a ++ r).length (a.length : Int)) (a ++ r)).take ((a ++ r).length - clipAt (a ++ r).length (a.length : Int)) = r
  rw [clipAt_nat, List.length_append, Nat.min_eq_left (by omega), List.drop_left, List.take_of_length_le (by omega)]
theorem k_lenI {ks : List Int} (hk : KBw.bInts b = ks) (hl : ks.length ≤ 100000) (h : ∀ t' k, Q (.int (ks.length : Int) t') { s with toks := k }) : wpAny (model prog w) A (call (.builtin "len") [.bytes b t]) Q E s :=
  KBw.len_K hk (by omega) (h _ _)
theorem sl_cat (xs ys : List Nat) : sl xs ++ sl ys = sl (xs ++ ys) := by
  refine PySem.Str.ext' (Array.toList_inj.mp ?_)
  rw [PySem.Str.cps_append, Array.toList_append]
  rfl
theorem k_mod4 {z : Int} (hz : z.fmod 4 = 0) (h : Q (.int 0 s.toks) { s with toks := s.toks + 1 }) : wpAny (model prog w) A (binaryOp .Mod (.int z t) (.int 4 u)) Q E s := by
  refine mod_int' (by decide) ?_
  rw [hz]
  exact h
theorem slice_upto2 (l : List Nat) : Txt.slice (sl l) none (some (-2)) = sl (l.take (l.length - 2)) := by
  have hl : (sl l).length = l.length := rfl
  have e : Builtin.Str.strSliceIndices none (some (-2)) 1 (sl l).length = List.map (fun (k : Nat) => (((0 : Nat) : Int) + 1 * (k : Int)).toNat) (List.range (l.length - 2)) := by
    unfold Builtin.Str.strSliceIndices sliceRange
    simp only [show (1 : Int) > 0 by decide, if_true, Int.ediv_one, hl, if_pos (show (-2 : Int) < 0 by decide)]
    congr 2
    split <;> omega
  unfold Txt.slice
  rw [e]
  have e2 : ((List.map (fun (k : Nat) => (((0 : Nat) : Int) + 1 * (k : Int)).toNat) (List.range (l.length - 2))).filterMap ((sl l).cps[·]?)) = l.take (l.length - 2) := by
    have := fm_range' l 0 (l.length - 2)
    rw [List.drop_zero] at this
    rw [← this]
    simp [sl]
  rw [e2]
  split
  · rename_i hc
    simp only [List.length_map, List.length_range, hl, Bool.and_eq_true, beq_iff_eq] at hc
    rw [List.take_of_length_le (by omega)]
  · rfl
theorem k_s2 {x : Str} {l : List Nat} {tx uj : Tok} (hF : Fr h₀ L s.heap m) (hN : News h₀ L s.heap news) (hx : x = sl l) (hl : l.length ≤ 1000000) (h : ∀ h' t' k, Fr h₀ L h' m → News h₀ L h' news → Q (.str (sl (l.take (l.length - 2))) t') { s with heap := h', toks := k })
    (hs : subscripted slice false (.str x tx) (.ref s.heap.objs.size) = operate [.ref s.heap.objs.size, .str x tx] (getItem (.str x tx) (.ref s.heap.objs.size)) := by with_unfolding_all rfl)
    (ht : ∀ r, letTemporaryGo value (.str x tx) r = pure () := by intro _; with_unfolding_all rfl) :
    wpAny (model prog w) A (subscriptTail value slice (.str x tx) (.ref s.heap.objs.size)) Q E { s with heap := s.heap.push { cls := .type "slice", data := .fields #[.none, .int (-2) uj, .none] } } := by
  subst hx
  refine slice_strN_ns hF hN (fun h' t' k F' N' => ?_) hs ht (by rw [sl_len, sizeLine_eq]; omega)
  rw [slice_upto2]
  exact h h' t' k F' N'
theorem k_inEq {l : List Nat} {tx ux : Tok} (hn : 61 ∉ l) (h : Q (.bool false) s) : wpAny (model prog w) A (compareOp .In (.str (Str.ofString "=") ux) (.str (sl l) tx)) Q E s := by
  refine in_str ?_
  have e : (!(Builtin.Str.occurrences (sl l) (Str.ofString "=") 0 (sl l).length 1).isEmpty) = false := by
    rw [txtEq]
    show (!(Builtin.Str.occurrences (sl l) ⟨#[61]⟩ 0 (sl l).length 1).isEmpty) = false
    rw [StrLaws.found_one]
    exact decide_eq_false hn
  rw [e]
  exact h
theorem k_eqNil {a b : Addr} {n n' : Nat} (N : News h₀ L s.heap news) (ha : (a, listOf #[] n) ∈ news) (hb : (b, listOf #[] n') ∈ news) (hu : A.units + 64 < cLine) (h : Q (.bool true) s) : wpAny (model prog w) A (compareOp .Eq (.ref a) (.ref b)) Q E s :=
  ke_eq_ints (xs := []) (ys := []) (N.isList ha) (N.isList hb) .nil .nil hu h
theorem k_wid {l : Addr} {its : Array Value} {ws : List Int} {n : Nat} {k c : Int} {uk : Tok} (N : News h₀ L s.heap news) (hm : (l, listOf its n) ∈ news) (hi : IntsAre its.toList ws) (h0 : 0 ≤ k) (hc : ws[k.toNat]? = some c) (hz : ws.length ≤ 100000) (h : ∀ t, Q (.int c t) s)
    (hs : subscripted slice false (.ref l) (.int k uk) = operate [.ref l, .int k uk] (getItem (.ref l) (.int k uk)) := by with_unfolding_all rfl) (hg : ∀ r, letTemporaryGo value (.ref l) r = pure () := by intro _; with_unfolding_all rfl) :
    wpAny (model prog w) A (subscriptTail value slice (.ref l) (.int k uk)) Q E s := by
  have hlt : k.toNat < ws.length := (List.getElem?_eq_some_iff.mp hc).1
  have hl : s.heap.IsList l its.toList.toArray := N.isList hm
  refine item_list_ints hl hi h0 (by omega) (by omega) (fun t => ?_) hs hg
  have e : ws.getD k.toNat 0 = c := by rw [List.getD_eq_getElem?_getD, hc]; rfl
  rw [e]
  exact h t
end
theorem G_noeq : ∀ (ks : List Int), (∀ k ∈ ks, 0 ≤ k ∧ k < 256) → ∀ c ∈ (G ks).take ((G ks).length - 2), c ≠ 61
  | [], _, c, hc => by simp [G] at hc
  | [x], h, c, hc => by
    have hx := h x (.head _)
    have e : (G [x]).take ((G [x]).length - 2) = [sg (x / 4), sg (x % 4 * 16)] := rfl
    rw [e] at hc
    simp only [List.mem_cons, List.not_mem_nil, or_false] at hc
    rcases hc with rfl | rfl
    · exact (sg_at (by omega) (by omega)).2.1
    · exact (sg_at (by omega) (by omega)).2.1
  | [x, y], h, c, hc => by
    have hx := h x (.head _)
    have hy := h y (.tail _ (.head _))
    have e : (G [x, y]).take ((G [x, y]).length - 2) = [sg (x / 4), sg (x % 4 * 16 + y / 16)] := rfl
    rw [e] at hc
    simp only [List.mem_cons, List.not_mem_nil, or_false] at hc
    rcases hc with rfl | rfl
    · exact (sg_at (by omega) (by omega)).2.1
    · exact (sg_at (by omega) (by omega)).2.1
  | x :: y :: z :: r, h, c, hc => by
    have hx := h x (.head _)
    have hy := h y (.tail _ (.head _))
    have hz := h z (.tail _ (.tail _ (.head _)))
    have hr : ∀ k ∈ r, 0 ≤ k ∧ k < 256 := fun k hk => h k (.tail _ (.tail _ (.tail _ hk)))
    have hc2 : c ∈ [sg (x / 4), sg (x % 4 * 16 + y / 16), sg (y % 16 * 4 + z / 64), sg (z % 64)] ∨ c ∈ (G r).take ((G r).length - 2) := by
      have e : G (x :: y :: z :: r) = [sg (x / 4), sg (x % 4 * 16 + y / 16), sg (y % 16 * 4 + z / 64), sg (z % 64)] ++ G r := rfl
      rw [e, List.take_append] at hc
      rcases List.mem_append.mp hc with hc | hc
      · exact .inl (List.mem_of_mem_take hc)
      · right
        have e2 : ([sg (x / 4), sg (x % 4 * 16 + y / 16), sg (y % 16 * 4 + z / 64), sg (z % 64)] ++ G r).length - 2 - [sg (x / 4), sg (x % 4 * 16 + y / 16), sg (y % 16 * 4 + z / 64), sg (z % 64)].length = (G r).length - 2 := by
          simp only [List.length_append, List.length_cons, List.length_nil]
          omega
        rw [e2] at hc
        exact hc
    rcases hc2 with hc | hc
    · simp only [List.mem_cons, List.not_mem_nil, or_false] at hc
      rcases hc with rfl | rfl | rfl | rfl <;> exact (sg_at (by omega) (by omega)).2.1
    · exact G_noeq r hr c hc
theorem k_und {w : World} {env : Env} {l : List Nat} {t : Tok} {ks : List Int} {mg mb : Str → Option Value} {mean : ExcName → Option Value} {loose : List Str} {dp un : Nat} {gd : Option (List Code)} {outer : List Env} {base g₀ : Heap} {s : Shared} {L : Addr} {m : Str → Option Value} {news : List (Addr × Obj)} {p : Program} {Q E : Value → Shared → Prop}
    (B : Below (arnd dp un gd outer) base outer g₀) (hf : env.frame = some L) (hke : env.scope.kind = .function) (F : Fr g₀ L s.heap m) (N : News g₀ L s.heap news) (X : (hd06.heap_39 w.params).In g₀) (T : Top p loose mean mg mb g₀)
    (hk : ∀ k ∈ ks, 0 ≤ k ∧ k < 256) (hl : l = (G ks).map Int.toNat) (hz : ks.length ≤ 20000) (hdp : dp + 25 < recursionLimit) (hu : un + 110 < cLine)
    (h : ∀ h' tk t c, Fr g₀ L h' m → News g₀ L h' news → KBw.bInts c = ks → Q (.bytes c t) { s with heap := h', toks := tk }) :
    wpAny (model PySem.Challenge.rw_ko0126_06.row.prog w) ((arnd dp un gd outer).deeper env) (call (.ref 279) [.str (sl l) t]) Q E s :=
  wpAny_call (und l t ks mg mb mean loose (dp + 1) (un + 3) gd (env :: outer) base s.heap s _ rfl (pushX B F hf hke) (X.keeps F.keep) (T.keeps F.keep) hk hl hz
    (fun h' tk t c hkp hc => h h' tk t c (F.keptAll hkp) (N.grown hkp) hc) (by omega) (by omega))
/-- the law's names in the loops behind the rows -/
structure RM (W : Addr) (b : Array UInt8) (lv n : Nat) (Wd : Addr) (f : Nat) (tl : List Int) (m : Str → Option Value) : Prop where
  lf : LF m W b lv n
  full : ∃ t, m "full" = some (.int (f : Int) t)
  widths : m "widths" = some (.ref Wd)
  text : ∃ t, m "text" = some (.str (sl (tl.map Int.toNat)) t)
theorem rowsS_ne {ks : List Int} (h : ∀ k ∈ ks, 0 ≤ k ∧ k < 256) {z : Nat} (hz : 3 ≤ z) : ∀ r ∈ rowsS ks z (cntB ks.length z), r ≠ [] := by
  intro r hr e
  obtain ⟨j, hj⟩ := List.mem_iff_getElem?.mp hr
  have hlen : (rowsS ks z (cntB ks.length z)).length = cntB ks.length z := by unfold rowsS; rw [List.length_map, List.length_range]
  have hj2 : j < cntB ks.length z := by
    have := (List.getElem?_eq_some_iff.mp hj).1
    omega
  obtain ⟨r', h1, h2⟩ := rowsS_len h z _ j hj2
  rw [hj] at h1
  cases h1
  have hlt := cntB_lt hj2
  rw [e, List.length_nil] at h2
  omega
theorem rowsS_cnt (ks : List Int) (z i : Nat) : (rowsS ks z i).length = i := by unfold rowsS; rw [List.length_map, List.length_range]
/-- the widths: full but for the last -/
theorem width_at {ks : List Int} (h : ∀ k ∈ ks, 0 ≤ k ∧ k < 256) {z i : Nat} (h3 : 3 ∣ z) (hz : 3 ≤ z) (hi : i < cntB ks.length z) :
    ∃ c : Nat, ((rowsS ks z (cntB ks.length z)).map (fun r => (r.length : Int)))[i]? = some (c : Int) ∧ 1 ≤ c ∧ c ≤ z / 3 * 4 ∧ (i + 1 < cntB ks.length z → c = z / 3 * 4) := by
  obtain ⟨r, h1, h2⟩ := rowsS_len h z _ i hi
  refine ⟨r.length, by rw [List.getElem?_map, h1]; rfl, ?_, ?_, ?_⟩
  · have := cntB_lt hi
    omega
  · omega
  · intro hi2
    have hlt := cntB_lt hi2
    rw [Nat.add_mul, Nat.one_mul] at hlt
    omega
theorem full_eq (n lv : Nat) (c : Nat) (hc : c = colF (leadL n lv)) : (if 76 - (c : Int) > 16 then 76 - (c : Int) else 16).fdiv 4 * 4 = ((zL n lv / 3 * 4 : Nat) : Int) := by
  subst hc
  rw [Int.fdiv_eq_ediv_of_nonneg _ (by decide)]
  unfold zL
  split <;> omega
section
variable {prog : Program} {w : World} {A : Around} {E : Value → Shared → Prop} {s : Shared} {Q : Value → Shared → Prop}
theorem k_icat {xs ys : List Nat} {y : Str} {t u : Tok} (hy : y = sl ys) (hl : xs.length + ys.length ≤ 2000000) (h : ∀ t' k, Q (.str (sl (xs ++ ys)) t') { s with toks := k }) : wpAny (model prog w) A (inplaceOp .Add (.str (sl xs) t) (.str y u)) Q E s := by
  subst hy
  refine SB.iadd (fun t' k => ?_) (by rw [sl_len, sl_len, sizeLine_eq]; omega)
  rw [sl_cat]
  exact h t' k
end
theorem rowAux {n lv : Nat} {b : Array UInt8} {r : List Int} (_h : KBw.bInts b = leadI n lv ++ r) (hv : lv < 13) (hr : r.length ≤ 120) : (leadI n lv).length ≤ 100000 ∧ (leadI n lv ++ r).length ≤ 100000 := by
  have := leadI_len (n := n) hv
  rw [List.length_append]
  omega
theorem rowInt (a r : List Int) : (((a ++ r).length : Nat) : Int) - (a.length : Int) = (r.length : Int) := by
  rw [List.length_append]
  omega
section
variable {prog : Program} {w : World} {A : Around} {E : Value → Shared → Prop} {s : Shared} {h₀ : Heap} {env : Env} {x : Str} {body : List Stmt} {Q : Flow → Shared → Prop}
/-- a for over range(n) that leaves the ledger as it is -/
theorem rngGo {r : Addr} {n : Nat} {t₀ u₀ v₀ : Tok} {m₀ : Str → Option Value} {news : List (Addr × Obj)} (PM : (Str → Option Value) → Prop)
    (hh : A.handled = none) (hr : IsRange s.heap r 0 (n : Int) 1 t₀ u₀ v₀) (hn : n ≤ 100000) (F : Fr h₀ env.locals s.heap m₀) (N : News h₀ env.locals s.heap news) (h0 : PM m₀)
    (hnil : ∀ m h tk, PM m → Fr h₀ env.locals h m → News h₀ env.locals h news → Q .next { s with heap := h, toks := tk })
    (hstep : ∀ (Q' : Flow → Shared → Prop) i m t h tk I it, i < n → PM m → it.cls = .type "range_iterator" → (∀ p ∈ news, p.1 ≠ I) → Fr h₀ env.locals h (fun y => if y = x then some (.int (i : Int) t) else m y) →
      News h₀ env.locals h ((I, it) :: news) →
      wpAny (model prog w) A (execs body env) (UnrPost h₀ env.locals { s with heap := h, toks := tk } I it (fun m' n' => PM m' ∧ n' = news) Q') E { s with heap := h, toks := tk }) :
    wpAny (model prog w) A (pyIter (.ref r)) (fun it s₂ => LoopAtV prog w A h₀ env x body Q E it s₂) E s := by
  have hs := small_z (n := n) (z := 1) hn (by decide) (by decide)
  have e : cntB n 1 = n := by
    unfold cntB
    split <;> omega
  rw [e] at hs
  refine krs_iter (n := n) hh hr hs.1 hs.2 F N fun I hI => ?_
  refine krsInv (fun _ m nw => PM m ∧ nw = news) (fun m nw hI h tk F2 N2 => ?_) (fun i m nw hi hI2 t h tk F2 N2 => ?_) _ 0 m₀ _ (Nat.zero_add _) ⟨h0, rfl⟩
  · obtain ⟨hp, rfl⟩ := hI
    exact hnil m h tk hp F2 N2
  · obtain ⟨hp, rfl⟩ := hI2
    have e : (0 : Int) + (i : Int) * 1 = (i : Int) := by omega
    rw [e] at F2
    exact hstep Q i m t h tk I _ hi hp rfl (fun p hp => Nat.ne_of_lt (hI p hp)) F2 N2
end
theorem packW {ks : List Int} {z : Nat} {its : Array Value} (h : ∀ k ∈ ks, 0 ≤ k ∧ k < 256) (h3 : 3 ∣ z) (hz : 3 ≤ z) (hws : IntsAre its.toList ((rowsS ks z (cntB ks.length z)).map fun r => (r.length : Int))) :
    ∃ (ws : List Int) (N f : Nat), z / 3 * 4 = f ∧ IntsAre its.toList ws ∧ ws.length = N ∧ N ≤ ks.length ∧ its.size = N ∧ ∀ i, i < N → ∃ c : Nat, ws[i]? = some (c : Int) ∧ 1 ≤ c ∧ c ≤ f ∧ (i + 1 < N → c = f) := by
  refine ⟨_, cntB ks.length z, _, rfl, hws, by rw [List.length_map, rowsS_cnt], cntB_le _ _, ?_, fun i hi => width_at h h3 hz hi⟩
  have := IntsAre.length hws
  rw [Array.length_toList, List.length_map, rowsS_cnt] at this
  exact this
theorem packT {ks : List Int} (h : ∀ k ∈ ks, 0 ≤ k ∧ k < 256) (hl : ks.length ≤ 5000) :
    ∃ T : List Int, G ks = T ∧ (((T.map Int.toNat).length : Nat) : Int).fmod 4 = 0 ∧ 61 ∉ (T.map Int.toNat).take ((T.map Int.toNat).length - 2) ∧ (T.map Int.toNat).length ≤ 1000000 := by
  refine ⟨_, rfl, ?_, ?_, ?_⟩
  · rw [List.length_map, G_len, Int.fmod_eq_emod_of_nonneg _ (by decide)]
    omega
  · rw [List.length_map, ← List.map_take]
    intro hm
    obtain ⟨c, hc, e⟩ := List.mem_map.mp hm
    have h1 := G_noeq ks h c hc
    have h2 := (G_sgn ks h c (List.mem_of_mem_take hc)).ok
    omega
  · rw [List.length_map, G_len]
    omega
end Mine
end
section
open PySem PySem.W PyProof.Rows PySem.Calls PySem.Spec
set_option Elab.async false
set_option maxRecDepth 100000
set_option maxHeartbeats 8000000
namespace Mine
local macro_rules | `(tactic| walk_at "eval ListComp") => `(tactic| (k_here; refine hold ?_))
local macro_rules | `(tactic| walk_at "binaryOp Mod int int") => `(tactic| (k_here; (with_reducible show wpAny _ _ (binaryOp Operator.Mod (Value.int _ _) (Value.int 13 _)) _ _ _); k_dflt (refine k_mod13 ?_); intro lv' hlv'))
local macro_rules | `(tactic| walk_at "subscriptTail") => `(tactic| (k_here; (with_reducible show wpAny _ _ (subscriptTail (Expr.List _ _) _ (Value.ref _) (Value.int (Int.fmod _ 3) _)) _ _ _); (rename News _ _ _ _ => zN); k_dflt (refine kba_turn (value' := PySem.Expr.Name (PySem.Str.ofString "_") ⟨0, 0, 0, 0⟩) (fun _ => rfl) (k_ind zN (by k_mem) ?_)); intro t'))
local macro_rules | `(tactic| walk_at "binaryOp Mult bytes int") => `(tactic| (k_here; (with_reducible show wpAny _ _ (binaryOp Operator.Mult (Value.bytes (List.toArray (indL _)) _) (Value.int _ _)) _ _ _); k_dflt (refine k_lead (by assumption) ?_); intro t' k'))
local macro_rules | `(tactic| walk_at "call type:bytes") => `(tactic| (k_here; refine hold ?_))
local macro_rules | `(tactic| walk_at "call ref") => `(tactic| (k_here; (with_reducible show wpAny _ _ (call (Value.ref 253) _) _ _ _); refine hold ?_))
local macro_rules | `(tactic| walk_at "pyIter bytes") => `(tactic| refine hold ?_)
local macro_rules | `(tactic| walk_at "eval Name") => `(tactic| (k_here; (with_reducible show wpAny _ _ (eval (Expr.Name _ _) _) _ _ _); (rename Fr _ _ _ _ => zF); (rename LF _ _ _ _ _ => zM); k_dflt (first | refine ldLoc zF (by with_unfolding_all exact Exists.choose_spec zM.data) ?_ | refine ldLoc zF (by with_unfolding_all exact Exists.choose_spec zM.level) ?_ | refine ldLoc zF (by with_unfolding_all exact Exists.choose_spec zM.lead) ?_ | refine ldLoc zF (by with_unfolding_all exact zM.writer) ?_)))
local macro_rules | `(tactic| walk_at "eval Name") => `(tactic| (k_here; (with_reducible show wpAny _ _ (eval (Expr.Name (PySem.Str.ofString "column") _) _) _ _ _); (rename Fr _ _ _ _ => zF); (rename CF _ _ => zM); k_dflt (refine ldLoc zF (by with_unfolding_all exact Exists.choose_spec zM.column) ?_)))
local macro_rules | `(tactic| walk_at "loadName") => `(tactic| (k_here; (with_reducible show wpAny _ _ (loadName _ (PySem.Str.ofString "column")) _ _ _); (rename Fr _ _ _ _ => zF); (rename CF _ _ => zM); k_dflt (refine ldnLoc zF (by with_unfolding_all exact Exists.choose_spec zM.column) ?_)))
local macro_rules | `(tactic| walk_at "getMethod bytes") => `(tactic| (k_here; (with_reducible show wpAny _ _ (getMethod (Value.bytes _ _) (PySem.Str.ofString "join") _) _ _ _); k_dflt (refine k_getjoin ?_)))
local macro_rules | `(tactic| walk_at "getMethod bytes") => `(tactic| (k_here; (with_reducible show wpAny _ _ (getMethod (Value.bytes _ _) (PySem.Str.ofString "split") _) _ _ _); k_dflt (refine k_getsplit ?_)))
local macro_rules | `(tactic| walk_at "getMethod bytes") => `(tactic| (k_here; (with_reducible show wpAny _ _ (getMethod (Value.bytes _ _) (PySem.Str.ofString "decode") _) _ _ _); k_dflt (refine k_getdec ?_)))
local macro_rules | `(tactic| walk_at "call builtin:bytes.join") => `(tactic| (k_here; refine hold ?_))
local macro_rules | `(tactic| walk_at "call builtin:bytes.split") => `(tactic| (k_here; refine hold ?_))
local macro_rules | `(tactic| walk_at "subscriptTail Name Slice ref ref") => `(tactic| (k_here; (with_reducible show wpAny _ _ (subscriptTail _ (Expr.Slice (some _) none none _) (Value.ref _) (Value.ref _)) _ _ _); (rename News _ _ _ _ => zN); (rename Fr _ _ _ _ => zF); k_dflt (refine k_sl2 zF zN (by k_mem) (by assumption) ?_); intro D' h' F' N' l1; (try k_lt l1)))
local macro_rules | `(tactic| walk_at "subscriptTail Name Slice ref ref") => `(tactic| (k_here; (with_reducible show wpAny _ _ (subscriptTail _ (Expr.Slice (some _) (some _) none _) (Value.ref _) (Value.ref _)) _ _ _); (rename News _ _ _ _ => zN); (rename Fr _ _ _ _ => zF); k_dflt (refine k_sl1 zF zN (by k_mem) (by assumption) ?_); intro D' h' F' N' l1; (try k_lt l1)))
local macro_rules | `(tactic| walk_at "compareOp NotEq bytes bytes") => `(tactic| (k_here; k_dflt (refine k_bne (by assumption) (by assumption) ?_)))
local macro_rules | `(tactic| walk_at "compareOp NotEq ref ref") => `(tactic| (k_here; (rename News _ _ _ _ => zN); k_dflt (refine k_bbne zN (by k_mem) (by k_mem) (by assumption) (by assumption) (by assumption) rfl (by k_units) ?_)))
local macro_rules | `(tactic| walk_at "binaryOp Add bytes bytes") => `(tactic| (k_here; k_dflt (first | refine k_ladd [60, 100, 97, 116, 97, 62] rfl (by assumption) (by decide) ?_ | refine k_ladd [60, 47, 100, 97, 116, 97, 62] rfl (by assumption) (by decide) ?_); intro d' t' k' e'))
local macro_rules | `(tactic| walk_at "exec For Name Subscript cons nil") => `(tactic| (k_here; (rename Fr _ _ _ _ => lF'); (with_unfolding_all refine' For_turns lF' ?_; k_whole)))
local macro_rules | `(tactic| walk_at "pyIter ref") => `(tactic| ((with_reducible show wpAny _ _ (pyIter (Value.ref _)) (fun it s₂ => TurnsAt _ _ _ _ _ _ _ _ _ it s₂) _ _); (refine hold ?_)))
local macro_rules | `(tactic| walk_at "eval Name") => `(tactic| (k_here; (with_reducible show wpAny _ _ (eval (Expr.Name _ _) _) _ _ _); (rename Fr _ _ _ _ => zF); (rename RM _ _ _ _ _ _ _ _ => zM); k_dflt (first | refine ldLoc zF (by with_unfolding_all exact Exists.choose_spec zM.text) ?_ | refine ldLoc zF (by with_unfolding_all exact zM.widths) ?_ | refine ldLoc zF (by with_unfolding_all exact Exists.choose_spec zM.full) ?_ | refine ldLoc zF (by with_unfolding_all exact Exists.choose_spec zM.lf.lead) ?_ | refine ldLoc zF (by with_unfolding_all exact Exists.choose_spec zM.lf.data) ?_ | refine ldLoc zF (by with_unfolding_all exact Exists.choose_spec zM.lf.level) ?_ | refine ldLoc zF (by with_unfolding_all exact zM.lf.writer) ?_)))
local macro_rules | `(tactic| walk_at "loadName") => `(tactic| (k_here; (with_reducible show wpAny _ _ (loadName _ (PySem.Str.ofString "text")) _ _ _); (rename Fr _ _ _ _ => zF); (rename RM _ _ _ _ _ _ _ _ => zM); k_dflt (refine ldnLoc zF (by with_unfolding_all exact Exists.choose_spec zM.text) ?_)))
local macro_rules | `(tactic| walk_at "call builtin:len") => `(tactic| (k_here; (with_reducible show wpAny _ _ (call (Value.builtin "len") [Value.bytes (List.toArray (leadL _ _)) _]) _ _ _); k_dflt (refine k_lenI (ks := leadI _ _) rfl (by assumption) ?_); intro t' k'))
local macro_rules | `(tactic| walk_at "call builtin:len") => `(tactic| (k_here; (with_reducible show wpAny _ _ (call (Value.builtin "len") [Value.bytes _ _]) _ _ _); k_dflt (refine k_lenI (by assumption) (by assumption) ?_); intro t' k'))
local macro_rules | `(tactic| walk_at "call builtin:len") => `(tactic| (k_here; (with_reducible show wpAny _ _ (call (Value.builtin "len") [Value.str (sl _) _]) _ _ _); k_dflt (refine k_slen (by assumption) ?_)))
local macro_rules | `(tactic| walk_at "subscriptTail Name Slice bytes ref") => `(tactic| (k_here; (with_reducible show wpAny _ _ (subscriptTail _ (Expr.Slice none (some _) none _) (Value.bytes _ _) (Value.ref _)) _ _ _); (rename News _ _ _ _ => zN); (rename Fr _ _ _ _ => zF); k_dflt (refine k_bto zF zN (by assumption) rfl (by assumption) ?_); intro h' t' k' c' F' N' e'))
local macro_rules | `(tactic| walk_at "subscriptTail Name Slice bytes ref") => `(tactic| (k_here; (with_reducible show wpAny _ _ (subscriptTail _ (Expr.Slice (some _) none none _) (Value.bytes _ _) (Value.ref _)) _ _ _); (rename News _ _ _ _ => zN); (rename Fr _ _ _ _ => zF); k_dflt (refine k_bfr zF zN (by assumption) rfl (by assumption) ?_); intro h' t' k' c' F' N' e'))
local macro_rules | `(tactic| walk_at "compareOp NotEq bytes bytes") => `(tactic| (k_here; (with_reducible show wpAny _ _ (compareOp _ _ (Value.bytes (List.toArray (leadL _ _)) _)) _ _ _); k_dflt (refine k_bne (ks := leadI _ _) (by assumption) rfl ?_)))
local macro_rules | `(tactic| walk_at "call builtin:bytes.decode") => `(tactic| (k_here; k_dflt (refine k_dec (by assumption) (by assumption) (by assumption) (by omega) ?_); intro t' k'))
local macro_rules | `(tactic| walk_at "inplaceOp Add str str") => `(tactic| (k_here; k_dflt (refine k_icat rfl (by (simp only [List.length_map]; omega)) ?_); intro t' k'))
local macro_rules | `(tactic| walk_at "call builtin:list.append") => `(tactic| (k_here; (rename News _ _ _ _ => zN); (rename Fr _ _ _ _ => zF); (rename RM _ _ _ _ _ _ _ _ => zM); k_dflt (refine' append_K zF zN ?aU ?_ ?az; (case aU => k_upd); (case az => (rw [sizeLine_eq]; omega))); intro h' F' N'))
local macro_rules | `(tactic| walk_at "binaryOp Mod int int") => `(tactic| (k_here; (with_reducible show wpAny _ _ (binaryOp Operator.Mod (Value.int _ _) (Value.int 4 _)) _ _ _); k_dflt (refine k_mod4 (by assumption) ?_)))
local macro_rules | `(tactic| walk_at "subscriptTail Name Slice str ref") => `(tactic| (k_here; (with_reducible show wpAny _ _ (subscriptTail _ (Expr.Slice none (some _) none _) (Value.str (sl _) _) (Value.ref _)) _ _ _); (rename News _ _ _ _ => zN); (rename Fr _ _ _ _ => zF); k_dflt (refine k_s2 zF zN rfl (by assumption) ?_); intro h' t' k' F' N'))
local macro_rules | `(tactic| walk_at "compareOp In str str") => `(tactic| (k_here; (with_reducible show wpAny _ _ (compareOp CmpOp.In (Value.str _ _) (Value.str (sl _) _)) _ _ _); k_dflt (refine k_inEq (by assumption) ?_)))
local macro_rules | `(tactic| walk_at "compareOp Eq ref ref") => `(tactic| (k_here; (rename News _ _ _ _ => zN); k_dflt (refine k_eqNil zN (by k_mem) (by k_mem) (by k_units) ?_)))
local macro_rules | `(tactic| walk_at "call ref") => `(tactic| (k_here; (with_reducible show wpAny _ _ (call (Value.ref 279) _) _ _ _); refine hold ?_))
local macro_rules | `(tactic| walk_at "pyIter ref") => `(tactic| ((with_reducible show wpAny _ _ (pyIter (Value.ref _)) (fun it s₂ => LoopAtV _ _ _ _ _ _ _ _ _ it s₂) _ _); (rename RM _ _ _ _ _ _ _ _ => zM); (refine hold ?_)))
local macro_rules | `(tactic| walk_at "subscriptTail Name Name ref int") => `(tactic| (k_here; (rename News _ _ _ _ => zN); (rename RM _ _ _ _ _ _ _ _ => zM); k_dflt (refine k_wid zN (by k_mem) (by assumption) (by omega) (by assumption) (by assumption) ?_); intro t'))
theorem law6 : PySem.Challenge.rw_ko0126_06.Holds := hd06 ⟨left06, by
  w_strict (k_go0; (all_goals try k_fold); generalize hGW : GoodW PySem.Challenge.rw_ko0126_06.row.claim _ _ _ _ = R; k_steps; skip
            rename Fr _ _ _ _ => zF
            rename News _ _ _ _ => zN
            rename IntsAre _ _ => zI
            rename ¬ ((63 : Nat) : Int) < _ => h63
            rename Heap.IsList _ _ _ => hlist
            delta Hold
            refine' ListComp_2 zF zN rfl hlist zI (by omega) (by with_unfolding_all rfl) (by decide) (by rfl) (by decide) (by rfl) (by rfl) (by decide) ?hit ?turn1 ?turn2 ?fin
            case hit =>
              intro Q' h
              k_steps
              exact h
            case turn1 =>
              intro a ta I oI C oC D m₂ ys h tk E' hC hx F N
              k_steps
              rename IsRange _ _ _ _ _ _ _ _ => hR
              rename Fr _ _ _ _ => zF2
              rename News _ _ _ _ => zN2
              have b1 := Int.fmod_nonneg_of_pos a (show (0 : Int) < 31 by decide)
              have b2 := Int.fmod_lt_of_pos a (show (0 : Int) < 31 by decide)
              exact ⟨_, _, _, _, _, _, _, rfl, hR, by omega, by omega, rfl, zF2, zN2⟩
            case turn2 =>
              intro a ta b tb I1 o1 I oI C oC D m₂ ys h tk E' hC hx hj h0 h1 F N
              k_steps
              rename Fr _ _ _ _ => zF2
              rename News _ _ _ _ => zN2
              exact ⟨_, _, _, _, rfl, Int.fmod_nonneg_of_pos _ (by decide), Int.fmod_lt_of_pos _ (by decide), rfl, zF2, zN2⟩
            case fin =>
              intro D h tk ys hO F N off
              clear zF zN
              (try (rename Flt.MathXP _ _ _ => y; clear y))
              (try (rename LooseAre _ _ _ => y; clear y))
              (try (rename Glob _ _ _ _ _ _ _ _ => y; clear y))
              (try (rename Tables _ _ _ _ => y; clear y))
              (try (rename TopE _ _ _ _ => y; clear y))
              (try (rename TopW _ _ _ => y; clear y))
              (try (rename BMod _ _ _ _ _ => y; clear y))
              (try (rename Dflts _ _ _ => y; clear y))
              (try (rename Heap.CodeRec _ _ _ => y; clear y))
              (try (rename ReadsAll _ _ _ _ => y; clear y))
              (try (rename Well _ _ _ _ => y; clear y))
              (try (rename Reads _ _ _ _ => y; clear y))
              (try (rename ReadsAllW _ _ _ _ _ _ => y; clear y))
              (try (rename WShape.hasAll _ _ _ = _ => y; clear y))
              (try (rename WData.layableAll _ _ = _ => y; clear y))
              (try (rename PyData.layable0 _ = _ => y; clear y))
              (try (rename PyData.layableAll0 _ = _ => y; clear y))
              (try (rename Spec.Shape.has _ _ = _ => y; clear y))
              obtain ⟨ks, hk1, hk2, hk3⟩ := hO.ex
              dsimp only
              k_steps
              delta Hold
              refine k_bytesL (its := ys.toArray) ⟨_, (N (D, _) (.head _)).1, rfl, _, rfl⟩ hk1 hk2 (by rw [List.size_toArray, hk1.length]; omega) rfl ?_
              intro h9 t9 k9 b9 hk9 hb9
              have F9 := F.keptAll hk9
              have N9 : News _ _ _ _ := fun p hp => N.grown hk9 p (.tail _ hp)
              clear F N hk9 off
              dsimp only
              k_steps
              rename Fr _ _ _ _ => zF
              rename News _ _ _ _ => zN
              delta Hold
              refine' k_wb12 ?wB rfl rfl zF ?wX ?wT zN ?w1 ?w2 ?w3 ?w4 ?w5 ?w6 ?w7 ?w8 ?w9 ?wf (by assumption) hb9 hk2 (by omega) (by decide) (by decide) ?wfin
              case wB => assumption
              case wX => assumption
              case wT => assumption
              case w1 => omega
              case w2 => omega
              case w3 => omega
              case w4 => omega
              case w5 => omega
              case w6 => omega
              case w7 => omega
              case w8 => omega
              case w9 => omega
              case wf =>
                exact wrF (by assumption) (by assumption) (by assumption)
              case wfin =>
                intro h5 tk5 its n5 c5 u5 hpt hpz F5 N5
                dsimp only at N5
                have hEx : ∃ hx, News _ _ hx _ := ⟨h5, N5⟩
                clear zF zN
                dsimp only
                k_steps
                rename Fr _ _ _ _ => zF
                rename News _ _ _ _ => zN
                delta Hold
                refine' colGo (fun m => LF m _ b9 _ _) rfl rfl zF zN ⟨⟨_, rfl⟩, ⟨_, rfl⟩, ⟨_, rfl⟩, rfl⟩ ⟨_, rfl⟩ ?cturn ?cdone
                case cturn =>
                  intro k t m h tk own c h0 h1 hoff hP hC F N
                  have hC2 : CF m c := ⟨hC⟩
                  clear zF zN hGW hpt
                  dsimp only
                  by_cases h9 : k = 9
                  · subst h9
                    k_steps
                    rename Fr _ _ _ _ => zF
                    rename News _ _ _ _ => zN
                    exact ⟨_, _, _, _, _, rfl, zF, zN, fun p hp => List.mem_append.mpr (Or.inl hp), fun p hp => List.mem_append.mpr (Or.inr hp), rfl, ⟨⟨by with_unfolding_all exact hP.data, by with_unfolding_all exact hP.level, by with_unfolding_all exact hP.lead, by with_unfolding_all exact hP.writer⟩, _, by with_unfolding_all exact congrArg (fun z => some (Value.int z _)) (colA c)⟩, rfl⟩
                  · k_steps
                    rename Fr _ _ _ _ => zF
                    rename News _ _ _ _ => zN
                    exact ⟨_, _, _, _, _, rfl, zF, zN, fun p hp => List.mem_append.mpr (Or.inl hp), fun p hp => List.mem_append.mpr (Or.inr hp), rfl, ⟨⟨by with_unfolding_all exact hP.data, by with_unfolding_all exact hP.level, by with_unfolding_all exact hP.lead, by with_unfolding_all exact hP.writer⟩, _, by with_unfolding_all exact congrArg (fun z => some (Value.int z _)) (colB c h9)⟩, rfl⟩
                case cdone =>
                  intro m h tk t hP hc F N
                  have hC2 : CF m _ := ⟨⟨_, hc⟩⟩
                  have hL2 : LF m _ b9 _ _ := hP
                  clear zF zN
                  dsimp only
                  k_steps
                  rename Fr _ _ _ _ => zF
                  rename News _ _ _ _ => zN
                  delta Hold
                  have hpl := fun n' => partsL_len (n := n') hk2 (show ks.length ≤ 5000 by omega) (by assumption)
                  refine k_bjoin (zN.isList (by k_mem)) hpt (Nat.le_trans (hpl _) (by decide)) ?_
                  intro cj tj kj hcj
                  dsimp only
                  k_steps
                  delta Hold
                  refine k_bsplit zF zN (by rw [← KBw.ints_length, hcj]; exact hpl _) ?_
                  intro Dr h8 vs k8 hv F8 N8 hlt
                  clear zF zN
                  rw [hcj, law_split hk2] at hv
                  obtain ⟨ba, ta, vm, bb, tb, bc, tc, rfl, e1, e2, e3, e4⟩ := bys_cut hv
                  have hvm : vm.length ≤ 100000 := by
                    have h1 := e2.length
                    rw [h1, List.length_map]
                    unfold rowsS
                    rw [List.length_map, List.length_range]
                    exact Nat.le_trans (cntB_le _ _) (by omega)
                  clear hv hcj hpt hpl
                  dsimp only
                  k_steps
                  rename Fr _ _ _ _ => zF
                  rename News _ _ _ _ => zN
                  have hz3 := fun n' l' => (zL_ok n' l').1
                  have hll := fun n' => leadI_len (n := n') (lv := _) (by assumption)
                  delta Hold
                  refine' readGo (fun tl m => RM _ b9 _ _ _ (zL _ _ / 3 * 4) tl m) hEx rfl zF zN ?gsub e2 ⟨⟨by with_unfolding_all exact hP.data, by with_unfolding_all exact hP.level, by with_unfolding_all exact hP.lead, by with_unfolding_all exact hP.writer⟩, ⟨_, by with_unfolding_all exact congrArg (fun z => some (Value.int z _)) (full_eq _ _ _ (colI_eq _))⟩, rfl, ⟨_, rfl⟩⟩ ?gz ?gl ?gnil ?gstep
                  case gsub => k_subL
                  case gz => rw [rows_all hk2 (zL_ok _ _).2.2 (Nat.le_trans (by decide) (zL_ok _ _).1), G_len]; omega
                  case gl => rw [rowsS_cnt]; exact Nat.le_trans (cntB_le _ _) (by omega)
                  case gnil =>
                    intro m1 its1 n1 h tk hP1 hws F N
                    rw [rows_all hk2 (zL_ok _ _).2.2 (Nat.le_trans (by decide) (zL_ok _ _).1)] at hP1
                    obtain ⟨ws, cnt, f, hf, hws, hwl, hcn, hsz, hw⟩ := packW hk2 (zL_ok _ _).2.2 (Nat.le_trans (by decide) (zL_ok _ _).1) hws
                    obtain ⟨T, hT, hm4, h61, hTl⟩ := packT hk2 (by omega)
                    rw [hf, hT] at hP1
                    have hM0 : RM _ b9 _ _ _ f T m1 := hP1
                    clear zF zN hf e1 e2 e3 e4 hP hz3
                    dsimp only
                    k_steps
                    rename Fr _ _ _ _ => zF
                    rename News _ _ _ _ => zN
                    rename IsRange _ _ _ _ _ _ _ _ => hR
                    delta Hold
                    refine' rngGo (fun m => RM _ b9 _ _ _ f T m) rfl hR (by omega) zF zN hP1 ?rnil ?rstep
                    case rstep =>
                      intro Q' i m2 t h tk I it hi hP2 hit hoff F N
                      obtain ⟨c, hc, hc1, hcf, hcl⟩ := hw i (by omega)
                      have hc' : ws[((i : Int)).toNat]? = some (c : Int) := by rw [Int.toNat_natCast]; exact hc
                      have hM2 : RM _ b9 _ _ _ f T m2 := hP2
                      have hwz : ws.length ≤ 100000 := by omega
                      clear zF zN hGW
                      dsimp only
                      by_cases hk1 : i + 1 < cnt
                      · have hcf2 := hcl hk1
                        clear hcl
                        k_steps
                        rename Fr _ _ _ _ => zF
                        rename News _ _ _ _ => zN
                        exact ⟨_, _, _, _, rfl, zF, zN, hoff, ⟨⟨by with_unfolding_all exact hP2.lf.data, by with_unfolding_all exact hP2.lf.level, by with_unfolding_all exact hP2.lf.lead, by with_unfolding_all exact hP2.lf.writer⟩, by with_unfolding_all exact hP2.full, by with_unfolding_all exact hP2.widths, by with_unfolding_all exact hP2.text⟩, rfl⟩
                      · clear hcl
                        k_steps
                        rename Fr _ _ _ _ => zF
                        rename News _ _ _ _ => zN
                        exact ⟨_, _, _, _, rfl, zF, zN, hoff, ⟨⟨by with_unfolding_all exact hP2.lf.data, by with_unfolding_all exact hP2.lf.level, by with_unfolding_all exact hP2.lf.lead, by with_unfolding_all exact hP2.lf.writer⟩, by with_unfolding_all exact hP2.full, by with_unfolding_all exact hP2.widths, by with_unfolding_all exact hP2.text⟩, rfl⟩
                    case rnil =>
                      intro m2 h tk hP2 F N
                      have hM2 : RM _ b9 _ _ _ f T m2 := hP2
                      clear zF zN
                      dsimp only
                      k_steps
                      rename Fr _ _ _ _ => zF
                      rename News _ _ _ _ => zN
                      delta Hold
                      refine' k_und ?uB rfl rfl zF zN ?uX ?uT hk2 ?ul (by omega) (by decide) (by decide) ?ufin
                      case uB => assumption
                      case uX => assumption
                      case uT => assumption
                      case ul => rw [hT]
                      case ufin =>
                        intro h7 tk7 t7 c7 F7 N7 hc7
                        clear zF zN
                        dsimp only
                        k_steps
                        all_goals (try dsimp only)
                        all_goals (try rw [beq_self_eq_true])
                        all_goals subst hGW
                        all_goals k_steps
                  case gstep =>
                    intro Q' b1 t1 r tl ws m1 its1 n1 I it h tk hr hb1 hP1 htl hws hsz hit hoff hWI hDI F N
                    have hM1 : RM _ b9 _ _ _ _ tl m1 := hP1
                    have hn : r ≠ [] := rowsS_ne hk2 (Nat.le_trans (by decide) (zL_ok _ _).1) r hr
                    have hb128 : ∀ k ∈ r, k < 128 := fun k hk => (rowsS_mem hk2 r hr k hk).ok.2.2
                    have hr120 : r.length ≤ 120 := rowsS_le (zL_ok _ _).2.1 r hr
                    have ⟨hx1, hx2⟩ := rowAux hb1 (by assumption) hr120
                    clear zF zN hGW
                    dsimp only
                    k_steps
                    rename Fr _ _ _ _ => zF
                    rename News _ _ _ _ => zN
                    refine ⟨_, _, _, _, rfl, zF, zN, fun p hp q hq => by rw [List.mem_singleton.mp hq]; exact hoff _ p hp, _, _, ⟨⟨by with_unfolding_all exact hP1.lf.data, by with_unfolding_all exact hP1.lf.level, by with_unfolding_all exact hP1.lf.lead, by with_unfolding_all exact hP1.lf.writer⟩, by with_unfolding_all exact hP1.full, by with_unfolding_all exact hP1.widths, ⟨_, by with_unfolding_all exact congrArg (fun l => some (Value.str (sl l) _)) List.map_append.symm⟩⟩, ?_, rfl⟩
                    rw [← rowInt (leadI _ _) r]
                    exact ints_push hws)⟩
end Mine
end
set_option maxRecDepth 100000 in
set_option maxHeartbeats 8000000 in
theorem PySem.Challenge.cw_ko0126_06_holds : PySem.Challenge.rw_ko0126_06.Holds := by
  exact Mine.law6
