import PyProof.Rows.All
import Wide.All
import OpenK.AllK
import Wide.FinOn
import PySem.Challenge.RW_zs0003_01
open PySem PySem.W PyProof.Rows PySem.Calls
set_option Elab.async false
set_option maxRecDepth 100000
set_option linter.all false

namespace Mine
set_option maxHeartbeats 8000000 in
open_top zh for PySem.Challenge.rw_zs0003_01
end Mine

/-! Kit1 -/
section
namespace Mine

noncomputable abbrev prog : Program := PySem.Challenge.rw_zs0003_01.row.prog
noncomputable abbrev loo0 : List Str := looseW zh.view_39 [Str.ofString "UTC_ZONES", Str.ofString "TIMEZONE_RE", Str.ofString "insort_left", Str.ofString "bisect_left"]
noncomputable abbrev loo : List Str := loo0 ++ List.map (fun x => x.name) (recsOf zh.view_39) ++ List.map (fun x => x.fst) (litsOf zh.view_39) ++ List.map (fun x => x.name) (clssOf zh.view_39 loo0)

/-- every object stays -/
abbrev Keeps (h h' : Heap) : Prop := ∀ b o, h.get? b = some o → h'.get? b = some o
/-- every object but those at these places stays -/
abbrev KeepsBut (as : List Addr) (h h' : Heap) : Prop := ∀ b o, b ∉ as → h.get? b = some o → h'.get? b = some o

theorem fr_keeps {h₀ h h' : Heap} {L : Addr} {m : Str → Option Value} (F : Fr h₀ L h m) (k : Keeps h h') : Fr h₀ L h' m := ⟨F.ns.keeps k, fun b o e => k b o (F.keep b o e), F.above⟩
theorem news_keeps {h₀ h h' : Heap} {L : Addr} {news : List (Addr × Obj)} (N : News h₀ L h news) (k : Keeps h h') : News h₀ L h' news := fun p hp => ⟨k _ _ (N p hp).1, (N p hp).2⟩
theorem codeHd_stays {h h' : Heap} {c P : Addr} (x : CodeHd h c P) (k : h.StaysIn h') : CodeHd h' c P := x.keeps k

section
variable {pr : Program} {w : World} {A A₀ : Around} {s : Shared} {K : Frag} {L : Addr} {h₀ base : Heap} {m mg mb : Str → Option Value} {news : List (Addr × Obj)} {p : Program} {loose : List Str} {mean : ExcName → Option Value}

/-- a def of the text's own is entered; what the ledger does not name stays in the heap below the callee -/
theorem enter {env : Env} {outer : List Env} {R : Result → Shared → Prop} {name qual : Str} {params : Arguments} {body : List Stmt} {scope : Scope} {dV kV doc pm cdv ct oc : Value} {an od : Option Addr} {osl : Array (Option Value)} {f : Addr} {args : Args} {binds : List (Str × Value)}
    (B : Below A₀ base outer h₀) (F : Fr h₀ L s.heap m) (X₀ : K.In h₀) (N : News h₀ L s.heap news) (T : Top p loose mean mg mb h₀) (hA : A.frames = some (env :: outer)) (hf : env.frame = some L) (hke : env.scope.kind = .function)
    (ho : K.lookup f = some ⟨oc, od, .func (fnOf name qual params body scope dV kV doc pm an cdv ct), osl⟩) (hcd : codeIn K cdv qual = true) (hroom : A.depth < recursionLimit)
    (hbind : BindsTo s (fnOf name qual params body scope dV kV doc pm an cdv ct) args binds) (hloc : ∀ y ∈ binds, scope.names.lookup y.1 = some .local)
    (h : ∀ g L' h₁, KeepsBut (news.map (·.1)) s.heap g → h₀.StaysIn g → s.heap.objs.size ≤ L' → Fr g L' h₁ (fun y => binds.reverse.lookup y) → News g L' h₁ news → Below A base (env :: outer) g → K.In g → Top p loose mean mg mb g →
      wpAny (model pr w) (A.deeper (envOf qual scope L' f cdv)) (execs body (envOf qual scope L' f cdv))
        (fun fl s' => LeaveK h₀ L m g R (match fl with | .ret v => v | _ => .none) s')
        (fun e s' => wpAny (model pr w) (A.deeper (envOf qual scope L' f cdv)) (leaving (envOf qual scope L' f cdv) e) (fun _ s'' => R (.error e) s'') (fun e' s'' => R (.error e') s'') s')
        { s with heap := h₁, toks := s.toks + binds.length })
    (hco : scope.isCoroutine = false) (hgen : scope.isGenerator = false) (hk : scope.kind = .function)
    (hcell : ∀ x ∈ scope.names, x.2 ≠ .cell) : codeAny (model pr w) A (.call (.ref f) args) R s := by
  obtain ⟨FG, BG, st, lv⟩ := groundX (R := R) B F N hA hf hke
  refine codeAny_call_def (fd := fnOf name qual params body scope dV kV doc pm an cdv ct) (body := body) (binds := binds) hroom ((X₀.keeps F.keep) _ _ ho) rfl (T.nolimit.keeps F.keep) (codeRec_of (X₀.keeps F.keep) hcd) rfl hbind hcell hloc (fun h₁ hns hk₁ => ?_) hco hgen hk
  refine wpAny_mono (h (hideAll s.heap (news.map (·.1))) s.heap.objs.size h₁ (fun b o hb e => hideAll_get _ e hb) st (Nat.le_refl _) ⟨hns, fun b o e => hk₁ b o (of_hideAll _ e), Nat.le_of_eq (hideAll_size _ _)⟩
    (fun q hq => ⟨hk₁ _ _ (N q hq).1, Nat.ne_of_lt (Heap.lt_size (N q hq).1), hideAll_none _ (List.mem_map_of_mem hq)⟩) BG (X₀.keeps fun b o e => st b o e) (T.keeps fun b o e => st b o e)) (fun fl s' hl => lv _ _ hl) fun _ _ y => y
end

/-- a call of the def at f with these values, from any frame of a def with this ledger: what it hands on -/
def Calls (w : World) (d u : Nat) (f : Addr) (vs : List Value) (news : List (Addr × Obj)) (s : Shared) (Q : Value → Shared → Prop) : Prop :=
  ∀ (mean : ExcName → Option Value) (mg mb : Str → Option Value) (dp un : Nat) (gd : Option (List Code)) (cn : Str) (cs : Scope) (a : Addr) (ccd : Value) (cl : List (Str × Addr)) (outer : List Env) (A₀ : Around) (base h₀ : Heap) (L : Addr) (m : Str → Option Value) (E : Value → Shared → Prop),
    Below A₀ base outer h₀ → Fr h₀ L s.heap m → (zh.heap_39 w.params).In h₀ → Top topProg loo mean mg mb h₀ → cs.kind = .function → CodeHd base 71 67 → CodeHd base 64 60 → dp + d < recursionLimit → un + u < cLine → News h₀ L s.heap news →
    wpAny (model prog w) (ktrTop dp un gd cn cs L a ccd cl outer) (call (.ref f) vs) Q E s

theorem keeps_of {news : List (Addr × Obj)} {h g h' : Heap} {L : Addr} {m : Str → Option Value} (k : KeepsBut (news.map (·.1)) h g) (F : Fr g L h' m) : KeepsBut (news.map (·.1)) h h' := fun b o hb e => F.keep b o (k b o hb e)
theorem keeps_of0 {h g h' : Heap} {L : Addr} {m : Str → Option Value} (k : KeepsBut (([] : List (Addr × Obj)).map (·.1)) h g) (F : Fr g L h' m) : Keeps h h' := fun b o e => F.keep b o (k b o List.not_mem_nil e)

theorem news_add {h₀ h h' : Heap} {L r : Addr} {o : Obj} {m : Str → Option Value} {news : List (Addr × Obj)} (F : Fr h₀ L h m) (N : News h₀ L h news) (k : Keeps h h') (hr : h.objs.size ≤ r) (e : h'.get? r = some o) : News h₀ L h' ((r, o) :: news) := fun p hp => by
  have hL : L < h.objs.size := F.ns.lt
  rcases List.mem_cons.mp hp with rfl | hp
  · exact ⟨e, Nat.ne_of_gt (Nat.lt_of_lt_of_le hL hr), Heap.get?_none_of_le (Nat.le_trans F.above (Nat.le_of_lt (Nat.lt_of_lt_of_le hL hr)))⟩
  · exact news_keeps N k p hp
theorem news_lt {h₀ h : Heap} {L r : Addr} {news : List (Addr × Obj)} (N : News h₀ L h news) (hr : h.objs.size ≤ r) : ∀ p ∈ news, p.1 < r := fun p hp => Nat.lt_of_lt_of_le (Heap.lt_size (N p hp).1) hr
theorem le_of_fr {g h : Heap} {L n : Nat} {m : Str → Option Value} (hL : n ≤ L) (F : Fr g L h m) : n ≤ h.objs.size := Nat.le_trans hL (Nat.le_of_lt F.ns.lt)
theorem fdiv_lit (a : Int) (n : Nat) : a.fdiv (OfNat.ofNat n) = a / OfNat.ofNat n := Int.fdiv_eq_ediv_of_nonneg _ (by exact Int.natCast_nonneg n)
abbrev tup (vs : List Value) : Obj := { cls := .type "tuple", data := .seq vs.toArray }
theorem bits86400 : ((Builtin.Int.intBits 86400 : Nat) : Int) = 17 := by decide +kernel
theorem bits_ge {a : Int} {n : Nat} (h0 : 2 ^ n ≤ a) : (n : Int) + 1 ≤ (Builtin.Int.intBits a : Int) := by
  have e2 : ((2 ^ n : Nat) : Int) = (2 : Int) ^ n := by simp
  have : ¬ Builtin.Int.intBits a ≤ n := fun h => by
    have := PySem.intBits_le_iff.mp h
    omega
  omega
theorem bits_le {a : Int} {n : Nat} (h0 : 0 ≤ a) (h1 : a < 2 ^ n) : (Builtin.Int.intBits a : Int) ≤ n := by
  have e : a = (a.natAbs : Int) := by omega
  have h : a.natAbs < 2 ^ n := by
    have e2 : ((2 ^ n : Nat) : Int) = (2 : Int) ^ n := by simp
    omega
  have := PySem.intBits_le_iff (m := n) (x := a) |>.mpr h
  omega
end Mine
end

/-! Kit2 -/
section
namespace Mine

/-- the table with its one entry -/
abbrev fill (l k : Int) (c : Addr) : Array Value := #[rawInt l, rawInt k, .ref c]
/-- a table of one place: empty still, or its code object stands in this heap -/
def TabOk (l k : Int) (qual : Str) (ps : Array Value) (h : Heap) : Prop := ps = #[] ∨ ∃ c, ps = fill l k c ∧ h.CodeRec (.ref c) qual
/-- where this object stands and nothing of g is lost, the code object c has this name -/
def HasCode (g : Heap) (x : Addr) (ox : Obj) (c : Addr) (qual : Str) : Prop := ∀ h, h.get? x = some ox → g.StaysIn h → h.CodeRec (.ref c) qual

theorem codeRec_keeps {h h' : Heap} {c : Addr} {q : Str} (k : h.StaysIn h') (x : h.CodeRec (.ref c) q) : h'.CodeRec (.ref c) q := x.keeps k
theorem codeRec_but {as : List Addr} {h h' : Heap} {c : Addr} {q : Str} (k : KeepsBut as h h') (hc : c ∉ as) (x : h.CodeRec (.ref c) q) : h'.CodeRec (.ref c) q := by
  obtain ⟨c', oc, vs, t, e, ho, hd, hv⟩ := x
  cases e
  exact ⟨c, oc, vs, t, rfl, k _ _ hc ho, hd, hv⟩
theorem TabOk.keeps {l k : Int} {qual : Str} {ps : Array Value} {h h' : Heap} (T : TabOk l k qual ps h) (st : h.StaysIn h') : TabOk l k qual ps h' := T.imp id fun ⟨c, e, r⟩ => ⟨c, e, r.keeps st⟩
/-- a table is no code object -/
theorem codeRec_ne_tab {h : Heap} {c P : Addr} {q : Str} {ps : Array Value} {l k : Int} {g : Heap} {q' : Str} (x : h.CodeRec (.ref c) q) (hP : h.get? P = some (tabObj ps)) (T : TabOk l k q' ps g) : c ≠ P := by
  rintro rfl
  obtain ⟨c', oc, vs, t, e, ho, hd, hv⟩ := x
  cases e
  rw [hP] at ho
  cases ho
  cases hd
  rcases T with rfl | ⟨d, rfl, _⟩
  · cases hv
  · cases hv

theorem gen_toks {α : Type} {M : Model} {A : Around} {t : Sem α} {Q : α → Shared → Prop} {E : Value → Shared → Prop} {h : Heap} {g : Array GenState} {d : Drawn} {X : Nat} {os : OsState} (k : ∀ tk, wpAny M A t Q E ⟨h, g, d, tk, os⟩) : wpAny M A t Q E ⟨h, g, d, X, os⟩ := k X
theorem stays_trans {a b c : Heap} (x : a.StaysIn b) (y : b.StaysIn c) : a.StaysIn c := fun p o e => y p o (x p o e)
theorem UpdF.same {d : Addr} {o : Obj} {l : List (Addr × Obj)} {g : Obj → List (Addr × Obj)} (U : UpdF d o l g) : g o = l := by
  obtain ⟨pre, post, rfl, hg, _, _⟩ := U.split
  exact hg o

section
variable {M : Model} {A : Around} {E : Value → Shared → Prop} {s : Shared} {g₀ h₀ : Heap} {L a c P : Addr} {m mg mb : Str → Option Value} {cn : Str} {cs : Scope} {ccd : Value} {cl : List (Str × Addr)} {news : List (Addr × Obj)} {g : Obj → List (Addr × Obj)}
  {p : Program} {loose : List Str} {mean : ExcName → Option Value} {name qual : Str} {params : Arguments} {body : List Stmt} {scope : Scope} {ps : Array Value} {pos : Pos} {firstLine : Nat} {clos : List (Str × Addr)}

theorem nestAny_K {Q : Value → Shared → Prop} (F : Fr h₀ L s.heap m) (N : News h₀ L s.heap news) (T : Top p loose mean mg mb h₀) (C : CodeHd h₀ c P) (hcd : ccd = .ref c) (U : UpdF P (tabObj ps) news g)
    (hT : TabOk pos.line pos.col qual ps g₀) (st : g₀.StaysIn h₀)
    (hcl : closureFor scope (envX cn cs L a ccd cl) = pure clos)
    (h : ∀ f x c' ox ctv doc h' tk, Fr h₀ L h' m →
      News h₀ L h' ((f, fnMade name qual params body scope clos doc ((mg "__name__").getD .none) c' ctv) :: (x, ox) :: g (tabObj (fill pos.line pos.col c'))) →
      HasCode g₀ x ox c' qual → (ps = #[] ∨ ps = fill pos.line pos.col c') → (∀ q ∈ news, q.1 < x) → @LE.le Nat _ x f → (∀ q ∈ news, q.1 < f) → Q (.ref f) { s with heap := h', toks := tk }) :
    wpAny M A (makeFunction name qual params (.stmts body) scope (envX cn cs L a ccd cl) [] [] [] pos firstLine) Q E s := by
  rcases hT with rfl | ⟨c₁, rfl, cr⟩
  · refine nest_K F N T C hcd U trivial rfl hcl fun f c' oc vs t ctv doc h' tk F' N' d1 d2 l1 l2 => ?_
    exact h f c' c' oc ctv doc h' tk F' N' (fun h e _ => ⟨c', oc, vs, t, rfl, e, d1, d2⟩) (.inl rfl) l1 (Nat.le_of_lt l2) fun q hq => Nat.lt_trans (l1 q hq) l2
  · have hmem : (P, tabObj (fill pos.line pos.col c₁)) ∈ news := by
      obtain ⟨pre, post, rfl, _, _, _⟩ := U.split
      simp
    refine nestHit_K (c' := c₁) F N T C hcd hmem trivial (by simp [codeAmong, rawInt]) hcl fun f ctv doc h' tk F' N' l1 => ?_
    refine h f f c₁ (fnMade name qual params body scope clos doc ((mg "__name__").getD .none) c₁ ctv) ctv doc h' tk F' (fun q hq => ?_) (fun h _ k => codeRec_keeps k cr) (.inr rfl) l1 (Nat.le_refl _) l1
    rw [UpdF.same U] at hq
    rcases List.mem_cons.mp hq with rfl | hq
    · exact N' _ (.head _)
    · exact N' _ hq

theorem HasCode.use {x : Addr} {ox : Obj} (H : HasCode g₀ x ox c qual) (N : News h₀ L s.heap news) (hm : (x, ox) ∈ news) (st : g₀.StaysIn s.heap) : s.heap.CodeRec (.ref c) qual := H _ (N _ hm).1 st
theorem HasCode.at {x : Addr} {ox : Obj} {h : Heap} (H : HasCode g₀ x ox c qual) (N : News h₀ L h news) (hm : (x, ox) ∈ news) (st : g₀.StaysIn h) : h.CodeRec (.ref c) qual := H _ (N _ hm).1 st
end

abbrev q67 : Str := Str.ofString "_digits2int.<locals>.inner"
abbrev q60 : Str := Str.ofString "_int2digits.<locals>.inner"
abbrev Tab67 (ps : Array Value) (h : Heap) : Prop := TabOk (64 : Nat) (4 : Nat) q67 ps h
abbrev Tab60 (ps : Array Value) (h : Heap) : Prop := TabOk (49 : Nat) (4 : Nat) q60 ps h
/-- what a division hands on -/
def DvRet (s : Shared) (ps67 ps60 : Array Value) (Q : Value → Shared → Prop) (q r : Int) : Prop :=
  ∀ (D : Addr) (t1 t2 : Tok) (h' : Heap) (tk' : Nat) (c67 c60 : Addr), KeepsBut [67, 60] s.heap h' → s.heap.objs.size ≤ D → h'.get? D = some (tup [.int q t1, .int r t2]) →
    h'.get? 67 = some (tabObj (fill (64 : Nat) (4 : Nat) c67)) → h'.get? 60 = some (tabObj (fill (49 : Nat) (4 : Nat) c60)) → h'.CodeRec (.ref c67) q67 → h'.CodeRec (.ref c60) q60 →
    (ps67 = #[] ∨ ps67 = fill (64 : Nat) (4 : Nat) c67) → (ps60 = #[] ∨ ps60 = fill (49 : Nat) (4 : Nat) c60) → Q (.ref D) { s with heap := h', toks := tk' }

theorem dv_end {s : Shared} {ps67 ps60 : Array Value} {news : List (Addr × Obj)} {Q : Value → Shared → Prop} {q r : Int} {g h' : Heap} {L' : Addr} {m : Str → Option Value} {D : Addr} {t1 t2 : Tok} {c67 c60 x67 x60 : Addr} {o67 o60 : Obj} {tk' : Nat}
    (hret : DvRet s ps67 ps60 Q q r) (k : KeepsBut [67, 60] s.heap g) (F : Fr g L' h' m) (N : News g L' h' news)
    (hD : s.heap.objs.size ≤ D) (mD : (D, tup [.int q t1, .int r t2]) ∈ news) (m67 : (67, tabObj (fill (64 : Nat) (4 : Nat) c67)) ∈ news) (m60 : (60, tabObj (fill (49 : Nat) (4 : Nat) c60)) ∈ news)
    (k67 : HasCode g x67 o67 c67 q67) (k60 : HasCode g x60 o60 c60 q60) (n67 : (x67, o67) ∈ news) (n60 : (x60, o60) ∈ news)
    (p67 : ps67 = #[] ∨ ps67 = fill (64 : Nat) (4 : Nat) c67) (p60 : ps60 = #[] ∨ ps60 = fill (49 : Nat) (4 : Nat) c60) : Q (.ref D) { s with heap := h', toks := tk' } :=
  hret D t1 t2 h' tk' c67 c60 (fun b o hb e => F.keep b o (k b o hb e)) hD (N _ mD).1 (N _ m67).1 (N _ m60).1 (k67.at N n67 F.keep) (k60.at N n60 F.keep) p67 p60

theorem dv_end2 {s : Shared} {ps67 ps60 : Array Value} {news : List (Addr × Obj)} {Q : Value → Shared → Prop} {q r q' r' : Int} {g h' : Heap} {L' : Addr} {m : Str → Option Value} {D : Addr} {t1 t2 : Tok} {c67 c60 x67 x60 : Addr} {o67 o60 : Obj} {tk' : Nat}
    (hret : DvRet s ps67 ps60 Q q r) (k : KeepsBut [67, 60] s.heap g) (F : Fr g L' h' m) (N : News g L' h' news)
    (hD : s.heap.objs.size ≤ D) (mD : (D, tup [.int q' t1, .int r' t2]) ∈ news) (m67 : (67, tabObj (fill (64 : Nat) (4 : Nat) c67)) ∈ news) (m60 : (60, tabObj (fill (49 : Nat) (4 : Nat) c60)) ∈ news)
    (k67 : HasCode g x67 o67 c67 q67) (k60 : HasCode g x60 o60 c60 q60) (n67 : (x67, o67) ∈ news) (n60 : (x60, o60) ∈ news)
    (p67 : ps67 = #[] ∨ ps67 = fill (64 : Nat) (4 : Nat) c67) (p60 : ps60 = #[] ∨ ps60 = fill (49 : Nat) (4 : Nat) c60) (hq : q' = q) (hr : r' = r) : Q (.ref D) { s with heap := h', toks := tk' } := by
  subst hq hr
  exact dv_end hret k F N hD mD m67 m60 k67 k60 n67 n60 p67 p60

theorem tabOk_in {l k l' k' : Int} {q q' : Str} {ps ps' : Array Value} {h g : Heap} {P P' : Addr} (T : TabOk l k q ps h) (T' : TabOk l' k' q' ps' h) (N : h.get? P = some (tabObj ps)) (N' : h.get? P' = some (tabObj ps'))
    (K : KeepsBut [P, P'] h g) : TabOk l k q ps g ∧ TabOk l' k' q' ps' g := by
  have go : ∀ {l k q ps}, TabOk l k q ps h → TabOk l k q ps g := fun {l k q ps} X => X.imp id fun ⟨c, e, r⟩ => ⟨c, e, codeRec_but K (fun hm => by
    rcases List.mem_cons.mp hm with e | hm
    · exact codeRec_ne_tab r N T e
    · exact codeRec_ne_tab r N' T' (List.mem_singleton.mp hm)) r⟩
  exact ⟨go T, go T'⟩
theorem le_step {n : Nat} {g g' h : Heap} {L L' : Nat} {m m' : Str → Option Value} (FG : Fr g L g' m) (F : Fr g' L' h m') (h : n ≤ L) : n ≤ L' := Nat.le_trans h (Nat.le_of_lt (Nat.lt_of_lt_of_le FG.ns.lt F.above))
end Mine
end

/-! P1 -/
section
namespace Mine
local macro_rules | `(tactic| walk_at "my_enter") => `(tactic| (refine' enter ?k1 ?k2 ?k3 ?k4 ?k5 ?kA ?kF ?kK ?k6 ?k7 ?k8 ?k9 ?kB ?_ ?c2 ?c3 ?c4 ?c5; (case kA => exact rfl); (case kF => exact rfl); (case kK => assumption); (case k1 => k_asm); (case k2 => k_asm); (case k3 => k_asm); (case k4 => k_asm); (case k5 => k_asm); (case k6 => k_is); (case k7 => k_is); (case k8 => ktr_room); (case k9 => exact BindsTo.of_eq rfl); (case c5 => decide); (case kB => exact locs rfl); (case c2 => exact rfl); (case c3 => exact rfl); (case c4 => exact rfl); k_whole; intro g' L' h' Kp' st' hL' F' N' B' X' T'; (try dsimp only); (try k_fold)))
local macro_rules | `(tactic| walk_at "my_open") => `(tactic| (
  intro mean mg mb dp un gd cn cs fa ccd cl outer A₀ base h₀ L m E B F X T hk C1 C2 hdp hun N
  refine wpAny_call ?_
  have hfill : PySem.Challenge.rw_zs0003_01 = PySem.Challenge.rw_zs0003_01 ∧ zh.heap_39 = zh.heap_39 := by
    k_fill
    exact ⟨rfl, rfl⟩
  clear hfill
  w_on
  k_dflt walk_at "my_enter"))
local macro_rules | `(tactic| walk_at "my_def") => `(tactic| (refine' code_def ?k1 ?k2 ?k3 ?k4 ?k5 ?kA ?kF ?kK ?k6 ?k7 ?k8 ?k9 ?kB ?_ ?c2 ?c3 ?c4 ?c5; (case kA => exact rfl); (case kF => exact rfl); (case kK => first | exact rfl | assumption); (case k1 => k_asm); (case k2 => k_asm); (case k3 => k_asm); (case k4 => k_asm); (case k5 => k_asm); (case k6 => k_is); (case k7 => k_is); (case k8 => ktr_room); (case k9 => first | exact BindsTo.of_eq rfl | exact binds_K (by k_in) rfl (by k_is) rfl rfl rfl); (case c5 => decide); (case kB => exact locs rfl); (case c2 => exact rfl); (case c3 => exact rfl); (case c4 => exact rfl); k_whole; intro g' L' h' FG' F' N' B' X' T'; (try dsimp only); (try k_lift B'); (try k_fold)))
local macro_rules | `(tactic| walk_at "my_defC") => `(tactic| (refine' code_defC ?k1 ?k2 ?k3 ?k4 ?k5 ?kA ?kF ?kK ?k6 ?k7 ?k8 ?k9 ?kB ?kD ?_ ?c2 ?c3 ?c4; (case kA => exact rfl); (case kF => exact rfl); (case kK => first | exact rfl | assumption); (case k1 => k_asm); (case k2 => k_asm); (case k3 => k_asm); (case k4 => k_asm); (case k5 => k_asm); (case k6 => k_is); (case k7 => k_is); (case k8 => ktr_room); (case k9 => first | exact BindsTo.of_eq rfl | exact binds_K (by k_in) rfl (by k_is) rfl rfl rfl); (case kB => exact rfl); (case kD => decide +kernel); (case c2 => exact rfl); (case c3 => exact rfl); (case c4 => exact rfl); k_whole; intro g' L' h' tk' cells' FG' F' N' Y' B' X' T' l1; (try k_lt l1); k_cells Y'; (try simp only [List.cons_append, List.nil_append] at N'); (try dsimp only); (try k_lift B'); (try k_fold)))
local macro_rules | `(tactic| walk_at "my_nest") => `(tactic| (refine' code_nest ?k1 ?k2 ?k3 ?k4 ?k5 ?kA ?kF ?kK ?k6 ?k7 ?k8 ?k9 ?kB ?_ ?c2 ?c3 ?c4 ?c5; (case kA => exact rfl); (case kF => exact rfl); (case kK => first | exact rfl | assumption); (case k1 => k_asm); (case k2 => k_asm); (case k3 => k_asm); (case k4 => k_asm); (case k5 => k_asm); (case k6 => k_mem); (case k7 => exact codeRec_news (by k_asm) (by k_mem) (by assumption) (by assumption)); (case k8 => ktr_room); (case k9 => exact BindsTo.of_eq rfl); (case c5 => decide); (case kB => exact locs rfl); (case c2 => exact rfl); (case c3 => exact rfl); (case c4 => exact rfl); k_whole; intro g' L' h' FG' F' N' B' X' T'; (try dsimp only); (try k_lift B'); (try k_fold)))
local macro_rules | `(tactic| walk_at "call ref") => `(tactic| (k_here; k_dflt (refine wpAny_call ?_; first | walk_at "my_def" | walk_at "my_defC" | walk_at "my_nest")))
set_option maxHeartbeats 4000000 in
theorem div2n1n (w : World) (a : Int) (ta tb tn : Tok) (h0 : 0 ≤ a) (h1 : a < 2 ^ 60) (s : Shared) (Q : Value → Shared → Prop)
    (hret : ∀ (r : Addr) (t1 t2 : Tok) (h' : Heap) (tk' : Nat), Keeps s.heap h' → s.heap.objs.size ≤ r → h'.get? r = some (tup [.int (a / 86400) t1, .int (a % 86400) t2]) → Q (.ref r) { s with heap := h', toks := tk' }) : Calls w 2 16 51 [.int a ta, .int 86400 tb, .int 17 tn] [] s Q := by
  have hb := bits_le h0 h1
  have e1 : a.fdiv 86400 = a / 86400 := Int.fdiv_eq_ediv_of_nonneg _ (by decide)
  have e2 : a.fmod 86400 = a % 86400 := Int.fmod_eq_emod_of_nonneg _ (by decide)
  walk_at "my_open"
  k_steps
  refine' hret _ _ _ _ _ (keeps_of0 (by assumption) (by assumption)) (le_of_fr (by assumption) (by assumption)) ?e
  (case e => rw [← e1, ← e2]; exact News.get (by assumption) (List.Mem.head _))

section
variable {w : World} {mean : ExcName → Option Value} {mg mb : Str → Option Value} {dp un : Nat} {gd : Option (List Code)} {cn : Str} {cs : Scope} {fa : Addr} {ccd : Value} {cl : List (Str × Addr)} {outer : List Env} {A₀ : Around} {base h₀ : Heap} {L : Addr} {m : Str → Option Value}
  {s : Shared} {news : List (Addr × Obj)} {Q E : Value → Shared → Prop}
theorem use_div2n1n {a : Int} {ta tb tn : Tok} (B : Below A₀ base outer h₀) (F : Fr h₀ L s.heap m) (X : (zh.heap_39 w.params).In h₀) (T : Top topProg loo mean mg mb h₀) (hk : cs.kind = .function) (C1 : CodeHd base 71 67) (C2 : CodeHd base 64 60) (hd : dp + 2 < recursionLimit) (hu : un + 16 < cLine)
    (N : News h₀ L s.heap news) (h0 : 0 ≤ a) (h1 : a < 2 ^ 60)
    (h : ∀ (r : Addr) (t1 t2 : Tok) (h' : Heap) (tk' : Nat), Fr h₀ L h' m → News h₀ L h' ((r, tup [.int (a / 86400) t1, .int (a % 86400) t2]) :: news) → (∀ p ∈ news, p.1 < r) → Q (.ref r) { s with heap := h', toks := tk' }) :
    wpAny (model prog w) (ktrTop dp un gd cn cs L fa ccd cl outer) (call (.ref 51) [.int a ta, .int 86400 tb, .int 17 tn]) Q E s :=
  div2n1n w a ta tb tn h0 h1 s Q (fun r t1 t2 h' tk' k hr e => h r t1 t2 h' tk' (fr_keeps F k) (news_add F N k hr e) (news_lt N hr)) _ _ _ _ _ _ _ _ _ _ _ _ _ _ _ _ _ _ B F X T hk C1 C2 hd hu News.nil
end
theorem and_high (n : Nat) : n &&& (n / 131072 * 131072) = n / 131072 * 131072 := by
  apply Nat.eq_of_testBit_eq
  intro i
  rw [Nat.testBit_and, show n / 131072 * 131072 = n / 2 ^ 17 * 2 ^ 17 from rfl, Nat.testBit_mul_two_pow, Nat.testBit_div_two_pow]
  by_cases h : 17 ≤ i
  · simp only [h, decide_true, Bool.true_and]
    rw [show i - 17 + 17 = i by omega, Bool.and_self]
  · simp [h]
theorem xor_low {a : Int} (h : 0 ≤ a) : Builtin.bitXor a (a / 131072 * 131072) = a % 131072 := by
  rw [bitXor_and]
  have e : Builtin.bitAnd a (a / 131072 * 131072) = a / 131072 * 131072 := by
    obtain ⟨n, rfl⟩ := Int.eq_ofNat_of_zero_le h
    have h2 : (0 : Int) ≤ (n : Int) / 131072 * 131072 := by omega
    unfold Builtin.bitAnd
    simp only [h, h2, decide_true]
    have e1 : ((n : Int) / 131072 * 131072).toNat = n / 131072 * 131072 := by omega
    rw [e1, Int.toNat_natCast, and_high]
    omega
  rw [e]
  omega
end Mine
end

/-! P20 -/
section
namespace Mine
local macro_rules | `(tactic| walk_at "my_enter") => `(tactic| (refine' enter ?k1 ?k2 ?k3 ?k4 ?k5 ?kA ?kF ?kK ?k6 ?k7 ?k8 ?k9 ?kB ?_ ?c2 ?c3 ?c4 ?c5; (case kA => exact rfl); (case kF => exact rfl); (case kK => assumption); (case k1 => k_asm); (case k2 => k_asm); (case k3 => k_asm); (case k4 => k_asm); (case k5 => k_asm); (case k6 => k_is); (case k7 => k_is); (case k8 => ktr_room); (case k9 => exact BindsTo.of_eq rfl); (case c5 => decide); (case kB => exact locs rfl); (case c2 => exact rfl); (case c3 => exact rfl); (case c4 => exact rfl); k_whole; intro g' L' h' Kp' st' hL' F' N' B' X' T'; (try dsimp only); (try k_fold)))
local macro_rules | `(tactic| walk_at "my_open") => `(tactic| (
  intro mean mg mb dp un gd cn cs fa ccd cl outer A₀ base h₀ L m E B F X T hk C1 C2 hdp hun N
  refine wpAny_call ?_
  have hfill : PySem.Challenge.rw_zs0003_01 = PySem.Challenge.rw_zs0003_01 ∧ zh.heap_39 = zh.heap_39 := by
    k_fill
    exact ⟨rfl, rfl⟩
  clear hfill
  w_on
  k_dflt walk_at "my_enter"))
local macro_rules | `(tactic| walk_at "my_def") => `(tactic| (refine' code_def ?k1 ?k2 ?k3 ?k4 ?k5 ?kA ?kF ?kK ?k6 ?k7 ?k8 ?k9 ?kB ?_ ?c2 ?c3 ?c4 ?c5; (case kA => exact rfl); (case kF => exact rfl); (case kK => first | exact rfl | assumption); (case k1 => k_asm); (case k2 => k_asm); (case k3 => k_asm); (case k4 => k_asm); (case k5 => k_asm); (case k6 => k_is); (case k7 => k_is); (case k8 => ktr_room); (case k9 => first | exact BindsTo.of_eq rfl | exact binds_K (by k_in) rfl (by k_is) rfl rfl rfl); (case c5 => decide); (case kB => exact locs rfl); (case c2 => exact rfl); (case c3 => exact rfl); (case c4 => exact rfl); k_whole; intro g' L' h' FG' F' N' B' X' T'; (try have hL' := le_step FG' F' (by assumption)); (try dsimp only); (try k_lift B'); (try k_fold)))
local macro_rules | `(tactic| walk_at "my_defC") => `(tactic| (refine' code_defC ?k1 ?k2 ?k3 ?k4 ?k5 ?kA ?kF ?kK ?k6 ?k7 ?k8 ?k9 ?kB ?kD ?_ ?c2 ?c3 ?c4; (case kA => exact rfl); (case kF => exact rfl); (case kK => first | exact rfl | assumption); (case k1 => k_asm); (case k2 => k_asm); (case k3 => k_asm); (case k4 => k_asm); (case k5 => k_asm); (case k6 => k_is); (case k7 => k_is); (case k8 => ktr_room); (case k9 => first | exact BindsTo.of_eq rfl | exact binds_K (by k_in) rfl (by k_is) rfl rfl rfl); (case kB => exact rfl); (case kD => decide +kernel); (case c2 => exact rfl); (case c3 => exact rfl); (case c4 => exact rfl); k_whole; intro g' L' h' tk' cells' FG' F' N' Y' B' X' T' l1; (try have hL' := le_step FG' F' (by assumption)); (try k_lt l1); k_cells Y'; (try simp only [List.cons_append, List.nil_append] at N'); (try dsimp only); (try k_lift B'); (try k_fold)))
local macro_rules | `(tactic| walk_at "my_nest") => `(tactic| (refine' code_nest ?k1 ?k2 ?k3 ?k4 ?k5 ?kA ?kF ?kK ?k6 ?k7 ?k8 ?k9 ?kB ?_ ?c2 ?c3 ?c4 ?c5; (case kA => exact rfl); (case kF => exact rfl); (case kK => first | exact rfl | assumption); (case k1 => k_asm); (case k2 => k_asm); (case k3 => k_asm); (case k4 => k_asm); (case k5 => k_asm); (case k6 => k_mem); (case k7 => exact codeRec_news (by k_asm) (by k_mem) (by assumption) (by assumption)); (case k8 => ktr_room); (case k9 => exact BindsTo.of_eq rfl); (case c5 => decide); (case kB => exact locs rfl); (case c2 => exact rfl); (case c3 => exact rfl); (case c4 => exact rfl); k_whole; intro g' L' h' FG' F' N' B' X' T'; (try dsimp only); (try k_lift B'); (try k_fold)))
local macro_rules | `(tactic| walk_at "call ref") => `(tactic| (k_here; k_dflt (refine wpAny_call ?_; first | walk_at "my_def" | walk_at "my_defC" | walk_at "my_nest")))
-- values written plainly as they come
local macro_rules | `(tactic| walk_at "storeName") => `(tactic| (k_here; (with_reducible show wpAny _ _ (storeName _ _ (Value.int _ _)) _ _ _); first
  | rw [bits86400]
  | rw [show (((0 : Int) + 2).fdiv (2 ^ Int.toNat 1)) = 1 from rfl]
  | rw [show (((1 : Int) - 0) * 17) = 17 from rfl]
  | rw [show ∀ x : Int, x.fdiv (2 ^ Int.toNat 17) = x / 131072 from fun x => Int.fdiv_eq_ediv_of_nonneg _ (by decide)]
  | (rw [show ∀ x : Int, x * (2 ^ Int.toNat 17) = x * 131072 from fun x => rfl]; rw [xor_low (by omega)])))
local macro_rules | `(tactic| walk_at "binaryOp Mult ref int") => `(tactic| (k_here; (with_reducible show wpAny _ _ (binaryOp _ (Value.ref _) (Value.int (Int.fdiv _ _) _)) _ _ _); (rename Int.fdiv _ _ = _ => hE'); rw [hE']; walk_say "SIZE"))
local macro_rules | `(tactic| walk_at "call ref") => `(tactic| (k_here; (with_reducible show wpAny _ _ (call (Value.ref 51) _) _ _ _); (try rw [show ∀ x : Int, x * (2 ^ Int.toNat 17) = x * 131072 from fun x => rfl]); k_dflt (refine' use_div2n1n ?B ?F ?X ?T ?k ?C1 ?C2 ?d ?u ?N ?h0 ?h1 ?_; (case B => k_asm); (case F => k_asm); (case X => k_asm); (case T => k_asm); (case k => first | exact rfl | assumption); (case C1 => assumption); (case C2 => assumption); (case d => ktr_room); (case u => ktr_units); (case N => k_asm); (case h0 => omega); (case h1 => omega); k_whole; intro r' t1' t2' h' tk' F' N' l1; (try k_lt l1); (try k_sweep); (try k_fold))))
local macro_rules | `(tactic| walk_at "call builtin:list.append") => `(tactic| (k_here; (show wpAny _ _ (call (Value.builtin "list.append") [Value.ref _, _]) _ _ _); k_dflt (refine' append_K ?k1 ?k2 ?k3 ?_ ?z; (case k1 => k_asm); (case k2 => k_asm); (case k3 => k_upd); (case z => size_fits); k_whole); intro h' F' N'; (try k_sweep)))
local macro_rules | `(tactic| walk_at "my_stays") => `(tactic| first | exact fun _ _ e9 => e9 | with_reducible assumption | (refine stays_trans ?_ (Fr.keep (by assumption)); walk_at "my_stays"))
local macro_rules | `(tactic| walk_at "exec FunctionDef") => `(tactic| (k_here; kn_here; k_dflt (refine' nestDef_K ?d0 ?k0 ?a0 ?_; (case d0 => exact rfl); (case k0 => exact rfl); (case a0 => exact rfl)); (k_dflt (refine' nestAny_K ?F ?N ?T ?C ?cd ?U ?hT ?st ?cl ?_; (case F => k_asm); (case N => k_asm); (case T => k_asm); (case cd => exact rfl); (case C => kn_code); (case U => k_updF); (case hT => assumption); (case st => walk_at "my_stays"); (case cl => exact rfl); k_whole)); intro f' x' c' ox' ct' dc' h' tk' F' N' d1' hp' l1 l2 l3; (try dsimp only at N'); (try k_lt l1); (try k_lt l3)))
local macro_rules | `(tactic| walk_at "my_nest") => `(tactic| (refine' code_nest ?k1 ?k2 ?k3 ?k4 ?k5 ?kA ?kF ?kK ?k6 ?k7 ?k8 ?k9 ?kB ?_ ?c2 ?c3 ?c4 ?c5; (case kA => exact rfl); (case kF => exact rfl); (case kK => first | exact rfl | assumption); (case k1 => k_asm); (case k2 => k_asm); (case k3 => k_asm); (case k4 => k_asm); (case k5 => k_asm); (case k6 => k_mem); (case k7 => exact HasCode.use (by assumption) (by k_asm) (by k_mem) (by walk_at "my_stays")); (case k8 => ktr_room); (case k9 => exact BindsTo.of_eq rfl); (case c5 => decide); (case kB => exact locs rfl); (case c2 => exact rfl); (case c3 => exact rfl); (case c4 => exact rfl); k_whole; intro g' L' h' FG' F' N' B' X' T'; (try dsimp only); (try k_lift B'); (try k_fold)))
local macro_rules | `(tactic| walk_at "ite") => `(tactic| (k_here; (refine ite_pos (by first | assumption | (simp only [bne_iff_ne, ne_eq, decide_eq_true_eq, decide_not, Bool.not_eq_true', decide_eq_false_iff_not] ; assumption)) ?_; walk_say "KNOWN")))
local macro_rules | `(tactic| walk_at "my_dvend") => `(tactic| (refine' dv_end2 (by assumption) (by assumption) ?F ?N ?hD ?mD ?m67 ?m60 ?k67 ?k60 ?n67 ?n60 ?p67 ?p60 ?hq ?hr; (case F => k_asm); (case N => k_asm); (case hD => omega); (case mD => k_mem); (case m67 => k_mem); (case m60 => k_mem); (case k67 => assumption); (case k60 => assumption); (case n67 => k_mem); (case n60 => k_mem); (case p67 => assumption); (case p60 => assumption)))

set_option maxHeartbeats 8000000 in
theorem dp_zero (w : World) (ta tn : Tok) (s : Shared) (Q : Value → Shared → Prop) (ps67 ps60 : Array Value) (T67 : Tab67 ps67 s.heap) (T60 : Tab60 ps60 s.heap) (hret : DvRet s ps67 ps60 Q 0 0) : Calls w 16 128 79 [.int 0 ta, .int 86400 tn] ((67, tabObj ps67) :: (60, tabObj ps60) :: []) s Q := by
  have hE : ((((Builtin.Int.intBits 0 : Nat) : Int) + 17 - 1 : Int)).fdiv 17 = 0 := by decide +kernel
  walk_at "my_open"
  rename KeepsBut _ s.heap _ => hKp9
  rename News _ _ s.heap _ => hN9
  obtain ⟨hT67, hT60⟩ := tabOk_in T67 T60 (hN9 _ (.head _)).1 (hN9 _ (.tail _ (.head _))).1 hKp9
  k_steps
  walk_at "my_dvend"
  · rfl
  · rfl
end Mine
end

/-! P21 -/
section
namespace Mine
local macro_rules | `(tactic| walk_at "my_enter") => `(tactic| (refine' enter ?k1 ?k2 ?k3 ?k4 ?k5 ?kA ?kF ?kK ?k6 ?k7 ?k8 ?k9 ?kB ?_ ?c2 ?c3 ?c4 ?c5; (case kA => exact rfl); (case kF => exact rfl); (case kK => assumption); (case k1 => k_asm); (case k2 => k_asm); (case k3 => k_asm); (case k4 => k_asm); (case k5 => k_asm); (case k6 => k_is); (case k7 => k_is); (case k8 => ktr_room); (case k9 => exact BindsTo.of_eq rfl); (case c5 => decide); (case kB => exact locs rfl); (case c2 => exact rfl); (case c3 => exact rfl); (case c4 => exact rfl); k_whole; intro g' L' h' Kp' st' hL' F' N' B' X' T'; (try dsimp only); (try k_fold)))
local macro_rules | `(tactic| walk_at "my_open") => `(tactic| (
  intro mean mg mb dp un gd cn cs fa ccd cl outer A₀ base h₀ L m E B F X T hk C1 C2 hdp hun N
  refine wpAny_call ?_
  have hfill : PySem.Challenge.rw_zs0003_01 = PySem.Challenge.rw_zs0003_01 ∧ zh.heap_39 = zh.heap_39 := by
    k_fill
    exact ⟨rfl, rfl⟩
  clear hfill
  w_on
  k_dflt walk_at "my_enter"))
local macro_rules | `(tactic| walk_at "my_def") => `(tactic| (refine' code_def ?k1 ?k2 ?k3 ?k4 ?k5 ?kA ?kF ?kK ?k6 ?k7 ?k8 ?k9 ?kB ?_ ?c2 ?c3 ?c4 ?c5; (case kA => exact rfl); (case kF => exact rfl); (case kK => first | exact rfl | assumption); (case k1 => k_asm); (case k2 => k_asm); (case k3 => k_asm); (case k4 => k_asm); (case k5 => k_asm); (case k6 => k_is); (case k7 => k_is); (case k8 => ktr_room); (case k9 => first | exact BindsTo.of_eq rfl | exact binds_K (by k_in) rfl (by k_is) rfl rfl rfl); (case c5 => decide); (case kB => exact locs rfl); (case c2 => exact rfl); (case c3 => exact rfl); (case c4 => exact rfl); k_whole; intro g' L' h' FG' F' N' B' X' T'; (try have hL' := le_step FG' F' (by assumption)); (try dsimp only); (try k_lift B'); (try k_fold)))
local macro_rules | `(tactic| walk_at "my_defC") => `(tactic| (refine' code_defC ?k1 ?k2 ?k3 ?k4 ?k5 ?kA ?kF ?kK ?k6 ?k7 ?k8 ?k9 ?kB ?kD ?_ ?c2 ?c3 ?c4; (case kA => exact rfl); (case kF => exact rfl); (case kK => first | exact rfl | assumption); (case k1 => k_asm); (case k2 => k_asm); (case k3 => k_asm); (case k4 => k_asm); (case k5 => k_asm); (case k6 => k_is); (case k7 => k_is); (case k8 => ktr_room); (case k9 => first | exact BindsTo.of_eq rfl | exact binds_K (by k_in) rfl (by k_is) rfl rfl rfl); (case kB => exact rfl); (case kD => decide +kernel); (case c2 => exact rfl); (case c3 => exact rfl); (case c4 => exact rfl); k_whole; intro g' L' h' tk' cells' FG' F' N' Y' B' X' T' l1; (try have hL' := le_step FG' F' (by assumption)); (try k_lt l1); k_cells Y'; (try simp only [List.cons_append, List.nil_append] at N'); (try dsimp only); (try k_lift B'); (try k_fold)))
local macro_rules | `(tactic| walk_at "my_nest") => `(tactic| (refine' code_nest ?k1 ?k2 ?k3 ?k4 ?k5 ?kA ?kF ?kK ?k6 ?k7 ?k8 ?k9 ?kB ?_ ?c2 ?c3 ?c4 ?c5; (case kA => exact rfl); (case kF => exact rfl); (case kK => first | exact rfl | assumption); (case k1 => k_asm); (case k2 => k_asm); (case k3 => k_asm); (case k4 => k_asm); (case k5 => k_asm); (case k6 => k_mem); (case k7 => exact codeRec_news (by k_asm) (by k_mem) (by assumption) (by assumption)); (case k8 => ktr_room); (case k9 => exact BindsTo.of_eq rfl); (case c5 => decide); (case kB => exact locs rfl); (case c2 => exact rfl); (case c3 => exact rfl); (case c4 => exact rfl); k_whole; intro g' L' h' FG' F' N' B' X' T'; (try dsimp only); (try k_lift B'); (try k_fold)))
local macro_rules | `(tactic| walk_at "call ref") => `(tactic| (k_here; k_dflt (refine wpAny_call ?_; first | walk_at "my_def" | walk_at "my_defC" | walk_at "my_nest")))
-- values written plainly as they come
local macro_rules | `(tactic| walk_at "storeName") => `(tactic| (k_here; (with_reducible show wpAny _ _ (storeName _ _ (Value.int _ _)) _ _ _); first
  | rw [bits86400]
  | rw [show (((0 : Int) + 2).fdiv (2 ^ Int.toNat 1)) = 1 from rfl]
  | rw [show (((1 : Int) - 0) * 17) = 17 from rfl]
  | rw [show ∀ x : Int, x.fdiv (2 ^ Int.toNat 17) = x / 131072 from fun x => Int.fdiv_eq_ediv_of_nonneg _ (by decide)]
  | (rw [show ∀ x : Int, x * (2 ^ Int.toNat 17) = x * 131072 from fun x => rfl]; rw [xor_low (by omega)])))
local macro_rules | `(tactic| walk_at "binaryOp Mult ref int") => `(tactic| (k_here; (with_reducible show wpAny _ _ (binaryOp _ (Value.ref _) (Value.int (Int.fdiv _ _) _)) _ _ _); (rename Int.fdiv _ _ = _ => hE'); rw [hE']; walk_say "SIZE"))
local macro_rules | `(tactic| walk_at "call ref") => `(tactic| (k_here; (with_reducible show wpAny _ _ (call (Value.ref 51) _) _ _ _); (try rw [show ∀ x : Int, x * (2 ^ Int.toNat 17) = x * 131072 from fun x => rfl]); k_dflt (refine' use_div2n1n ?B ?F ?X ?T ?k ?C1 ?C2 ?d ?u ?N ?h0 ?h1 ?_; (case B => k_asm); (case F => k_asm); (case X => k_asm); (case T => k_asm); (case k => first | exact rfl | assumption); (case C1 => assumption); (case C2 => assumption); (case d => ktr_room); (case u => ktr_units); (case N => k_asm); (case h0 => omega); (case h1 => omega); k_whole; intro r' t1' t2' h' tk' F' N' l1; (try k_lt l1); (try k_sweep); (try k_fold))))
local macro_rules | `(tactic| walk_at "call builtin:list.append") => `(tactic| (k_here; (show wpAny _ _ (call (Value.builtin "list.append") [Value.ref _, _]) _ _ _); k_dflt (refine' append_K ?k1 ?k2 ?k3 ?_ ?z; (case k1 => k_asm); (case k2 => k_asm); (case k3 => k_upd); (case z => size_fits); k_whole); intro h' F' N'; (try k_sweep)))
local macro_rules | `(tactic| walk_at "my_stays") => `(tactic| first | exact fun _ _ e9 => e9 | with_reducible assumption | (refine stays_trans ?_ (Fr.keep (by assumption)); walk_at "my_stays"))
local macro_rules | `(tactic| walk_at "exec FunctionDef") => `(tactic| (k_here; kn_here; k_dflt (refine' nestDef_K ?d0 ?k0 ?a0 ?_; (case d0 => exact rfl); (case k0 => exact rfl); (case a0 => exact rfl)); (k_dflt (refine' nestAny_K ?F ?N ?T ?C ?cd ?U ?hT ?st ?cl ?_; (case F => k_asm); (case N => k_asm); (case T => k_asm); (case cd => exact rfl); (case C => kn_code); (case U => k_updF); (case hT => assumption); (case st => walk_at "my_stays"); (case cl => exact rfl); k_whole)); intro f' x' c' ox' ct' dc' h' tk' F' N' d1' hp' l1 l2 l3; (try dsimp only at N'); (try k_lt l1); (try k_lt l3)))
local macro_rules | `(tactic| walk_at "my_nest") => `(tactic| (refine' code_nest ?k1 ?k2 ?k3 ?k4 ?k5 ?kA ?kF ?kK ?k6 ?k7 ?k8 ?k9 ?kB ?_ ?c2 ?c3 ?c4 ?c5; (case kA => exact rfl); (case kF => exact rfl); (case kK => first | exact rfl | assumption); (case k1 => k_asm); (case k2 => k_asm); (case k3 => k_asm); (case k4 => k_asm); (case k5 => k_asm); (case k6 => k_mem); (case k7 => exact HasCode.use (by assumption) (by k_asm) (by k_mem) (by walk_at "my_stays")); (case k8 => ktr_room); (case k9 => exact BindsTo.of_eq rfl); (case c5 => decide); (case kB => exact locs rfl); (case c2 => exact rfl); (case c3 => exact rfl); (case c4 => exact rfl); k_whole; intro g' L' h' FG' F' N' B' X' T'; (try dsimp only); (try k_lift B'); (try k_fold)))
local macro_rules | `(tactic| walk_at "ite") => `(tactic| (k_here; (refine ite_pos (by first | assumption | (simp only [bne_iff_ne, ne_eq, decide_eq_true_eq, decide_not, Bool.not_eq_true', decide_eq_false_iff_not] ; assumption)) ?_; walk_say "KNOWN")))
local macro_rules | `(tactic| walk_at "my_dvend") => `(tactic| (refine' dv_end2 (by assumption) (by assumption) ?F ?N ?hD ?mD ?m67 ?m60 ?k67 ?k60 ?n67 ?n60 ?p67 ?p60 ?hq ?hr; (case F => k_asm); (case N => k_asm); (case hD => omega); (case mD => k_mem); (case m67 => k_mem); (case m60 => k_mem); (case k67 => assumption); (case k60 => assumption); (case n67 => k_mem); (case n60 => k_mem); (case p67 => assumption); (case p60 => assumption)))

set_option maxHeartbeats 8000000 in
theorem dp_one (w : World) (a : Int) (ta tn : Tok) (h0 : 0 < a) (h1 : a < 2 ^ 17) (s : Shared) (Q : Value → Shared → Prop) (ps67 ps60 : Array Value) (T67 : Tab67 ps67 s.heap) (T60 : Tab60 ps60 s.heap) (hret : DvRet s ps67 ps60 Q (a / 86400) (a % 86400)) : Calls w 16 128 79 [.int a ta, .int 86400 tn] ((67, tabObj ps67) :: (60, tabObj ps60) :: []) s Q := by
  have hb := bits_le (by omega) h1
  have hb2 := bits_ge (n := 0) (a := a) (by omega)
  have hE : ((↑(Builtin.Int.intBits a) + 17 - 1 : Int)).fdiv 17 = 1 := by
    rw [Int.fdiv_eq_ediv_of_nonneg _ (by omega)]
    omega
  have hne : a ≠ 0 := by omega
  walk_at "my_open"
  rename KeepsBut _ s.heap _ => hKp9
  rename News _ _ s.heap _ => hN9
  obtain ⟨hT67, hT60⟩ := tabOk_in T67 T60 (hN9 _ (.head _)).1 (hN9 _ (.tail _ (.head _))).1 hKp9
  k_steps
  walk_at "my_dvend"
  · show (0 * 131072 + a) / 86400 = _
    omega
  · omega
end Mine
end

/-! P22 -/
section
namespace Mine
local macro_rules | `(tactic| walk_at "my_enter") => `(tactic| (refine' enter ?k1 ?k2 ?k3 ?k4 ?k5 ?kA ?kF ?kK ?k6 ?k7 ?k8 ?k9 ?kB ?_ ?c2 ?c3 ?c4 ?c5; (case kA => exact rfl); (case kF => exact rfl); (case kK => assumption); (case k1 => k_asm); (case k2 => k_asm); (case k3 => k_asm); (case k4 => k_asm); (case k5 => k_asm); (case k6 => k_is); (case k7 => k_is); (case k8 => ktr_room); (case k9 => exact BindsTo.of_eq rfl); (case c5 => decide); (case kB => exact locs rfl); (case c2 => exact rfl); (case c3 => exact rfl); (case c4 => exact rfl); k_whole; intro g' L' h' Kp' st' hL' F' N' B' X' T'; (try dsimp only); (try k_fold)))
local macro_rules | `(tactic| walk_at "my_open") => `(tactic| (
  intro mean mg mb dp un gd cn cs fa ccd cl outer A₀ base h₀ L m E B F X T hk C1 C2 hdp hun N
  refine wpAny_call ?_
  have hfill : PySem.Challenge.rw_zs0003_01 = PySem.Challenge.rw_zs0003_01 ∧ zh.heap_39 = zh.heap_39 := by
    k_fill
    exact ⟨rfl, rfl⟩
  clear hfill
  w_on
  k_dflt walk_at "my_enter"))
local macro_rules | `(tactic| walk_at "my_def") => `(tactic| (refine' code_def ?k1 ?k2 ?k3 ?k4 ?k5 ?kA ?kF ?kK ?k6 ?k7 ?k8 ?k9 ?kB ?_ ?c2 ?c3 ?c4 ?c5; (case kA => exact rfl); (case kF => exact rfl); (case kK => first | exact rfl | assumption); (case k1 => k_asm); (case k2 => k_asm); (case k3 => k_asm); (case k4 => k_asm); (case k5 => k_asm); (case k6 => k_is); (case k7 => k_is); (case k8 => ktr_room); (case k9 => first | exact BindsTo.of_eq rfl | exact binds_K (by k_in) rfl (by k_is) rfl rfl rfl); (case c5 => decide); (case kB => exact locs rfl); (case c2 => exact rfl); (case c3 => exact rfl); (case c4 => exact rfl); k_whole; intro g' L' h' FG' F' N' B' X' T'; (try have hL' := le_step FG' F' (by assumption)); (try dsimp only); (try k_lift B'); (try k_fold)))
local macro_rules | `(tactic| walk_at "my_defC") => `(tactic| (refine' code_defC ?k1 ?k2 ?k3 ?k4 ?k5 ?kA ?kF ?kK ?k6 ?k7 ?k8 ?k9 ?kB ?kD ?_ ?c2 ?c3 ?c4; (case kA => exact rfl); (case kF => exact rfl); (case kK => first | exact rfl | assumption); (case k1 => k_asm); (case k2 => k_asm); (case k3 => k_asm); (case k4 => k_asm); (case k5 => k_asm); (case k6 => k_is); (case k7 => k_is); (case k8 => ktr_room); (case k9 => first | exact BindsTo.of_eq rfl | exact binds_K (by k_in) rfl (by k_is) rfl rfl rfl); (case kB => exact rfl); (case kD => decide +kernel); (case c2 => exact rfl); (case c3 => exact rfl); (case c4 => exact rfl); k_whole; intro g' L' h' tk' cells' FG' F' N' Y' B' X' T' l1; (try have hL' := le_step FG' F' (by assumption)); (try k_lt l1); k_cells Y'; (try simp only [List.cons_append, List.nil_append] at N'); (try dsimp only); (try k_lift B'); (try k_fold)))
local macro_rules | `(tactic| walk_at "my_nest") => `(tactic| (refine' code_nest ?k1 ?k2 ?k3 ?k4 ?k5 ?kA ?kF ?kK ?k6 ?k7 ?k8 ?k9 ?kB ?_ ?c2 ?c3 ?c4 ?c5; (case kA => exact rfl); (case kF => exact rfl); (case kK => first | exact rfl | assumption); (case k1 => k_asm); (case k2 => k_asm); (case k3 => k_asm); (case k4 => k_asm); (case k5 => k_asm); (case k6 => k_mem); (case k7 => exact codeRec_news (by k_asm) (by k_mem) (by assumption) (by assumption)); (case k8 => ktr_room); (case k9 => exact BindsTo.of_eq rfl); (case c5 => decide); (case kB => exact locs rfl); (case c2 => exact rfl); (case c3 => exact rfl); (case c4 => exact rfl); k_whole; intro g' L' h' FG' F' N' B' X' T'; (try dsimp only); (try k_lift B'); (try k_fold)))
local macro_rules | `(tactic| walk_at "call ref") => `(tactic| (k_here; k_dflt (refine wpAny_call ?_; first | walk_at "my_def" | walk_at "my_defC" | walk_at "my_nest")))
-- values written plainly as they come
local macro_rules | `(tactic| walk_at "storeName") => `(tactic| (k_here; (with_reducible show wpAny _ _ (storeName _ _ (Value.int _ _)) _ _ _); first
  | rw [bits86400]
  | rw [show (((0 : Int) + 2).fdiv (2 ^ Int.toNat 1)) = 1 from rfl]
  | rw [show (((1 : Int) - 0) * 17) = 17 from rfl]
  | rw [show ∀ x : Int, x.fdiv (2 ^ Int.toNat 17) = x / 131072 from fun x => Int.fdiv_eq_ediv_of_nonneg _ (by decide)]
  | (rw [show ∀ x : Int, x * (2 ^ Int.toNat 17) = x * 131072 from fun x => rfl]; rw [xor_low (by omega)])))
local macro_rules | `(tactic| walk_at "binaryOp Mult ref int") => `(tactic| (k_here; (with_reducible show wpAny _ _ (binaryOp _ (Value.ref _) (Value.int (Int.fdiv _ _) _)) _ _ _); (rename Int.fdiv _ _ = _ => hE'); rw [hE']; walk_say "SIZE"))
local macro_rules | `(tactic| walk_at "call ref") => `(tactic| (k_here; (with_reducible show wpAny _ _ (call (Value.ref 51) _) _ _ _); (try rw [show ∀ x : Int, x * (2 ^ Int.toNat 17) = x * 131072 from fun x => rfl]); k_dflt (refine' use_div2n1n ?B ?F ?X ?T ?k ?C1 ?C2 ?d ?u ?N ?h0 ?h1 ?_; (case B => k_asm); (case F => k_asm); (case X => k_asm); (case T => k_asm); (case k => first | exact rfl | assumption); (case C1 => assumption); (case C2 => assumption); (case d => ktr_room); (case u => ktr_units); (case N => k_asm); (case h0 => omega); (case h1 => omega); k_whole; intro r' t1' t2' h' tk' F' N' l1; (try k_lt l1); (try k_sweep); (try k_fold))))
local macro_rules | `(tactic| walk_at "call builtin:list.append") => `(tactic| (k_here; (show wpAny _ _ (call (Value.builtin "list.append") [Value.ref _, _]) _ _ _); k_dflt (refine' append_K ?k1 ?k2 ?k3 ?_ ?z; (case k1 => k_asm); (case k2 => k_asm); (case k3 => k_upd); (case z => size_fits); k_whole); intro h' F' N'; (try k_sweep)))
local macro_rules | `(tactic| walk_at "my_stays") => `(tactic| first | exact fun _ _ e9 => e9 | with_reducible assumption | (refine stays_trans ?_ (Fr.keep (by assumption)); walk_at "my_stays"))
local macro_rules | `(tactic| walk_at "exec FunctionDef") => `(tactic| (k_here; kn_here; k_dflt (refine' nestDef_K ?d0 ?k0 ?a0 ?_; (case d0 => exact rfl); (case k0 => exact rfl); (case a0 => exact rfl)); (k_dflt (refine' nestAny_K ?F ?N ?T ?C ?cd ?U ?hT ?st ?cl ?_; (case F => k_asm); (case N => k_asm); (case T => k_asm); (case cd => exact rfl); (case C => kn_code); (case U => k_updF); (case hT => assumption); (case st => walk_at "my_stays"); (case cl => exact rfl); k_whole)); intro f' x' c' ox' ct' dc' h' tk' F' N' d1' hp' l1 l2 l3; (try dsimp only at N'); (try k_lt l1); (try k_lt l3)))
local macro_rules | `(tactic| walk_at "my_nest") => `(tactic| (refine' code_nest ?k1 ?k2 ?k3 ?k4 ?k5 ?kA ?kF ?kK ?k6 ?k7 ?k8 ?k9 ?kB ?_ ?c2 ?c3 ?c4 ?c5; (case kA => exact rfl); (case kF => exact rfl); (case kK => first | exact rfl | assumption); (case k1 => k_asm); (case k2 => k_asm); (case k3 => k_asm); (case k4 => k_asm); (case k5 => k_asm); (case k6 => k_mem); (case k7 => exact HasCode.use (by assumption) (by k_asm) (by k_mem) (by walk_at "my_stays")); (case k8 => ktr_room); (case k9 => exact BindsTo.of_eq rfl); (case c5 => decide); (case kB => exact locs rfl); (case c2 => exact rfl); (case c3 => exact rfl); (case c4 => exact rfl); k_whole; intro g' L' h' FG' F' N' B' X' T'; (try dsimp only); (try k_lift B'); (try k_fold)))
local macro_rules | `(tactic| walk_at "ite") => `(tactic| (k_here; (refine ite_pos (by first | assumption | (simp only [bne_iff_ne, ne_eq, decide_eq_true_eq, decide_not, Bool.not_eq_true', decide_eq_false_iff_not] ; assumption)) ?_; walk_say "KNOWN")))
local macro_rules | `(tactic| walk_at "my_dvend") => `(tactic| (refine' dv_end2 (by assumption) (by assumption) ?F ?N ?hD ?mD ?m67 ?m60 ?k67 ?k60 ?n67 ?n60 ?p67 ?p60 ?hq ?hr; (case F => k_asm); (case N => k_asm); (case hD => omega); (case mD => k_mem); (case m67 => k_mem); (case m60 => k_mem); (case k67 => assumption); (case k60 => assumption); (case n67 => k_mem); (case n60 => k_mem); (case p67 => assumption); (case p60 => assumption)))

set_option maxHeartbeats 8000000 in
theorem dp_two (w : World) (a : Int) (ta tn : Tok) (h0 : 2 ^ 17 ≤ a) (h1 : a < 2 ^ 34) (s : Shared) (Q : Value → Shared → Prop) (ps67 ps60 : Array Value) (T67 : Tab67 ps67 s.heap) (T60 : Tab60 ps60 s.heap) (hret : DvRet s ps67 ps60 Q (a / 86400) (a % 86400)) : Calls w 16 128 79 [.int a ta, .int 86400 tn] ((67, tabObj ps67) :: (60, tabObj ps60) :: []) s Q := by
  have hb := bits_le (by omega) h1
  have hb2 := bits_ge h0
  have hE : ((↑(Builtin.Int.intBits a) + 17 - 1 : Int)).fdiv 17 = 2 := by
    rw [Int.fdiv_eq_ediv_of_nonneg _ (by omega)]
    omega
  have hne : a ≠ 0 := by omega
  walk_at "my_open"
  rename KeepsBut _ s.heap _ => hKp9
  rename News _ _ s.heap _ => hN9
  obtain ⟨hT67, hT60⟩ := tabOk_in T67 T60 (hN9 _ (.head _)).1 (hN9 _ (.tail _ (.head _))).1 hKp9
  k_steps
  walk_at "my_dvend"
  · show (0 * 131072 + a / 131072) / 86400 * 131072 + ((0 * 131072 + a / 131072) % 86400 * 131072 + a % 131072) / 86400 = a / 86400
    omega
  · omega
end Mine
end

/-! P3 -/
section
namespace Mine
theorem dp_all (w : World) (a : Int) (ta tn : Tok) (h0 : 0 ≤ a) (h1 : a < 2 ^ 34) (s : Shared) (Q : Value → Shared → Prop) (ps67 ps60 : Array Value) (T67 : Tab67 ps67 s.heap) (T60 : Tab60 ps60 s.heap)
    (hret : DvRet s ps67 ps60 Q (a / 86400) (a % 86400)) : Calls w 16 128 79 [.int a ta, .int 86400 tn] [(67, tabObj ps67), (60, tabObj ps60)] s Q := by
  by_cases h2 : a = 0
  · subst h2
    exact dp_zero w ta tn s Q ps67 ps60 T67 T60 hret
  · by_cases h3 : a < 2 ^ 17
    · exact dp_one w a ta tn (by omega) h3 s Q ps67 ps60 T67 T60 hret
    · exact dp_two w a ta tn (by omega) h1 s Q ps67 ps60 T67 T60 hret

theorem code_split {h₀ h' : Heap} {L : Addr} {m : Str → Option Value} {r : Addr} {o : Obj} {news : List (Addr × Obj)} {c : Addr} {q : Str} (F : Fr h₀ L h' m) (N : News h₀ L h' ((r, o) :: news)) (cr : h'.CodeRec (.ref c) q) :
    ∃ x ox, News h₀ L h' ((x, ox) :: (r, o) :: news) ∧ HasCode h₀ x ox c q := by
  obtain ⟨c', oc, vs, t, e, ho, hd, hv⟩ := cr
  cases e
  cases hq : h₀.get? c with
  | some o' =>
    have e2 := F.keep _ _ hq
    rw [ho] at e2
    cases e2
    exact ⟨r, o, fun p hp => by
      rcases List.mem_cons.mp hp with rfl | hp
      · exact N _ (.head _)
      · exact N _ hp, fun h _ k => ⟨c, oc, vs, t, rfl, k _ _ hq, hd, hv⟩⟩
  | none =>
    refine ⟨c, oc, fun p hp => ?_, fun h e _ => ⟨c, oc, vs, t, rfl, e, hd, hv⟩⟩
    rcases List.mem_cons.mp hp with rfl | hp
    · refine ⟨ho, fun q => ?_, hq⟩
      obtain ⟨oL, es, ep, hL, hLd, _⟩ := F.ns
      rw [show c = L from q, hL] at ho
      cases ho
      rw [hLd] at hd
      cases hd
    · exact N _ hp

/-- the ledger behind a division -/
theorem dv_news {h₀ h h' : Heap} {L r : Addr} {o o67 o60 : Obj} {ps67 ps60 : Array Value} {m : Str → Option Value} (F : Fr h₀ L h m) (N : News h₀ L h [(67, tabObj ps67), (60, tabObj ps60)]) (k : KeepsBut [67, 60] h h') (hr : h.objs.size ≤ r) (e : h'.get? r = some o)
    (e67 : h'.get? 67 = some o67) (e60 : h'.get? 60 = some o60) : Fr h₀ L h' m ∧ News h₀ L h' [(r, o), (67, o67), (60, o60)] := by
  have n67 := N _ (.head _)
  have n60 := N _ (.tail _ (.head _))
  have no : ∀ {b : Addr} {o : Obj}, h₀.get? b = some o → b ∉ [67, 60] := fun {b o} e hm => by
    rcases List.mem_cons.mp hm with rfl | hm
    · have := n67.2.2; rw [this] at e; cases e
    · rcases List.mem_cons.mp hm with rfl | hm
      · have := n60.2.2; rw [this] at e; cases e
      · cases hm
  have noL : L ∉ [67, 60] := fun hm => by
    rcases List.mem_cons.mp hm with q | hm
    · exact n67.2.1 q.symm
    · rcases List.mem_cons.mp hm with q | hm
      · exact n60.2.1 q.symm
      · cases hm
  have F' : Fr h₀ L h' m := by
    obtain ⟨oL, es, ep, hL, r⟩ := F.ns
    exact ⟨⟨oL, es, ep, k _ _ noL hL, r⟩, fun b o e => k b o (no e) (F.keep b o e), F.above⟩
  refine ⟨F', fun p hp => ?_⟩
  rcases List.mem_cons.mp hp with rfl | hp
  · exact ⟨e, Nat.ne_of_gt (Nat.lt_of_lt_of_le F.ns.lt hr), Heap.get?_none_of_le (Nat.le_trans F.above (Nat.le_of_lt (Nat.lt_of_lt_of_le F.ns.lt hr)))⟩
  · rcases List.mem_cons.mp hp with rfl | hp
    · exact ⟨e67, n67.2⟩
    · rcases List.mem_cons.mp hp with rfl | hp
      · exact ⟨e60, n60.2⟩
      · cases hp

section
variable {w : World} {mean : ExcName → Option Value} {mg mb : Str → Option Value} {dp un : Nat} {gd : Option (List Code)} {cn : Str} {cs : Scope} {fa : Addr} {ccd : Value} {cl : List (Str × Addr)} {outer : List Env} {A₀ : Around} {base h₀ : Heap} {L : Addr} {m : Str → Option Value}
  {s : Shared} {Q E : Value → Shared → Prop} {ps67 ps60 : Array Value} {a : Int} {ta tn : Tok}

/-- what is handed on behind a division, at a frame's ledger -/
def DvOn (h₀ : Heap) (L : Addr) (m : Str → Option Value) (s : Shared) (ps67 ps60 : Array Value) (Q : Value → Shared → Prop) (q r : Int) : Prop :=
  ∀ (D : Addr) (t1 t2 : Tok) (h' : Heap) (tk' : Nat) (c67 c60 x67 x60 : Addr) (o67 o60 : Obj), Fr h₀ L h' m →
    News h₀ L h' [(x67, o67), (x60, o60), (D, tup [.int q t1, .int r t2]), (67, tabObj (fill (64 : Nat) (4 : Nat) c67)), (60, tabObj (fill (49 : Nat) (4 : Nat) c60))] →
    HasCode h₀ x67 o67 c67 q67 → HasCode h₀ x60 o60 c60 q60 → (ps67 = #[] ∨ ps67 = fill (64 : Nat) (4 : Nat) c67) → (ps60 = #[] ∨ ps60 = fill (49 : Nat) (4 : Nat) c60) → @LT.lt Nat _ L D → Q (.ref D) { s with heap := h', toks := tk' }

theorem dv_on {q r : Int} (F : Fr h₀ L s.heap m) (N : News h₀ L s.heap [(67, tabObj ps67), (60, tabObj ps60)]) (h : DvOn h₀ L m s ps67 ps60 Q q r) : DvRet s ps67 ps60 Q q r := by
  intro D t1 t2 h' tk' c67 c60 k hD eD e67 e60 r67 r60 p67 p60
  obtain ⟨F', N'⟩ := dv_news F N k hD eD e67 e60
  obtain ⟨x60, o60, N2, H60⟩ := code_split F' N' r60
  obtain ⟨x67, o67, N3, H67⟩ := code_split F' N2 r67
  refine h D t1 t2 h' tk' c67 c60 x67 x60 o67 o60 F' (fun p hp => N3 p ?_) H67 H60 p67 p60 (Nat.lt_of_lt_of_le F.ns.lt hD)
  exact hp

theorem use_dp (B : Below A₀ base outer h₀) (F : Fr h₀ L s.heap m) (X : (zh.heap_39 w.params).In h₀) (T : Top topProg loo mean mg mb h₀) (hk : cs.kind = .function) (C1 : CodeHd base 71 67) (C2 : CodeHd base 64 60) (hd : dp + 16 < recursionLimit) (hu : un + 128 < cLine)
    (N : News h₀ L s.heap [(67, tabObj ps67), (60, tabObj ps60)]) (T67 : Tab67 ps67 s.heap) (T60 : Tab60 ps60 s.heap) (h0 : 0 ≤ a) (h1 : a < 2 ^ 34) (h : DvOn h₀ L m s ps67 ps60 Q (a / 86400) (a % 86400)) :
    wpAny (model prog w) (ktrTop dp un gd cn cs L fa ccd cl outer) (call (.ref 79) [.int a ta, .int 86400 tn]) Q E s :=
  dp_all w a ta tn h0 h1 s Q ps67 ps60 T67 T60 (dv_on F N h) _ _ _ _ _ _ _ _ _ _ _ _ _ _ _ _ _ _ B F X T hk C1 C2 hd hu N
end
end Mine
end

/-! P4 -/
section
namespace Mine
local macro_rules | `(tactic| walk_at "my_enter") => `(tactic| (refine' enter ?k1 ?k2 ?k3 ?k4 ?k5 ?kA ?kF ?kK ?k6 ?k7 ?k8 ?k9 ?kB ?_ ?c2 ?c3 ?c4 ?c5; (case kA => exact rfl); (case kF => exact rfl); (case kK => assumption); (case k1 => k_asm); (case k2 => k_asm); (case k3 => k_asm); (case k4 => k_asm); (case k5 => k_asm); (case k6 => k_is); (case k7 => k_is); (case k8 => ktr_room); (case k9 => exact BindsTo.of_eq rfl); (case c5 => decide); (case kB => exact locs rfl); (case c2 => exact rfl); (case c3 => exact rfl); (case c4 => exact rfl); k_whole; intro g' L' h' Kp' st' hL' F' N' B' X' T'; (try dsimp only); (try k_fold)))
local macro_rules | `(tactic| walk_at "my_open") => `(tactic| (
  intro mean mg mb dp un gd cn cs fa ccd cl outer A₀ base h₀ L m E B F X T hk C1 C2 hdp hun N
  refine wpAny_call ?_
  have hfill : PySem.Challenge.rw_zs0003_01 = PySem.Challenge.rw_zs0003_01 ∧ zh.heap_39 = zh.heap_39 := by
    k_fill
    exact ⟨rfl, rfl⟩
  clear hfill
  w_on
  k_dflt walk_at "my_enter"))
local macro_rules | `(tactic| walk_at "my_def") => `(tactic| (refine' code_def ?k1 ?k2 ?k3 ?k4 ?k5 ?kA ?kF ?kK ?k6 ?k7 ?k8 ?k9 ?kB ?_ ?c2 ?c3 ?c4 ?c5; (case kA => exact rfl); (case kF => exact rfl); (case kK => first | exact rfl | assumption); (case k1 => k_asm); (case k2 => k_asm); (case k3 => k_asm); (case k4 => k_asm); (case k5 => k_asm); (case k6 => k_is); (case k7 => k_is); (case k8 => ktr_room); (case k9 => first | exact BindsTo.of_eq rfl | exact binds_K (by k_in) rfl (by k_is) rfl rfl rfl); (case c5 => decide); (case kB => exact locs rfl); (case c2 => exact rfl); (case c3 => exact rfl); (case c4 => exact rfl); k_whole; intro g' L' h' FG' F' N' B' X' T'; (try have hL' := le_step FG' F' (by assumption)); (try dsimp only); (try k_lift B'); (try k_fold)))
local macro_rules | `(tactic| walk_at "my_defC") => `(tactic| (refine' code_defC ?k1 ?k2 ?k3 ?k4 ?k5 ?kA ?kF ?kK ?k6 ?k7 ?k8 ?k9 ?kB ?kD ?_ ?c2 ?c3 ?c4; (case kA => exact rfl); (case kF => exact rfl); (case kK => first | exact rfl | assumption); (case k1 => k_asm); (case k2 => k_asm); (case k3 => k_asm); (case k4 => k_asm); (case k5 => k_asm); (case k6 => k_is); (case k7 => k_is); (case k8 => ktr_room); (case k9 => first | exact BindsTo.of_eq rfl | exact binds_K (by k_in) rfl (by k_is) rfl rfl rfl); (case kB => exact rfl); (case kD => decide +kernel); (case c2 => exact rfl); (case c3 => exact rfl); (case c4 => exact rfl); k_whole; intro g' L' h' tk' cells' FG' F' N' Y' B' X' T' l1; (try have hL' := le_step FG' F' (by assumption)); (try k_lt l1); k_cells Y'; (try simp only [List.cons_append, List.nil_append] at N'); (try dsimp only); (try k_lift B'); (try k_fold)))
local macro_rules | `(tactic| walk_at "my_nest") => `(tactic| (refine' code_nest ?k1 ?k2 ?k3 ?k4 ?k5 ?kA ?kF ?kK ?k6 ?k7 ?k8 ?k9 ?kB ?_ ?c2 ?c3 ?c4 ?c5; (case kA => exact rfl); (case kF => exact rfl); (case kK => first | exact rfl | assumption); (case k1 => k_asm); (case k2 => k_asm); (case k3 => k_asm); (case k4 => k_asm); (case k5 => k_asm); (case k6 => k_mem); (case k7 => exact codeRec_news (by k_asm) (by k_mem) (by assumption) (by assumption)); (case k8 => ktr_room); (case k9 => exact BindsTo.of_eq rfl); (case c5 => decide); (case kB => exact locs rfl); (case c2 => exact rfl); (case c3 => exact rfl); (case c4 => exact rfl); k_whole; intro g' L' h' FG' F' N' B' X' T'; (try dsimp only); (try k_lift B'); (try k_fold)))
local macro_rules | `(tactic| walk_at "call ref") => `(tactic| (k_here; k_dflt (refine wpAny_call ?_; first | walk_at "my_def" | walk_at "my_defC" | walk_at "my_nest")))
-- values written plainly as they come
local macro_rules | `(tactic| walk_at "storeName") => `(tactic| (k_here; (with_reducible show wpAny _ _ (storeName _ _ (Value.int _ _)) _ _ _); first
  | rw [bits86400]
  | rw [show (((0 : Int) + 2).fdiv (2 ^ Int.toNat 1)) = 1 from rfl]
  | rw [show (((1 : Int) - 0) * 17) = 17 from rfl]
  | rw [show ∀ x : Int, x.fdiv (2 ^ Int.toNat 17) = x / 131072 from fun x => Int.fdiv_eq_ediv_of_nonneg _ (by decide)]
  | (rw [show ∀ x : Int, x * (2 ^ Int.toNat 17) = x * 131072 from fun x => rfl]; rw [xor_low (by omega)])))
local macro_rules | `(tactic| walk_at "binaryOp Mult ref int") => `(tactic| (k_here; (with_reducible show wpAny _ _ (binaryOp _ (Value.ref _) (Value.int (Int.fdiv _ _) _)) _ _ _); (rename Int.fdiv _ _ = _ => hE'); rw [hE']; walk_say "SIZE"))
local macro_rules | `(tactic| walk_at "call ref") => `(tactic| (k_here; (with_reducible show wpAny _ _ (call (Value.ref 51) _) _ _ _); (try rw [show ∀ x : Int, x * (2 ^ Int.toNat 17) = x * 131072 from fun x => rfl]); k_dflt (refine' use_div2n1n ?B ?F ?X ?T ?k ?C1 ?C2 ?d ?u ?N ?h0 ?h1 ?_; (case B => k_asm); (case F => k_asm); (case X => k_asm); (case T => k_asm); (case k => first | exact rfl | assumption); (case C1 => assumption); (case C2 => assumption); (case d => ktr_room); (case u => ktr_units); (case N => k_asm); (case h0 => omega); (case h1 => omega); k_whole; intro r' t1' t2' h' tk' F' N' l1; (try k_lt l1); (try k_sweep); (try k_fold))))
local macro_rules | `(tactic| walk_at "call builtin:list.append") => `(tactic| (k_here; (show wpAny _ _ (call (Value.builtin "list.append") [Value.ref _, _]) _ _ _); k_dflt (refine' append_K ?k1 ?k2 ?k3 ?_ ?z; (case k1 => k_asm); (case k2 => k_asm); (case k3 => k_upd); (case z => size_fits); k_whole); intro h' F' N'; (try k_sweep)))
local macro_rules | `(tactic| walk_at "my_stays") => `(tactic| first | exact fun _ _ e9 => e9 | with_reducible assumption | (refine stays_trans ?_ (Fr.keep (by assumption)); walk_at "my_stays"))
local macro_rules | `(tactic| walk_at "exec FunctionDef") => `(tactic| (k_here; kn_here; k_dflt (refine' nestDef_K ?d0 ?k0 ?a0 ?_; (case d0 => exact rfl); (case k0 => exact rfl); (case a0 => exact rfl)); (k_dflt (refine' nestAny_K ?F ?N ?T ?C ?cd ?U ?hT ?st ?cl ?_; (case F => k_asm); (case N => k_asm); (case T => k_asm); (case cd => exact rfl); (case C => kn_code); (case U => k_updF); (case hT => assumption); (case st => walk_at "my_stays"); (case cl => exact rfl); k_whole)); intro f' x' c' ox' ct' dc' h' tk' F' N' d1' hp' l1 l2 l3; (try dsimp only at N'); (try k_lt l1); (try k_lt l3)))
local macro_rules | `(tactic| walk_at "my_nest") => `(tactic| (refine' code_nest ?k1 ?k2 ?k3 ?k4 ?k5 ?kA ?kF ?kK ?k6 ?k7 ?k8 ?k9 ?kB ?_ ?c2 ?c3 ?c4 ?c5; (case kA => exact rfl); (case kF => exact rfl); (case kK => first | exact rfl | assumption); (case k1 => k_asm); (case k2 => k_asm); (case k3 => k_asm); (case k4 => k_asm); (case k5 => k_asm); (case k6 => k_mem); (case k7 => exact HasCode.use (by assumption) (by k_asm) (by k_mem) (by walk_at "my_stays")); (case k8 => ktr_room); (case k9 => exact BindsTo.of_eq rfl); (case c5 => decide); (case kB => exact locs rfl); (case c2 => exact rfl); (case c3 => exact rfl); (case c4 => exact rfl); k_whole; intro g' L' h' FG' F' N' B' X' T'; (try dsimp only); (try k_lift B'); (try k_fold)))
local macro_rules | `(tactic| walk_at "ite") => `(tactic| (k_here; (refine ite_pos (by first | with_reducible assumption | (simp only [bne_iff_ne, ne_eq, decide_eq_true_eq, decide_not, Bool.not_eq_true', decide_eq_false_iff_not] ; with_reducible assumption)) ?_; walk_say "KNOWN")))
local macro_rules | `(tactic| walk_at "my_dvend") => `(tactic| (refine' dv_end2 (by assumption) (by assumption) ?F ?N ?hD ?mD ?m67 ?m60 ?k67 ?k60 ?n67 ?n60 ?p67 ?p60 ?hq ?hr; (case F => k_asm); (case N => k_asm); (case hD => omega); (case mD => k_mem); (case m67 => k_mem); (case m60 => k_mem); (case k67 => assumption); (case k60 => assumption); (case n67 => k_mem); (case n60 => k_mem); (case p67 => assumption); (case p60 => assumption)))
local macro_rules | `(tactic| walk_at "my_dv") => `(tactic| (k_whole; intro D' t1' t2' h' tk' c7' c6' x7' x6' o7' o6' F' N' H7' H6' p7' p6' lD'; (try k_sweep); (try k_fold)))
local macro_rules | `(tactic| walk_at "call ref") => `(tactic| (k_here; (with_reducible show wpAny _ _ (call (Value.ref 79) _) _ _ _); k_dflt (refine' use_dp ?B ?F ?X ?T ?k ?C1 ?C2 ?d ?u ?N ?T67 ?T60 ?h0 ?h1 ?_; (case B => k_asm); (case F => k_asm); (case X => k_asm); (case T => k_asm); (case k => first | exact rfl | assumption); (case C1 => assumption); (case C2 => assumption); (case d => ktr_room); (case u => ktr_units); (case N => k_asm); (case T67 => walk_at "my_tab"); (case T60 => walk_at "my_tab"); (case h0 => omega); (case h1 => omega); walk_at "my_dv")))
local macro_rules | `(tactic| walk_at "my_tab") => `(tactic| exact TabOk.keeps (by assumption) (Fr.keep (by assumption)))
local macro_rules | `(tactic| walk_at "my_idend") => `(tactic| (refine' id_end2 (by assumption) (by assumption) ?F ?N ?hD ?mD ?m67 ?m60 ?k67 ?k60 ?n67 ?n60 ?p67 ?p60 ?hq ?hr; (case F => k_asm); (case N => k_asm); (case hD => omega); (case mD => k_mem); (case m67 => k_mem); (case m60 => k_mem); (case k67 => assumption); (case k60 => assumption); (case n67 => k_mem); (case n60 => k_mem); (case p67 => assumption); (case p60 => assumption)))

set_option maxHeartbeats 8000000 in
theorem id_pos (w : World) (a : Int) (ta tn : Tok) (h0 : 0 ≤ a) (h1 : a < 2 ^ 34) (s : Shared) (Q : Value → Shared → Prop) (ps67 ps60 : Array Value) (T67 : Tab67 ps67 s.heap) (T60 : Tab60 ps60 s.heap) (hret : DvRet s ps67 ps60 Q (a / 86400) (a % 86400)) : Calls w 20 160 86 [.int a ta, .int 86400 tn] [(67, tabObj ps67), (60, tabObj ps60)] s Q := by
  have hn : ¬ a < 0 := by omega
  walk_at "my_open"
  rename KeepsBut _ s.heap _ => hKp9
  rename News _ _ s.heap _ => hN9
  obtain ⟨hT67, hT60⟩ := tabOk_in T67 T60 (hN9 _ (.head _)).1 (hN9 _ (.tail _ (.head _))).1 hKp9
  k_steps
  walk_at "my_dvend"
  · rfl
  · rfl
section
variable {w : World} {mean : ExcName → Option Value} {mg mb : Str → Option Value} {dp un : Nat} {gd : Option (List Code)} {cn : Str} {cs : Scope} {fa : Addr} {ccd : Value} {cl : List (Str × Addr)} {outer : List Env} {A₀ : Around} {base h₀ : Heap} {L : Addr} {m : Str → Option Value}
  {s : Shared} {Q E : Value → Shared → Prop} {ps67 ps60 : Array Value} {a : Int} {ta tn : Tok}
theorem use_id (B : Below A₀ base outer h₀) (F : Fr h₀ L s.heap m) (X : (zh.heap_39 w.params).In h₀) (T : Top topProg loo mean mg mb h₀) (hk : cs.kind = .function) (C1 : CodeHd base 71 67) (C2 : CodeHd base 64 60) (hd : dp + 20 < recursionLimit) (hu : un + 160 < cLine)
    (N : News h₀ L s.heap [(67, tabObj ps67), (60, tabObj ps60)]) (T67 : Tab67 ps67 s.heap) (T60 : Tab60 ps60 s.heap) (h0 : 0 ≤ a) (h1 : a < 2 ^ 34) (h : DvOn h₀ L m s ps67 ps60 Q (a / 86400) (a % 86400)) :
    wpAny (model prog w) (ktrTop dp un gd cn cs L fa ccd cl outer) (call (.ref 86) [.int a ta, .int 86400 tn]) Q E s :=
  id_pos w a ta tn h0 h1 s Q ps67 ps60 T67 T60 (dv_on F N h) _ _ _ _ _ _ _ _ _ _ _ _ _ _ _ _ _ _ B F X T hk C1 C2 hd hu N
end
end Mine
end

/-! P41 -/
section
namespace Mine
local macro_rules | `(tactic| walk_at "my_enter") => `(tactic| (refine' enter ?k1 ?k2 ?k3 ?k4 ?k5 ?kA ?kF ?kK ?k6 ?k7 ?k8 ?k9 ?kB ?_ ?c2 ?c3 ?c4 ?c5; (case kA => exact rfl); (case kF => exact rfl); (case kK => assumption); (case k1 => k_asm); (case k2 => k_asm); (case k3 => k_asm); (case k4 => k_asm); (case k5 => k_asm); (case k6 => k_is); (case k7 => k_is); (case k8 => ktr_room); (case k9 => exact BindsTo.of_eq rfl); (case c5 => decide); (case kB => exact locs rfl); (case c2 => exact rfl); (case c3 => exact rfl); (case c4 => exact rfl); k_whole; intro g' L' h' Kp' st' hL' F' N' B' X' T'; (try dsimp only); (try k_fold)))
local macro_rules | `(tactic| walk_at "my_open") => `(tactic| (
  intro mean mg mb dp un gd cn cs fa ccd cl outer A₀ base h₀ L m E B F X T hk C1 C2 hdp hun N
  refine wpAny_call ?_
  have hfill : PySem.Challenge.rw_zs0003_01 = PySem.Challenge.rw_zs0003_01 ∧ zh.heap_39 = zh.heap_39 := by
    k_fill
    exact ⟨rfl, rfl⟩
  clear hfill
  w_on
  k_dflt walk_at "my_enter"))
local macro_rules | `(tactic| walk_at "my_def") => `(tactic| (refine' code_def ?k1 ?k2 ?k3 ?k4 ?k5 ?kA ?kF ?kK ?k6 ?k7 ?k8 ?k9 ?kB ?_ ?c2 ?c3 ?c4 ?c5; (case kA => exact rfl); (case kF => exact rfl); (case kK => first | exact rfl | assumption); (case k1 => k_asm); (case k2 => k_asm); (case k3 => k_asm); (case k4 => k_asm); (case k5 => k_asm); (case k6 => k_is); (case k7 => k_is); (case k8 => ktr_room); (case k9 => first | exact BindsTo.of_eq rfl | exact binds_K (by k_in) rfl (by k_is) rfl rfl rfl); (case c5 => decide); (case kB => exact locs rfl); (case c2 => exact rfl); (case c3 => exact rfl); (case c4 => exact rfl); k_whole; intro g' L' h' FG' F' N' B' X' T'; (try have hL' := le_step FG' F' (by assumption)); (try dsimp only); (try k_lift B'); (try k_fold)))
local macro_rules | `(tactic| walk_at "my_defC") => `(tactic| (refine' code_defC ?k1 ?k2 ?k3 ?k4 ?k5 ?kA ?kF ?kK ?k6 ?k7 ?k8 ?k9 ?kB ?kD ?_ ?c2 ?c3 ?c4; (case kA => exact rfl); (case kF => exact rfl); (case kK => first | exact rfl | assumption); (case k1 => k_asm); (case k2 => k_asm); (case k3 => k_asm); (case k4 => k_asm); (case k5 => k_asm); (case k6 => k_is); (case k7 => k_is); (case k8 => ktr_room); (case k9 => first | exact BindsTo.of_eq rfl | exact binds_K (by k_in) rfl (by k_is) rfl rfl rfl); (case kB => exact rfl); (case kD => decide +kernel); (case c2 => exact rfl); (case c3 => exact rfl); (case c4 => exact rfl); k_whole; intro g' L' h' tk' cells' FG' F' N' Y' B' X' T' l1; (try have hL' := le_step FG' F' (by assumption)); (try k_lt l1); k_cells Y'; (try simp only [List.cons_append, List.nil_append] at N'); (try dsimp only); (try k_lift B'); (try k_fold)))
local macro_rules | `(tactic| walk_at "my_nest") => `(tactic| (refine' code_nest ?k1 ?k2 ?k3 ?k4 ?k5 ?kA ?kF ?kK ?k6 ?k7 ?k8 ?k9 ?kB ?_ ?c2 ?c3 ?c4 ?c5; (case kA => exact rfl); (case kF => exact rfl); (case kK => first | exact rfl | assumption); (case k1 => k_asm); (case k2 => k_asm); (case k3 => k_asm); (case k4 => k_asm); (case k5 => k_asm); (case k6 => k_mem); (case k7 => exact codeRec_news (by k_asm) (by k_mem) (by assumption) (by assumption)); (case k8 => ktr_room); (case k9 => exact BindsTo.of_eq rfl); (case c5 => decide); (case kB => exact locs rfl); (case c2 => exact rfl); (case c3 => exact rfl); (case c4 => exact rfl); k_whole; intro g' L' h' FG' F' N' B' X' T'; (try dsimp only); (try k_lift B'); (try k_fold)))
local macro_rules | `(tactic| walk_at "call ref") => `(tactic| (k_here; k_dflt (refine wpAny_call ?_; first | walk_at "my_def" | walk_at "my_defC" | walk_at "my_nest")))
-- values written plainly as they come
local macro_rules | `(tactic| walk_at "storeName") => `(tactic| (k_here; (with_reducible show wpAny _ _ (storeName _ _ (Value.int _ _)) _ _ _); first
  | rw [bits86400]
  | rw [show (((0 : Int) + 2).fdiv (2 ^ Int.toNat 1)) = 1 from rfl]
  | rw [show (((1 : Int) - 0) * 17) = 17 from rfl]
  | rw [show ∀ x : Int, x.fdiv (2 ^ Int.toNat 17) = x / 131072 from fun x => Int.fdiv_eq_ediv_of_nonneg _ (by decide)]
  | (rw [show ∀ x : Int, x * (2 ^ Int.toNat 17) = x * 131072 from fun x => rfl]; rw [xor_low (by omega)])))
local macro_rules | `(tactic| walk_at "binaryOp Mult ref int") => `(tactic| (k_here; (with_reducible show wpAny _ _ (binaryOp _ (Value.ref _) (Value.int (Int.fdiv _ _) _)) _ _ _); (rename Int.fdiv _ _ = _ => hE'); rw [hE']; walk_say "SIZE"))
local macro_rules | `(tactic| walk_at "call ref") => `(tactic| (k_here; (with_reducible show wpAny _ _ (call (Value.ref 51) _) _ _ _); (try rw [show ∀ x : Int, x * (2 ^ Int.toNat 17) = x * 131072 from fun x => rfl]); k_dflt (refine' use_div2n1n ?B ?F ?X ?T ?k ?C1 ?C2 ?d ?u ?N ?h0 ?h1 ?_; (case B => k_asm); (case F => k_asm); (case X => k_asm); (case T => k_asm); (case k => first | exact rfl | assumption); (case C1 => assumption); (case C2 => assumption); (case d => ktr_room); (case u => ktr_units); (case N => k_asm); (case h0 => omega); (case h1 => omega); k_whole; intro r' t1' t2' h' tk' F' N' l1; (try k_lt l1); (try k_sweep); (try k_fold))))
local macro_rules | `(tactic| walk_at "call builtin:list.append") => `(tactic| (k_here; (show wpAny _ _ (call (Value.builtin "list.append") [Value.ref _, _]) _ _ _); k_dflt (refine' append_K ?k1 ?k2 ?k3 ?_ ?z; (case k1 => k_asm); (case k2 => k_asm); (case k3 => k_upd); (case z => size_fits); k_whole); intro h' F' N'; (try k_sweep)))
local macro_rules | `(tactic| walk_at "my_stays") => `(tactic| first | exact fun _ _ e9 => e9 | with_reducible assumption | (refine stays_trans ?_ (Fr.keep (by assumption)); walk_at "my_stays"))
local macro_rules | `(tactic| walk_at "exec FunctionDef") => `(tactic| (k_here; kn_here; k_dflt (refine' nestDef_K ?d0 ?k0 ?a0 ?_; (case d0 => exact rfl); (case k0 => exact rfl); (case a0 => exact rfl)); (k_dflt (refine' nestAny_K ?F ?N ?T ?C ?cd ?U ?hT ?st ?cl ?_; (case F => k_asm); (case N => k_asm); (case T => k_asm); (case cd => exact rfl); (case C => kn_code); (case U => k_updF); (case hT => assumption); (case st => walk_at "my_stays"); (case cl => exact rfl); k_whole)); intro f' x' c' ox' ct' dc' h' tk' F' N' d1' hp' l1 l2 l3; (try dsimp only at N'); (try k_lt l1); (try k_lt l3)))
local macro_rules | `(tactic| walk_at "my_nest") => `(tactic| (refine' code_nest ?k1 ?k2 ?k3 ?k4 ?k5 ?kA ?kF ?kK ?k6 ?k7 ?k8 ?k9 ?kB ?_ ?c2 ?c3 ?c4 ?c5; (case kA => exact rfl); (case kF => exact rfl); (case kK => first | exact rfl | assumption); (case k1 => k_asm); (case k2 => k_asm); (case k3 => k_asm); (case k4 => k_asm); (case k5 => k_asm); (case k6 => k_mem); (case k7 => exact HasCode.use (by assumption) (by k_asm) (by k_mem) (by walk_at "my_stays")); (case k8 => ktr_room); (case k9 => exact BindsTo.of_eq rfl); (case c5 => decide); (case kB => exact locs rfl); (case c2 => exact rfl); (case c3 => exact rfl); (case c4 => exact rfl); k_whole; intro g' L' h' FG' F' N' B' X' T'; (try dsimp only); (try k_lift B'); (try k_fold)))
local macro_rules | `(tactic| walk_at "ite") => `(tactic| (k_here; (refine ite_pos (by first | with_reducible assumption | (simp only [bne_iff_ne, ne_eq, decide_eq_true_eq, decide_not, Bool.not_eq_true', decide_eq_false_iff_not] ; with_reducible assumption)) ?_; walk_say "KNOWN")))
local macro_rules | `(tactic| walk_at "my_dvend") => `(tactic| (refine' dv_end2 (by assumption) (by assumption) ?F ?N ?hD ?mD ?m67 ?m60 ?k67 ?k60 ?n67 ?n60 ?p67 ?p60 ?hq ?hr; (case F => k_asm); (case N => k_asm); (case hD => omega); (case mD => k_mem); (case m67 => k_mem); (case m60 => k_mem); (case k67 => assumption); (case k60 => assumption); (case n67 => k_mem); (case n60 => k_mem); (case p67 => assumption); (case p60 => assumption)))
local macro_rules | `(tactic| walk_at "my_dv") => `(tactic| (k_whole; intro D' t1' t2' h' tk' c7' c6' x7' x6' o7' o6' F' N' H7' H6' p7' p6' lD'; (try k_sweep); (try k_fold)))
local macro_rules | `(tactic| walk_at "call ref") => `(tactic| (k_here; (with_reducible show wpAny _ _ (call (Value.ref 79) _) _ _ _); k_dflt (refine' use_dp ?B ?F ?X ?T ?k ?C1 ?C2 ?d ?u ?N ?T67 ?T60 ?h0 ?h1 ?_; (case B => k_asm); (case F => k_asm); (case X => k_asm); (case T => k_asm); (case k => first | exact rfl | assumption); (case C1 => assumption); (case C2 => assumption); (case d => ktr_room); (case u => ktr_units); (case N => k_asm); (case T67 => walk_at "my_tab"); (case T60 => walk_at "my_tab"); (case h0 => omega); (case h1 => omega); walk_at "my_dv")))
local macro_rules | `(tactic| walk_at "my_tab") => `(tactic| exact TabOk.keeps (by assumption) (Fr.keep (by assumption)))
local macro_rules | `(tactic| walk_at "my_idend") => `(tactic| (refine' id_end2 (by assumption) (by assumption) ?F ?N ?hD ?mD ?m67 ?m60 ?k67 ?k60 ?n67 ?n60 ?p67 ?p60 ?hq ?hr; (case F => k_asm); (case N => k_asm); (case hD => omega); (case mD => k_mem); (case m67 => k_mem); (case m60 => k_mem); (case k67 => assumption); (case k60 => assumption); (case n67 => k_mem); (case n60 => k_mem); (case p67 => assumption); (case p60 => assumption)))
theorem bitNot_eq (a : Int) : Builtin.bitNot a = -a - 1 := by
  unfold Builtin.bitNot
  omega
local macro_rules | `(tactic| walk_at "call ref") => `(tactic| (k_here; (with_reducible show wpAny _ _ (call (Value.ref 86) _) _ _ _); (try rw [bitNot_eq]); k_dflt (refine' use_id ?B ?F ?X ?T ?k ?C1 ?C2 ?d ?u ?N ?T67 ?T60 ?h0 ?h1 ?_; (case B => k_asm); (case F => k_asm); (case X => k_asm); (case T => k_asm); (case k => first | exact rfl | assumption); (case C1 => assumption); (case C2 => assumption); (case d => ktr_room); (case u => ktr_units); (case N => k_asm); (case T67 => walk_at "my_tab"); (case T60 => walk_at "my_tab"); (case h0 => omega); (case h1 => omega); walk_at "my_dv")))

set_option maxHeartbeats 8000000 in
theorem id_neg (w : World) (a : Int) (ta tn : Tok) (h0 : a < 0) (h1 : -17179869184 < a) (s : Shared) (Q : Value → Shared → Prop) (ps67 ps60 : Array Value) (T67 : Tab67 ps67 s.heap) (T60 : Tab60 ps60 s.heap) (hret : DvRet s ps67 ps60 Q (a / 86400) (a % 86400)) : Calls w 24 180 86 [.int a ta, .int 86400 tn] [(67, tabObj ps67), (60, tabObj ps60)] s Q := by
  walk_at "my_open"
  rename KeepsBut _ s.heap _ => hKp9
  rename News _ _ s.heap _ => hN9
  obtain ⟨hT67, hT60⟩ := tabOk_in T67 T60 (hN9 _ (.head _)).1 (hN9 _ (.tail _ (.head _))).1 hKp9
  k_steps
  walk_at "my_dvend"
  · rw [bitNot_eq]
    omega
  · rw [bitNot_eq]
    omega
end Mine
end

/-! P5 -/
section
namespace Mine
local macro_rules | `(tactic| walk_at "my_enter") => `(tactic| (refine' enter ?k1 ?k2 ?k3 ?k4 ?k5 ?kA ?kF ?kK ?k6 ?k7 ?k8 ?k9 ?kB ?_ ?c2 ?c3 ?c4 ?c5; (case kA => exact rfl); (case kF => exact rfl); (case kK => assumption); (case k1 => k_asm); (case k2 => k_asm); (case k3 => k_asm); (case k4 => k_asm); (case k5 => k_asm); (case k6 => k_is); (case k7 => k_is); (case k8 => ktr_room); (case k9 => exact BindsTo.of_eq rfl); (case c5 => decide); (case kB => exact locs rfl); (case c2 => exact rfl); (case c3 => exact rfl); (case c4 => exact rfl); k_whole; intro g' L' h' Kp' st' hL' F' N' B' X' T'; (try dsimp only); (try k_fold)))
local macro_rules | `(tactic| walk_at "my_open") => `(tactic| (
  intro mean mg mb dp un gd cn cs fa ccd cl outer A₀ base h₀ L m E B F X T hk C1 C2 hdp hun N
  refine wpAny_call ?_
  have hfill : PySem.Challenge.rw_zs0003_01 = PySem.Challenge.rw_zs0003_01 ∧ zh.heap_39 = zh.heap_39 := by
    k_fill
    exact ⟨rfl, rfl⟩
  clear hfill
  w_on
  k_dflt walk_at "my_enter"))
local macro_rules | `(tactic| walk_at "my_def") => `(tactic| (refine' code_def ?k1 ?k2 ?k3 ?k4 ?k5 ?kA ?kF ?kK ?k6 ?k7 ?k8 ?k9 ?kB ?_ ?c2 ?c3 ?c4 ?c5; (case kA => exact rfl); (case kF => exact rfl); (case kK => first | exact rfl | assumption); (case k1 => k_asm); (case k2 => k_asm); (case k3 => k_asm); (case k4 => k_asm); (case k5 => k_asm); (case k6 => k_is); (case k7 => k_is); (case k8 => ktr_room); (case k9 => first | exact BindsTo.of_eq rfl | exact binds_K (by k_in) rfl (by k_is) rfl rfl rfl); (case c5 => decide); (case kB => exact locs rfl); (case c2 => exact rfl); (case c3 => exact rfl); (case c4 => exact rfl); k_whole; intro g' L' h' FG' F' N' B' X' T'; (try have hL' := le_step FG' F' (by assumption)); (try dsimp only); (try k_lift B'); (try k_fold)))
local macro_rules | `(tactic| walk_at "my_defC") => `(tactic| (refine' code_defC ?k1 ?k2 ?k3 ?k4 ?k5 ?kA ?kF ?kK ?k6 ?k7 ?k8 ?k9 ?kB ?kD ?_ ?c2 ?c3 ?c4; (case kA => exact rfl); (case kF => exact rfl); (case kK => first | exact rfl | assumption); (case k1 => k_asm); (case k2 => k_asm); (case k3 => k_asm); (case k4 => k_asm); (case k5 => k_asm); (case k6 => k_is); (case k7 => k_is); (case k8 => ktr_room); (case k9 => first | exact BindsTo.of_eq rfl | exact binds_K (by k_in) rfl (by k_is) rfl rfl rfl); (case kB => exact rfl); (case kD => decide +kernel); (case c2 => exact rfl); (case c3 => exact rfl); (case c4 => exact rfl); k_whole; intro g' L' h' tk' cells' FG' F' N' Y' B' X' T' l1; (try have hL' := le_step FG' F' (by assumption)); (try k_lt l1); k_cells Y'; (try simp only [List.cons_append, List.nil_append] at N'); (try dsimp only); (try k_lift B'); (try k_fold)))
local macro_rules | `(tactic| walk_at "my_nest") => `(tactic| (refine' code_nest ?k1 ?k2 ?k3 ?k4 ?k5 ?kA ?kF ?kK ?k6 ?k7 ?k8 ?k9 ?kB ?_ ?c2 ?c3 ?c4 ?c5; (case kA => exact rfl); (case kF => exact rfl); (case kK => first | exact rfl | assumption); (case k1 => k_asm); (case k2 => k_asm); (case k3 => k_asm); (case k4 => k_asm); (case k5 => k_asm); (case k6 => k_mem); (case k7 => exact codeRec_news (by k_asm) (by k_mem) (by assumption) (by assumption)); (case k8 => ktr_room); (case k9 => exact BindsTo.of_eq rfl); (case c5 => decide); (case kB => exact locs rfl); (case c2 => exact rfl); (case c3 => exact rfl); (case c4 => exact rfl); k_whole; intro g' L' h' FG' F' N' B' X' T'; (try dsimp only); (try k_lift B'); (try k_fold)))
local macro_rules | `(tactic| walk_at "call ref") => `(tactic| (k_here; k_dflt (refine wpAny_call ?_; first | walk_at "my_def" | walk_at "my_defC" | walk_at "my_nest")))

/-- a number's two figures -/
def fig (n : Int) : Str := ⟨#[48 + (n / 10).toNat, 48 + (n % 10).toNat]⟩
theorem figs_fin : ∀ n : Fin 100, Txt.mul (Str.ofString "0") (if decide (((n : Nat) : Int) < 10) = true then 1 else 0) ++ Str.ofString (toString ((n : Nat) : Int)) = fig ((n : Nat) : Int) := by decide +kernel
theorem figs_eq {n : Int} (h0 : 0 ≤ n) (h1 : n < 100) : Txt.mul (Str.ofString "0") (if decide (n < 10) = true then 1 else 0) ++ Str.ofString (toString n) = fig n := by
  obtain ⟨k, rfl⟩ := Int.eq_ofNat_of_zero_le h0
  exact figs_fin ⟨k, by omega⟩
set_option maxHeartbeats 2000000 in
theorem figs (w : World) (n : Int) (tn : Tok) (h0 : 0 ≤ n) (h1 : n < 100) (s : Shared) (Q : Value → Shared → Prop) (hret : ∀ t h' tk', Keeps s.heap h' → Q (.str (fig n) t) { s with heap := h', toks := tk' })
   : Calls w 2 16 111 [.int n tn] [] s Q := by
  walk_at "my_open"
  k_steps
  rw [figs_eq h0 h1]
  exact hret _ _ _ (keeps_of0 (by assumption) (by assumption))
section
variable {w : World} {mean : ExcName → Option Value} {mg mb : Str → Option Value} {dp un : Nat} {gd : Option (List Code)} {cn : Str} {cs : Scope} {fa : Addr} {ccd : Value} {cl : List (Str × Addr)} {outer : List Env} {A₀ : Around} {base h₀ : Heap} {L : Addr} {m : Str → Option Value}
  {s : Shared} {Q E : Value → Shared → Prop} {news : List (Addr × Obj)} {n : Int} {tn : Tok}
theorem use_figs (B : Below A₀ base outer h₀) (F : Fr h₀ L s.heap m) (X : (zh.heap_39 w.params).In h₀) (T : Top topProg loo mean mg mb h₀) (hk : cs.kind = .function) (C1 : CodeHd base 71 67) (C2 : CodeHd base 64 60) (hd : dp + 2 < recursionLimit) (hu : un + 16 < cLine)
    (N : News h₀ L s.heap news) (h0 : 0 ≤ n) (h1 : n < 100) (h : ∀ t h' tk', Fr h₀ L h' m → News h₀ L h' news → Q (.str (fig n) t) { s with heap := h', toks := tk' }) :
    wpAny (model prog w) (ktrTop dp un gd cn cs L fa ccd cl outer) (call (.ref 111) [.int n tn]) Q E s :=
  figs w n tn h0 h1 s Q (fun t h' tk' k => h t h' tk' (fr_keeps F k) (news_keeps N k)) _ _ _ _ _ _ _ _ _ _ _ _ _ _ _ _ _ _ B F X T hk C1 C2 hd hu News.nil
end
end Mine
end

/-! R1 -/
section
open PySem.Sre
namespace Mine
abbrev rcode : Array Nat := #[14, 4, 0, 1, 6, 6, 0, 23, 14, 0, 1, 17, 0, 13, 6, 16, 45, 16, 43, 0, 17, 1, 18, 17, 2, 13, 4, 8, 0, 0, 24, 9, 0, 1, 13, 4, 8, 0, 0, 1, 17, 3, 24, 6, 0, 1, 16, 58, 1, 23, 17, 0, 1, 17, 4, 13, 4, 8, 0, 0, 13, 4, 8, 0, 0, 17, 5, 18, 6, 5, 1]

theorem runFor_some {m : M} (h : m.outcome.isSome = true) : ∀ n, M.runFor n m = m
  | 0 => rfl
  | n + 1 => by unfold M.runFor; rw [if_pos h]
theorem runFor_add (a b : Nat) (m : M) : M.runFor (a + b) m = M.runFor b (M.runFor a m) := by
  induction a generalizing m with
  | zero => rw [Nat.zero_add]; rfl
  | succ a ih =>
    rw [Nat.succ_add]
    by_cases h : m.outcome.isSome = true
    · rw [runFor_some h, runFor_some h, runFor_some h]
    · show (if m.outcome.isSome = true then m else M.runFor (a + b) m.step) = M.runFor b (if m.outcome.isSome = true then m else M.runFor a m.step)
      rw [if_neg h, if_neg h, ih]
theorem runFor_one (m : M) : M.runFor 1 m = m.step := by
  show (if m.outcome.isSome = true then m else M.runFor 0 m.step) = m.step
  by_cases h : m.outcome.isSome = true
  · rw [if_pos h]
    unfold M.step
    rw [if_pos h]
  · rw [if_neg h]; rfl

theorem step_in {m : M} {seen' : Sre.Seen} (h1 : m.outcome = none) (h2 : m.answer = none) (h3 : m.pc < m.code.size) (h4 : ops[m.word 0]? = some .IN) (h5 : m.pos < m.lim)
    (hacc : accepts m.code m.pc (m.text.getD m.pos 0) (m.seen.add (m.word 0)) = .ok (true, seen')) :
    m.step = { m with seen := seen', pc := m.pc + itemWidth m.code m.pc, pos := m.pos + 1 } := by
  unfold M.step
  rw [if_neg (by rw [h1]; exact Bool.false_ne_true), h2]
  simp only [if_pos h3]
  unfold M.exec
  rw [h4]
  simp only [hacc, if_neg (Nat.not_le.mpr h5), h2]
theorem step_rep {m : M} {n : Nat} {seen' : Sre.Seen} (h1 : m.outcome = none) (h2 : m.answer = none) (h3 : m.pc < m.code.size) (h4 : ops[m.word 0]? = some .REPEAT_ONE) (h5 : ¬ ((m.word 2 : Int) > (m.lim : Int) - m.pos))
    (hrun : run m.code m.text (m.pc + 4) (min (m.word 3) ((m.lim : Int) - m.pos).toNat) m.pos 0 ((m.seen.add (m.word 0)).add (m.word 4)) = .ok (n, seen')) (hn : ¬ n < m.word 2) :
    m.step = ({ m with seen := seen', pos := m.pos + n } : M).afterRun .giveBack n (({ m with seen := seen', pos := m.pos + n } : M).keep m.inner.isSome) := by
  unfold M.step
  rw [if_neg (by rw [h1]; exact Bool.false_ne_true), h2]
  simp only [if_pos h3]
  unfold M.exec
  rw [h4]
  dsimp only
  refine (if_neg h5).trans ?_
  generalize hx : run m.code m.text (m.pc + 4) _ m.pos 0 _ = x
  have hx' : x = .ok (n, seen') := hx.symm.trans hrun
  subst hx'
  refine (if_neg hn).trans ?_
  rw [h2]
  rfl

theorem cat0 {d : Nat} (h : isDigit d = true) : category 0 d = .ok true := by
  show (Except.map (fun x => x != ((0 % 2) == 1)) (.ok (isDigit d)) : Except String Bool) = .ok true
  rw [h]; rfl
/-- the notes behind a figure's test -/
def sg (S : Sre.Seen) : Sre.Seen := (S.add 8).add 55
theorem acc25 {d : Nat} (h : isDigit d = true) (S : Sre.Seen) : accepts rcode 25 d S = .ok (true, sg S) := by
  show (do if ← category 0 d then pure (true, (S.add 8).add 55) else inSet rcode d 70 29 true ((S.add 8).add 55) : Except String (Bool × Sre.Seen)) = _
  rw [cat0 h]; rfl
theorem acc34 {d : Nat} (h : isDigit d = true) (S : Sre.Seen) : accepts rcode 34 d S = .ok (true, sg S) := by
  show (do if ← category 0 d then pure (true, (S.add 8).add 55) else inSet rcode d 70 38 true ((S.add 8).add 55) : Except String (Bool × Sre.Seen)) = _
  rw [cat0 h]; rfl
theorem acc55 {d : Nat} (h : isDigit d = true) (S : Sre.Seen) : accepts rcode 55 d S = .ok (true, sg S) := by
  show (do if ← category 0 d then pure (true, (S.add 8).add 55) else inSet rcode d 70 59 true ((S.add 8).add 55) : Except String (Bool × Sre.Seen)) = _
  rw [cat0 h]; rfl
theorem acc60 {d : Nat} (h : isDigit d = true) (S : Sre.Seen) : accepts rcode 60 d S = .ok (true, sg S) := by
  show (do if ← category 0 d then pure (true, (S.add 8).add 55) else inSet rcode d 70 64 true ((S.add 8).add 55) : Except String (Bool × Sre.Seen)) = _
  rw [cat0 h]; rfl
theorem ne58 {d : Nat} (h : isDigit d = true) : (d == 58) = false := by
  simp only [isDigit, Bool.and_eq_true, decide_eq_true_eq] at h
  exact beq_eq_false_iff_ne.mpr (by omega)
theorem acc46 {d : Nat} (h : isDigit d = true) (S : Sre.Seen) : accepts rcode 46 d S = .ok (false, S) := by
  show (.ok (d == 58, S) : Except String (Bool × Sre.Seen)) = _
  rw [ne58 h]
theorem acc46' (S : Sre.Seen) : accepts rcode 46 58 S = .ok (true, S) := rfl
theorem run_yes {i p : Nat} {text : Array Nat} {S S' : Sre.Seen} (h : accepts rcode i (text.getD p 0) S = .ok (true, S')) : run rcode text i 1 p 0 S = .ok (1, S') := by
  show (do let (yes, seen) ← accepts rcode i (text.getD p 0) S; if yes then run rcode text i 0 (p + 1) (0 + 1) seen else pure (0, seen) : Except String (Nat × Sre.Seen)) = _
  rw [h]; rfl
theorem run_no {i p : Nat} {text : Array Nat} {S S' : Sre.Seen} (h : accepts rcode i (text.getD p 0) S = .ok (false, S')) : run rcode text i 1 p 0 S = .ok (0, S') := by
  show (do let (yes, seen) ← accepts rcode i (text.getD p 0) S; if yes then run rcode text i 0 (p + 1) (0 + 1) seen else pure (0, seen) : Except String (Nat × Sre.Seen)) = _
  rw [h]; rfl

def inN (m : M) : M := { m with seen := sg (m.seen.add (m.word 0)), pc := m.pc + itemWidth m.code m.pc, pos := m.pos + 1 }
theorem in_at {m : M} {pc p l c : Nat} (h1 : m.outcome = none) (h2 : m.answer = none) (hc : m.code = rcode) (hp : m.pc = pc) (ho : m.pos = p) (hl : m.lim = l) (ht : m.text.getD p 0 = c) (h3 : pc < 71) (h4 : ops[rcode.getD pc 0]? = some .IN) (h5 : p < l)
    (hacc : ∀ S, accepts rcode pc c S = .ok (true, sg S)) : M.runFor 1 m = inN m := by
  rw [runFor_one]
  refine step_in h1 h2 (by rw [hp, hc]; exact h3) ?_ (by rw [ho, hl]; exact h5) ?_
  · show ops[m.code.getD (m.pc + 0) 0]? = _
    rw [hc, hp]; exact h4
  · rw [hc, hp, ho, ht]; exact hacc _
def repN (m : M) (n : Nat) (S : Sre.Seen) : M := ({ m with seen := S, pos := m.pos + n } : M).afterRun .giveBack n (({ m with seen := S, pos := m.pos + n } : M).keep m.inner.isSome)
def sR (m : M) : Sre.Seen := (m.seen.add (m.word 0)).add (m.word 4)
theorem rep_at {m : M} {pc p l n w4 : Nat} {S' : Sre.Seen} (h1 : m.outcome = none) (h2 : m.answer = none) (hc : m.code = rcode) (hp : m.pc = pc) (ho : m.pos = p) (hl : m.lim = l) (h3 : pc < 71) (h4 : ops[rcode.getD pc 0]? = some .REPEAT_ONE) (h5 : p < l)
    (hw2 : rcode.getD (pc + 2) 0 = 0) (hw3 : rcode.getD (pc + 3) 0 = 1) (hi : pc + 4 = w4) (hrun : run rcode m.text w4 1 p 0 (sR m) = .ok (n, S')) : M.runFor 1 m = repN m n S' := by
  rw [runFor_one]
  have hw2' : m.word 2 = 0 := by
    show m.code.getD (m.pc + 2) 0 = 0
    rw [hc, hp]; exact hw2
  have hw3' : m.word 3 = 1 := by
    show m.code.getD (m.pc + 3) 0 = 1
    rw [hc, hp]; exact hw3
  refine step_rep h1 h2 (by rw [hp, hc]; exact h3) ?_ (by rw [hw2', ho, hl]; omega) ?_ (by rw [hw2']; exact Nat.not_lt_zero _)
  · show ops[m.code.getD (m.pc + 0) 0]? = _
    rw [hc, hp]; exact h4
  · rw [hw3', ho, hl, hc, hp, hi, show min 1 (((l : Int) - (p : Int)).toNat) = 1 by omega]
    exact hrun

section
variable (d1 d2 d3 d4 : Nat)
abbrev rp0 : M := forSearch rcode #[43, d1, d2, d3, d4] 3 0 5 false
def rp1 : M := M.runFor 8 (rp0 d1 d2 d3 d4)
def rp2 : M := inN (rp1 d1 d2 d3 d4)
def rp3 : M := repN (rp2 d1 d2 d3 d4) 1 (sg (sR (rp2 d1 d2 d3 d4)))
def rp4 : M := M.runFor 1 (rp3 d1 d2 d3 d4)
def rp5 : M := repN (rp4 d1 d2 d3 d4) 0 (sR (rp4 d1 d2 d3 d4))
def rp6 : M := M.runFor 3 (rp5 d1 d2 d3 d4)
def rp7 : M := inN (rp6 d1 d2 d3 d4)
def rp8 : M := inN (rp7 d1 d2 d3 d4)
def rp9 : M := M.runFor 14 (rp8 d1 d2 d3 d4)
variable {d1 d2 d3 d4 : Nat} (h1 : isDigit d1 = true) (h2 : isDigit d2 = true) (h3 : isDigit d3 = true) (h4 : isDigit d4 = true)
include h1 h2 h3 h4
theorem rp_run : M.runFor 31 (rp0 d1 d2 d3 d4) = rp9 d1 d2 d3 d4 := by
  rw [show 31 = 8 + (1 + (1 + (1 + (1 + (3 + (1 + (1 + 14))))))) from rfl, runFor_add, runFor_add, runFor_add, runFor_add, runFor_add, runFor_add, runFor_add, runFor_add]
  show M.runFor 14 (M.runFor 1 (M.runFor 1 (M.runFor 3 (M.runFor 1 (M.runFor 1 (M.runFor 1 (M.runFor 1 (rp1 d1 d2 d3 d4)))))))) = _
  rw [in_at (m := rp1 d1 d2 d3 d4) (pc := 25) (p := 1) (l := 5) (c := d1) (by kernel_rfl!) (by kernel_rfl!) (by kernel_rfl!) (by kernel_rfl!) (by kernel_rfl!) (by kernel_rfl!) (by kernel_rfl!) (by decide) (by kernel_rfl!) (by decide) (acc25 h1)]
  show M.runFor 14 (M.runFor 1 (M.runFor 1 (M.runFor 3 (M.runFor 1 (M.runFor 1 (M.runFor 1 (rp2 d1 d2 d3 d4))))))) = _
  rw [rep_at (m := rp2 d1 d2 d3 d4) (pc := 30) (p := 2) (l := 5) (w4 := 34) (by kernel_rfl!) (by kernel_rfl!) (by kernel_rfl!) (by kernel_rfl!) (by kernel_rfl!) (by kernel_rfl!) (by decide) (by kernel_rfl!) (by decide) (by kernel_rfl!) (by kernel_rfl!) rfl
    (run_yes (by rw [show Array.getD (rp2 d1 d2 d3 d4).text 2 0 = d2 by kernel_rfl!]; exact acc34 h2 _))]
  show M.runFor 14 (M.runFor 1 (M.runFor 1 (M.runFor 3 (M.runFor 1 (rp4 d1 d2 d3 d4))))) = _
  rw [rep_at (m := rp4 d1 d2 d3 d4) (pc := 42) (p := 3) (l := 5) (w4 := 46) (by kernel_rfl!) (by kernel_rfl!) (by kernel_rfl!) (by kernel_rfl!) (by kernel_rfl!) (by kernel_rfl!) (by decide) (by kernel_rfl!) (by decide) (by kernel_rfl!) (by kernel_rfl!) rfl
    (run_no (by rw [show Array.getD (rp4 d1 d2 d3 d4).text 3 0 = d3 by kernel_rfl!]; exact acc46 h3 _))]
  show M.runFor 14 (M.runFor 1 (M.runFor 1 (rp6 d1 d2 d3 d4))) = _
  rw [in_at (m := rp6 d1 d2 d3 d4) (pc := 55) (p := 3) (l := 5) (c := d3) (by kernel_rfl!) (by kernel_rfl!) (by kernel_rfl!) (by kernel_rfl!) (by kernel_rfl!) (by kernel_rfl!) (by kernel_rfl!) (by decide) (by kernel_rfl!) (by decide) (acc55 h3)]
  show M.runFor 14 (M.runFor 1 (rp7 d1 d2 d3 d4)) = _
  rw [in_at (m := rp7 d1 d2 d3 d4) (pc := 60) (p := 4) (l := 5) (c := d4) (by kernel_rfl!) (by kernel_rfl!) (by kernel_rfl!) (by kernel_rfl!) (by kernel_rfl!) (by kernel_rfl!) (by kernel_rfl!) (by decide) (by kernel_rfl!) (by decide) (acc60 h4)]
  rfl
omit h1 h2 h3 h4
theorem rp_end : (rp9 d1 d2 d3 d4).outcome = some .matched ∧ (rp9 d1 d2 d3 d4).marks = #[some 0, some 1, some 1, some 3, some 3, some 5] ∧ (rp9 d1 d2 d3 d4).lastmark = 5 ∧ (rp9 d1 d2 d3 d4).lastindex = 3 ∧ (rp9 d1 d2 d3 d4).start = 0 ∧ (rp9 d1 d2 d3 d4).handed = 5 :=
  ⟨by kernel_rfl!, by kernel_rfl!, by kernel_rfl!, by kernel_rfl!, by kernel_rfl!, by kernel_rfl!⟩
end

section
variable (d1 d2 d3 d4 : Nat)
abbrev rm0 : M := forSearch rcode #[45, d1, d2, d3, d4] 3 0 5 false
def rm1 : M := M.runFor 8 (rm0 d1 d2 d3 d4)
def rm2 : M := inN (rm1 d1 d2 d3 d4)
def rm3 : M := repN (rm2 d1 d2 d3 d4) 1 (sg (sR (rm2 d1 d2 d3 d4)))
def rm4 : M := M.runFor 1 (rm3 d1 d2 d3 d4)
def rm5 : M := repN (rm4 d1 d2 d3 d4) 0 (sR (rm4 d1 d2 d3 d4))
def rm6 : M := M.runFor 3 (rm5 d1 d2 d3 d4)
def rm7 : M := inN (rm6 d1 d2 d3 d4)
def rm8 : M := inN (rm7 d1 d2 d3 d4)
def rm9 : M := M.runFor 14 (rm8 d1 d2 d3 d4)
variable {d1 d2 d3 d4 : Nat} (h1 : isDigit d1 = true) (h2 : isDigit d2 = true) (h3 : isDigit d3 = true) (h4 : isDigit d4 = true)
include h1 h2 h3 h4
theorem rm_run : M.runFor 31 (rm0 d1 d2 d3 d4) = rm9 d1 d2 d3 d4 := by
  rw [show 31 = 8 + (1 + (1 + (1 + (1 + (3 + (1 + (1 + 14))))))) from rfl, runFor_add, runFor_add, runFor_add, runFor_add, runFor_add, runFor_add, runFor_add, runFor_add]
  show M.runFor 14 (M.runFor 1 (M.runFor 1 (M.runFor 3 (M.runFor 1 (M.runFor 1 (M.runFor 1 (M.runFor 1 (rm1 d1 d2 d3 d4)))))))) = _
  rw [in_at (m := rm1 d1 d2 d3 d4) (pc := 25) (p := 1) (l := 5) (c := d1) (by kernel_rfl!) (by kernel_rfl!) (by kernel_rfl!) (by kernel_rfl!) (by kernel_rfl!) (by kernel_rfl!) (by kernel_rfl!) (by decide) (by kernel_rfl!) (by decide) (acc25 h1)]
  show M.runFor 14 (M.runFor 1 (M.runFor 1 (M.runFor 3 (M.runFor 1 (M.runFor 1 (M.runFor 1 (rm2 d1 d2 d3 d4))))))) = _
  rw [rep_at (m := rm2 d1 d2 d3 d4) (pc := 30) (p := 2) (l := 5) (w4 := 34) (by kernel_rfl!) (by kernel_rfl!) (by kernel_rfl!) (by kernel_rfl!) (by kernel_rfl!) (by kernel_rfl!) (by decide) (by kernel_rfl!) (by decide) (by kernel_rfl!) (by kernel_rfl!) rfl
    (run_yes (by rw [show Array.getD (rm2 d1 d2 d3 d4).text 2 0 = d2 by kernel_rfl!]; exact acc34 h2 _))]
  show M.runFor 14 (M.runFor 1 (M.runFor 1 (M.runFor 3 (M.runFor 1 (rm4 d1 d2 d3 d4))))) = _
  rw [rep_at (m := rm4 d1 d2 d3 d4) (pc := 42) (p := 3) (l := 5) (w4 := 46) (by kernel_rfl!) (by kernel_rfl!) (by kernel_rfl!) (by kernel_rfl!) (by kernel_rfl!) (by kernel_rfl!) (by decide) (by kernel_rfl!) (by decide) (by kernel_rfl!) (by kernel_rfl!) rfl
    (run_no (by rw [show Array.getD (rm4 d1 d2 d3 d4).text 3 0 = d3 by kernel_rfl!]; exact acc46 h3 _))]
  show M.runFor 14 (M.runFor 1 (M.runFor 1 (rm6 d1 d2 d3 d4))) = _
  rw [in_at (m := rm6 d1 d2 d3 d4) (pc := 55) (p := 3) (l := 5) (c := d3) (by kernel_rfl!) (by kernel_rfl!) (by kernel_rfl!) (by kernel_rfl!) (by kernel_rfl!) (by kernel_rfl!) (by kernel_rfl!) (by decide) (by kernel_rfl!) (by decide) (acc55 h3)]
  show M.runFor 14 (M.runFor 1 (rm7 d1 d2 d3 d4)) = _
  rw [in_at (m := rm7 d1 d2 d3 d4) (pc := 60) (p := 4) (l := 5) (c := d4) (by kernel_rfl!) (by kernel_rfl!) (by kernel_rfl!) (by kernel_rfl!) (by kernel_rfl!) (by kernel_rfl!) (by kernel_rfl!) (by decide) (by kernel_rfl!) (by decide) (acc60 h4)]
  rfl
omit h1 h2 h3 h4
theorem rm_end : (rm9 d1 d2 d3 d4).outcome = some .matched ∧ (rm9 d1 d2 d3 d4).marks = #[some 0, some 1, some 1, some 3, some 3, some 5] ∧ (rm9 d1 d2 d3 d4).lastmark = 5 ∧ (rm9 d1 d2 d3 d4).lastindex = 3 ∧ (rm9 d1 d2 d3 d4).start = 0 ∧ (rm9 d1 d2 d3 d4).handed = 5 :=
  ⟨by kernel_rfl!, by kernel_rfl!, by kernel_rfl!, by kernel_rfl!, by kernel_rfl!, by kernel_rfl!⟩
end

section
variable (d1 d2 d3 d4 : Nat)
abbrev cp0 : M := forSearch rcode #[43, d1, d2, 58, d3, d4] 3 0 6 false
def cp1 : M := M.runFor 8 (cp0 d1 d2 d3 d4)
def cp2 : M := inN (cp1 d1 d2 d3 d4)
def cp3 : M := repN (cp2 d1 d2 d3 d4) 1 (sg (sR (cp2 d1 d2 d3 d4)))
def cp4 : M := M.runFor 1 (cp3 d1 d2 d3 d4)
def cp5 : M := repN (cp4 d1 d2 d3 d4) 1 (sR (cp4 d1 d2 d3 d4))
def cp6 : M := M.runFor 3 (cp5 d1 d2 d3 d4)
def cp7 : M := inN (cp6 d1 d2 d3 d4)
def cp8 : M := inN (cp7 d1 d2 d3 d4)
def cp9 : M := M.runFor 14 (cp8 d1 d2 d3 d4)
variable {d1 d2 d3 d4 : Nat} (h1 : isDigit d1 = true) (h2 : isDigit d2 = true) (h3 : isDigit d3 = true) (h4 : isDigit d4 = true)
include h1 h2 h3 h4
theorem cp_run : M.runFor 31 (cp0 d1 d2 d3 d4) = cp9 d1 d2 d3 d4 := by
  rw [show 31 = 8 + (1 + (1 + (1 + (1 + (3 + (1 + (1 + 14))))))) from rfl, runFor_add, runFor_add, runFor_add, runFor_add, runFor_add, runFor_add, runFor_add, runFor_add]
  show M.runFor 14 (M.runFor 1 (M.runFor 1 (M.runFor 3 (M.runFor 1 (M.runFor 1 (M.runFor 1 (M.runFor 1 (cp1 d1 d2 d3 d4)))))))) = _
  rw [in_at (m := cp1 d1 d2 d3 d4) (pc := 25) (p := 1) (l := 6) (c := d1) (by kernel_rfl!) (by kernel_rfl!) (by kernel_rfl!) (by kernel_rfl!) (by kernel_rfl!) (by kernel_rfl!) (by kernel_rfl!) (by decide) (by kernel_rfl!) (by decide) (acc25 h1)]
  show M.runFor 14 (M.runFor 1 (M.runFor 1 (M.runFor 3 (M.runFor 1 (M.runFor 1 (M.runFor 1 (cp2 d1 d2 d3 d4))))))) = _
  rw [rep_at (m := cp2 d1 d2 d3 d4) (pc := 30) (p := 2) (l := 6) (w4 := 34) (by kernel_rfl!) (by kernel_rfl!) (by kernel_rfl!) (by kernel_rfl!) (by kernel_rfl!) (by kernel_rfl!) (by decide) (by kernel_rfl!) (by decide) (by kernel_rfl!) (by kernel_rfl!) rfl
    (run_yes (by rw [show Array.getD (cp2 d1 d2 d3 d4).text 2 0 = d2 by kernel_rfl!]; exact acc34 h2 _))]
  show M.runFor 14 (M.runFor 1 (M.runFor 1 (M.runFor 3 (M.runFor 1 (cp4 d1 d2 d3 d4))))) = _
  rw [rep_at (m := cp4 d1 d2 d3 d4) (pc := 42) (p := 3) (l := 6) (w4 := 46) (by kernel_rfl!) (by kernel_rfl!) (by kernel_rfl!) (by kernel_rfl!) (by kernel_rfl!) (by kernel_rfl!) (by decide) (by kernel_rfl!) (by decide) (by kernel_rfl!) (by kernel_rfl!) rfl
    (run_yes (by rw [show Array.getD (cp4 d1 d2 d3 d4).text 3 0 = 58 by kernel_rfl!]; exact acc46' _))]
  show M.runFor 14 (M.runFor 1 (M.runFor 1 (cp6 d1 d2 d3 d4))) = _
  rw [in_at (m := cp6 d1 d2 d3 d4) (pc := 55) (p := 4) (l := 6) (c := d3) (by kernel_rfl!) (by kernel_rfl!) (by kernel_rfl!) (by kernel_rfl!) (by kernel_rfl!) (by kernel_rfl!) (by kernel_rfl!) (by decide) (by kernel_rfl!) (by decide) (acc55 h3)]
  show M.runFor 14 (M.runFor 1 (cp7 d1 d2 d3 d4)) = _
  rw [in_at (m := cp7 d1 d2 d3 d4) (pc := 60) (p := 5) (l := 6) (c := d4) (by kernel_rfl!) (by kernel_rfl!) (by kernel_rfl!) (by kernel_rfl!) (by kernel_rfl!) (by kernel_rfl!) (by kernel_rfl!) (by decide) (by kernel_rfl!) (by decide) (acc60 h4)]
  rfl
omit h1 h2 h3 h4
theorem cp_end : (cp9 d1 d2 d3 d4).outcome = some .matched ∧ (cp9 d1 d2 d3 d4).marks = #[some 0, some 1, some 1, some 3, some 4, some 6] ∧ (cp9 d1 d2 d3 d4).lastmark = 5 ∧ (cp9 d1 d2 d3 d4).lastindex = 3 ∧ (cp9 d1 d2 d3 d4).start = 0 ∧ (cp9 d1 d2 d3 d4).handed = 6 :=
  ⟨by kernel_rfl!, by kernel_rfl!, by kernel_rfl!, by kernel_rfl!, by kernel_rfl!, by kernel_rfl!⟩
end

section
variable (d1 d2 d3 d4 : Nat)
abbrev cm0 : M := forSearch rcode #[45, d1, d2, 58, d3, d4] 3 0 6 false
def cm1 : M := M.runFor 8 (cm0 d1 d2 d3 d4)
def cm2 : M := inN (cm1 d1 d2 d3 d4)
def cm3 : M := repN (cm2 d1 d2 d3 d4) 1 (sg (sR (cm2 d1 d2 d3 d4)))
def cm4 : M := M.runFor 1 (cm3 d1 d2 d3 d4)
def cm5 : M := repN (cm4 d1 d2 d3 d4) 1 (sR (cm4 d1 d2 d3 d4))
def cm6 : M := M.runFor 3 (cm5 d1 d2 d3 d4)
def cm7 : M := inN (cm6 d1 d2 d3 d4)
def cm8 : M := inN (cm7 d1 d2 d3 d4)
def cm9 : M := M.runFor 14 (cm8 d1 d2 d3 d4)
variable {d1 d2 d3 d4 : Nat} (h1 : isDigit d1 = true) (h2 : isDigit d2 = true) (h3 : isDigit d3 = true) (h4 : isDigit d4 = true)
include h1 h2 h3 h4
theorem cm_run : M.runFor 31 (cm0 d1 d2 d3 d4) = cm9 d1 d2 d3 d4 := by
  rw [show 31 = 8 + (1 + (1 + (1 + (1 + (3 + (1 + (1 + 14))))))) from rfl, runFor_add, runFor_add, runFor_add, runFor_add, runFor_add, runFor_add, runFor_add, runFor_add]
  show M.runFor 14 (M.runFor 1 (M.runFor 1 (M.runFor 3 (M.runFor 1 (M.runFor 1 (M.runFor 1 (M.runFor 1 (cm1 d1 d2 d3 d4)))))))) = _
  rw [in_at (m := cm1 d1 d2 d3 d4) (pc := 25) (p := 1) (l := 6) (c := d1) (by kernel_rfl!) (by kernel_rfl!) (by kernel_rfl!) (by kernel_rfl!) (by kernel_rfl!) (by kernel_rfl!) (by kernel_rfl!) (by decide) (by kernel_rfl!) (by decide) (acc25 h1)]
  show M.runFor 14 (M.runFor 1 (M.runFor 1 (M.runFor 3 (M.runFor 1 (M.runFor 1 (M.runFor 1 (cm2 d1 d2 d3 d4))))))) = _
  rw [rep_at (m := cm2 d1 d2 d3 d4) (pc := 30) (p := 2) (l := 6) (w4 := 34) (by kernel_rfl!) (by kernel_rfl!) (by kernel_rfl!) (by kernel_rfl!) (by kernel_rfl!) (by kernel_rfl!) (by decide) (by kernel_rfl!) (by decide) (by kernel_rfl!) (by kernel_rfl!) rfl
    (run_yes (by rw [show Array.getD (cm2 d1 d2 d3 d4).text 2 0 = d2 by kernel_rfl!]; exact acc34 h2 _))]
  show M.runFor 14 (M.runFor 1 (M.runFor 1 (M.runFor 3 (M.runFor 1 (cm4 d1 d2 d3 d4))))) = _
  rw [rep_at (m := cm4 d1 d2 d3 d4) (pc := 42) (p := 3) (l := 6) (w4 := 46) (by kernel_rfl!) (by kernel_rfl!) (by kernel_rfl!) (by kernel_rfl!) (by kernel_rfl!) (by kernel_rfl!) (by decide) (by kernel_rfl!) (by decide) (by kernel_rfl!) (by kernel_rfl!) rfl
    (run_yes (by rw [show Array.getD (cm4 d1 d2 d3 d4).text 3 0 = 58 by kernel_rfl!]; exact acc46' _))]
  show M.runFor 14 (M.runFor 1 (M.runFor 1 (cm6 d1 d2 d3 d4))) = _
  rw [in_at (m := cm6 d1 d2 d3 d4) (pc := 55) (p := 4) (l := 6) (c := d3) (by kernel_rfl!) (by kernel_rfl!) (by kernel_rfl!) (by kernel_rfl!) (by kernel_rfl!) (by kernel_rfl!) (by kernel_rfl!) (by decide) (by kernel_rfl!) (by decide) (acc55 h3)]
  show M.runFor 14 (M.runFor 1 (cm7 d1 d2 d3 d4)) = _
  rw [in_at (m := cm7 d1 d2 d3 d4) (pc := 60) (p := 5) (l := 6) (c := d4) (by kernel_rfl!) (by kernel_rfl!) (by kernel_rfl!) (by kernel_rfl!) (by kernel_rfl!) (by kernel_rfl!) (by kernel_rfl!) (by decide) (by kernel_rfl!) (by decide) (acc60 h4)]
  rfl
omit h1 h2 h3 h4
theorem cm_end : (cm9 d1 d2 d3 d4).outcome = some .matched ∧ (cm9 d1 d2 d3 d4).marks = #[some 0, some 1, some 1, some 3, some 4, some 6] ∧ (cm9 d1 d2 d3 d4).lastmark = 5 ∧ (cm9 d1 d2 d3 d4).lastindex = 3 ∧ (cm9 d1 d2 d3 d4).start = 0 ∧ (cm9 d1 d2 d3 d4).handed = 6 :=
  ⟨by kernel_rfl!, by kernel_rfl!, by kernel_rfl!, by kernel_rfl!, by kernel_rfl!, by kernel_rfl!⟩
end
end Mine
end

/-! R2 -/
section
open PySem.Builtin.Re
namespace Mine

theorem plainAttrs_pat : PlainAttrs "re.Pattern" :=
  ⟨⟨"object.__getattribute__", by rw [typeLookup_type, builtinLookup_eq_fast]; kernel_rfl, by decide +kernel⟩, by rw [typeLookup_type, builtinLookup_eq_fast]; kernel_rfl⟩
theorem plainAttrs_mat : PlainAttrs "re.Match" :=
  ⟨⟨"object.__getattribute__", by rw [typeLookup_type, builtinLookup_eq_fast]; kernel_rfl, by decide +kernel⟩, by rw [typeLookup_type, builtinLookup_eq_fast]; kernel_rfl⟩
theorem owner_pat : Manifest.owners.lookup (String.ofList ['n', 'r', 'e', 't', 't', 'a', 'P', '.', 'e', 'r'].reverse) = some Manifest.sig_re_Pattern := by kernel_rfl
theorem owner_mat : Manifest.owners.lookup (String.ofList ['h', 'c', 't', 'a', 'M', '.', 'e', 'r'].reverse) = some Manifest.sig_re_Match := by kernel_rfl
theorem slot_search : Slot "re.Pattern" "search" "re.Pattern.search" :=
  .of (owner := "re.Pattern") (n := "search") (by rw [typeLookup_type, builtinLookup_eq_fast]; kernel_rfl) (by decide +kernel) (by decide +kernel) (by decide +kernel)
    (by first | exact .inl (by decide +kernel) | exact .inr (by decide +kernel)) (by rw [isSubtype_type]; kernel_rfl)
theorem type_search : typeOf (.builtin "re.Pattern.search") = pure (.type "method_descriptor") := by show builtinType _ = _; rw [builtinType_eq_fast]; kernel_rfl
theorem entry_search : entryFor table "re.Pattern.search" = some Builtin.«re.Pattern.search» := entryFor_of_tree (by kernel_rfl)
theorem args_search (a b : Value) : argsOk "re.Pattern.search" ⟨[a, b], []⟩ := by
  unfold argsOk; rw [signature?_of (id := "re.Pattern.search") (n := ['h', 'c', 'r', 'a', 'e', 's']) (o := ['n', 'r', 'e', 't', 't', 'a', 'P', '.', 'e', 'r']) (by kernel_rfl) owner_pat]; kernel_rfl
theorem slot_group : Slot "re.Match" "group" "re.Match.group" :=
  .of (owner := "re.Match") (n := "group") (by rw [typeLookup_type, builtinLookup_eq_fast]; kernel_rfl) (by decide +kernel) (by decide +kernel) (by decide +kernel)
    (by first | exact .inl (by decide +kernel) | exact .inr (by decide +kernel)) (by rw [isSubtype_type]; kernel_rfl)
theorem type_group : typeOf (.builtin "re.Match.group") = pure (.type "method_descriptor") := by show builtinType _ = _; rw [builtinType_eq_fast]; kernel_rfl
theorem entry_group : entryFor table "re.Match.group" = some Builtin.«re.Match.group» := entryFor_of_tree (by kernel_rfl)
theorem args_group (a b : Value) : argsOk "re.Match.group" ⟨[a, b], []⟩ := by
  unfold argsOk; rw [signature?_of (id := "re.Match.group") (n := ['p', 'u', 'o', 'r', 'g']) (o := ['h', 'c', 't', 'a', 'M', '.', 'e', 'r']) (by kernel_rfl) owner_mat]; kernel_rfl
end Mine
end

/-! R3 -/
section
open PySem.Builtin.Re
namespace Mine

section
variable {M : Model} {A : Around} {E : Value → Shared → Prop} {s : Shared}
theorem drive {m F : Sre.M} {Q : Sre.M → Shared → Prop} (k j : Nat) (e : m.runFor (4 * (k + 1)) = F) (hF : F.outcome.isSome = true) (h : Q F s) : wpAny M A (reDrive (k + 1 + j) m) Q E s := by
  induction k generalizing m with
  | zero =>
    rw [show 0 + 1 + j = j + 1 from Nat.add_comm _ _]
    unfold reDrive
    rw [show m.runFor reTurnSteps = F from e]
    dsimp only
    rw [if_pos hF]
    exact wpAny_pure h
  | succ k ih =>
    rw [show k + 1 + 1 + j = (k + 1 + j) + 1 by omega]
    unfold reDrive
    dsimp only
    by_cases h1 : (m.runFor reTurnSteps).outcome.isSome = true
    · rw [if_pos h1]
      refine wpAny_pure ?_
      have e2 : m.runFor reTurnSteps = F := by
        rw [← e, show 4 * (k + 1 + 1) = 4 + 4 * (k + 1) by omega, runFor_add]
        exact (runFor_some h1 _).symm
      rw [e2]; exact h
    · rw [if_neg h1]
      refine wpAny_bind (wpAny_rule ?_)
      refine ih ?_
      rw [← e, show 4 * (k + 1 + 1) = 4 + 4 * (k + 1) by omega, runFor_add]
      rfl

theorem runEnd {m F : Sre.M} {Q : Option Sre.M → Shared → Prop} (k : Nat) (hk : k + 1 ≤ 2 ^ 64) (e : m.runFor (4 * (k + 1)) = F) (hF : F.outcome = some .matched ∨ F.outcome = some .failed)
    (h : Q (match F.outcome with | some .matched => some F | _ => none) s) : wpAny M A (reRunToEnd m) Q E s := by
  unfold reRunToEnd
  obtain ⟨j, hj⟩ := Nat.exists_eq_add_of_le hk
  rw [hj]
  have hs : F.outcome.isSome = true := by rcases hF with h | h <;> (rw [h]; rfl)
  refine wpAny_bind (drive k j e hs ?_)
  refine wpAny_bind (wpAny_forIn_list _ (fun _ _ s' => s' = s) _ ?_ ?_ _ _ rfl)
  · rintro x rest b s' rfl
    by_cases hc : F.seen.has x = true
    · rw [if_pos hc]
      exact wpAny_bind (wpAny_rule (wpAny_pure rfl))
    · rw [if_neg hc]
      exact wpAny_pure rfl
  rintro b s' rfl
  rcases hF with h1 | h1
  · rw [h1] at h ⊢
    exact wpAny_pure h
  · rw [h1] at h ⊢
    exact wpAny_pure h
end

/-- what a match object holds -/
abbrev matObj (string pattern spans : Value) (lim : Int) (li : Int) : Obj := { cls := .type "re.Match", data := .fields #[string, pattern, rawInt 0, rawInt lim, rawInt li, spans] }
abbrev patObj (code : Value) (t1 t2 t3 t4 : Tok) (src : Str) : Obj := { cls := .type "re.Pattern", data := .fields #[.str src t1, .int 256 t2, .int 3 t3, .none, .none, code, .int 0 t4] }
/-- the spans of a match of a clock's word -/
abbrev matTup (p n : Nat) : Obj := { cls := .type "tuple", data := .seq #[rawInt 0, rawInt n, rawInt 0, rawInt 1, rawInt 1, rawInt 3, rawInt p, rawInt n] }
theorem wp_ff {α : Type} {M : Model} {A : Around} {E : Value → Shared → Prop} {s : Shared} {c : Bool} {a b : Sem α} {Q : α → Shared → Prop} (h : c = false) (k : wpAny M A b Q E s) : wpAny M A (if c = true then a else b) Q E s := by
  rw [h]; exact k
section
variable {prog : Program} {w : World} {A : Around} {E : Value → Shared → Prop} {s : Shared}
theorem named_search (v : Value) : reNamed "re.Pattern.search" "search" ["string", "pos", "endpos"] 1 [v] [] = pure [some v, none, none] := by
  kernel_rfl

theorem target {x : Str} {t : Tok} {t1 t2 t3 t4 : Tok} {src : Str} {P C : Addr} {cv : Array Value} {n : Nat} {oC : Obj} {Q : ReTarget → Shared → Prop} (hP : s.heap.get? P = some (patObj (.ref C) t1 t2 t3 t4 src)) (hC : s.heap.get? C = some oC) (hd : oC.data = .seq cv n) (hcv : (cv.map reRawOf).map (·.toNat) = rcode) (hx : x.cps.size ≤ 16777216)
    (h : Q { pattern := .ref P, string := .str x t, code := rcode, text := x.cps, kind := 0, groups := 3, pos := 0, lim := x.cps.size } s) :
    wpAny (model prog w) A (reTarget "re.Pattern.search" "search" ⟨[.ref P, .str x t], []⟩) Q E s := by
  unfold reTarget
  dsimp only
  refine wpAny_bind (wpAny_of_eq (named_search _) ?_)
  dsimp only
  refine wpAny_bind (wpAny_pure ?_)
  refine wpAny_bind (wpAny_pure ?_)
  unfold fieldsOf
  refine wpAny_bind (wpAny_bind (wpAny_load hP (wpAny_pure ?_)))
  refine wpAny_bind (m := reTextOf (.str x t)) (wpAny_of_eq (a := (x.cps, 0)) rfl ?_)
  refine wp_ff rfl ?_
  refine wp_ff rfl ?_
  refine wpAny_bind (m := reNoCollectionInside (.str x t) 0) (wpAny_of_eq (a := ()) rfl ?_)
  refine wpAny_bind (m := reRawItems (.ref C)) ?_
  unfold reRawItems
  refine wpAny_bind (wpAny_seqItems hC hd (wpAny_pure (wpAny_pure ?_)))
  have e1 : Array.map (fun x => x.toNat) (Array.map reRawOf ((some cv).getD #[])) = rcode := hcv
  rw [e1]
  have e2 : min (Int.toNat 0) (x.cps, 0).fst.size = 0 := Nat.zero_min _
  have e3 : min (2 ^ 63 - 1 : Int).toNat (x.cps, 0).fst.size = x.cps.size := by
    show min (2 ^ 63 - 1 : Int).toNat x.cps.size = x.cps.size
    omega
  rw [e2, e3]
  exact h

theorem newMatch {m : Sre.M} {p n : Nat} {x : Str} {t : Tok} {P : Addr} {Q : Value → Shared → Prop} (hp : p ≤ n) (hm : m.marks = #[some 0, some 1, some 1, some 3, some p, some n]) (hl : m.lastmark = 5) (hi : m.lastindex = 3) (hs : m.start = 0) (hh : m.handed = n)
    (h : Q (.ref (s.heap.objs.size + 1)) { s with heap := (s.heap.push (matTup p n)).push (matObj (.str x t) (.ref P) (.ref s.heap.objs.size) n 3) }) :
    wpAny (model prog w) A (reNewMatch (.ref P) (.str x t) 3 0 n m) Q E s := by
  unfold reNewMatch
  rw [hm, hl, hi, hs, hh]
  refine wp_ff ?_ ?_
  · show (false || (false || ((decide (((2 * 2 + 1 : Nat) : Int) ≤ 5) && decide (n < p)) || false))) = false
    rw [show decide (n < p) = false from decide_eq_false (Nat.not_lt.mpr hp)]
    rfl
  · show wpAny _ A (newTuple [rawInt 0, rawInt n, rawInt 0, rawInt 1, rawInt 1, rawInt 3, rawInt p, rawInt n] >>= fun v => newFields "re.Match" [.str x t, .ref P, rawInt 0, rawInt n, rawInt 3, v]) Q E s
    refine wpAny_bind (wpAny_newTuple ?_)
    unfold newFields
    refine wpAny_newObj_type ?_
    show Q (.ref (s.heap.push (matTup p n)).objs.size) _
    rw [Heap.size_push]
    exact h

theorem search_yes {x : Str} {t : Tok} {t1 t2 t3 t4 : Tok} {src : Str} {P C : Addr} {cv : Array Value} {n p : Nat} {nC : Nat} {oC : Obj} {F : Sre.M} {Q : Value → Shared → Prop} (hP : s.heap.get? P = some (patObj (.ref C) t1 t2 t3 t4 src)) (hC : s.heap.get? C = some oC) (hd : oC.data = .seq cv nC) (hcv : (cv.map reRawOf).map (·.toNat) = rcode) (hx : x.cps.size = n) (hn : n ≤ 6)
    (run : (Sre.forSearch rcode x.cps 3 0 n false).runFor 31 = F) (ho : F.outcome = some .matched) (hp : p ≤ n) (hm : F.marks = #[some 0, some 1, some 1, some 3, some p, some n]) (hl : F.lastmark = 5) (hi : F.lastindex = 3) (hs : F.start = 0) (hh : F.handed = n)
    (h : Q (.ref (s.heap.objs.size + 1)) { s with heap := (s.heap.push (matTup p n)).push (matObj (.str x t) (.ref P) (.ref s.heap.objs.size) n 3) }) :
    wpAny (model prog w) A (call (.builtin "re.Pattern.search") [.ref P, .str x t]) Q E s := by
  refine wpAny_call (codeAny_call_builtin slot_search.plain entry_search (slot_search.check _ _ _ _ _ _ _ _ ⟨_, hP, rfl⟩ (args_search _ _) ?_))
  unfold Builtin.«re.Pattern.search»
  refine wpAny_bind (target hP hC hd hcv (by omega) ?_)
  unfold reAnswer
  dsimp only
  rw [hx]
  have run' : (Sre.forSearch rcode x.cps 3 0 n false).runFor (4 * (7 + 1)) = F := by
    rw [show 4 * (7 + 1) = 31 + 1 from rfl, runFor_add, run]
    exact runFor_some (by rw [ho]; rfl) _
  refine wpAny_bind (runEnd 7 (by decide) run' (.inl ho) ?_)
  rw [ho]
  dsimp only
  refine wpAny_bind (newMatch hp hm hl hi hs hh ?_)
  exact wpAny_pure h
end
end Mine
end

/-! R4 -/
section
open PySem.Builtin.Re
namespace Mine
section
variable {prog : Program} {w : World} {A : Around} {E : Value → Shared → Prop} {s : Shared}
def noM : Sre.M := Sre.forSearch rcode (Str.ofString "no clock").cps 3 0 8 false
def noF : Sre.M := noM.runFor (4 * (9 + 1))
theorem noClock_run : noF.outcome = some .failed := by kernel_rfl!
theorem search_no {t : Tok} {t1 t2 t3 t4 : Tok} {src : Str} {P C : Addr} {cv : Array Value} {nC : Nat} {oC : Obj} {Q : Value → Shared → Prop} (hP : s.heap.get? P = some (patObj (.ref C) t1 t2 t3 t4 src)) (hC : s.heap.get? C = some oC) (hd : oC.data = .seq cv nC) (hcv : (cv.map reRawOf).map (·.toNat) = rcode)
    (h : Q .none s) : wpAny (model prog w) A (call (.builtin "re.Pattern.search") [.ref P, .str (Str.ofString "no clock") t]) Q E s := by
  refine wpAny_call (codeAny_call_builtin slot_search.plain entry_search (slot_search.check _ _ _ _ _ _ _ _ ⟨_, hP, rfl⟩ (args_search _ _) ?_))
  unfold Builtin.«re.Pattern.search»
  have hx : (Str.ofString "no clock").cps.size = 8 := by decide +kernel
  refine wpAny_bind (target hP hC hd hcv (by omega) ?_)
  unfold reAnswer
  dsimp only
  rw [hx]
  rw [show Sre.forSearch rcode (Str.ofString "no clock").cps 3 0 8 false = noM from rfl]
  generalize hm : noM = m9
  have hr : m9.runFor (4 * (9 + 1)) = noF := by rw [← hm]; rfl
  refine wpAny_bind (runEnd 9 (by decide) hr (.inr noClock_run) ?_)
  rw [noClock_run]
  exact wpAny_pure h

theorem group_at {x : Str} {t u : Tok} {r T P : Addr} {p n b e : Nat} {g : Int} {Q : Value → Shared → Prop} (hM : s.heap.get? r = some (matObj (.str x t) (.ref P) (.ref T) n 3)) (hT : s.heap.get? T = some (matTup p n))
    (h0 : 0 ≤ g) (h3 : g ≤ 3) (hb : (#[(0 : Int), (n : Int), 0, 1, 1, 3, (p : Int), (n : Int)]).getD (2 * g.toNat) (-1) = (b : Int)) (he : (#[(0 : Int), (n : Int), 0, 1, 1, 3, (p : Int), (n : Int)]).getD (2 * g.toNat + 1) (-1) = (e : Int))
    (hx : x.cps.size ≤ 16777216) (h : Q (.str ⟨x.cps.extract b e⟩ s.toks) { s with toks := s.toks + 1 }) :
    wpAny (model prog w) A (call (.builtin "re.Match.group") [.ref r, .int g u]) Q E s := by
  refine wpAny_call (codeAny_call_builtin slot_group.plain entry_group (slot_group.check _ _ _ _ _ _ _ _ ⟨_, hM, rfl⟩ (args_group _ _) ?_))
  unfold Builtin.«re.Match.group»
  refine wpAny_bind (m := noKeywords "Match.group" ⟨[.ref r, .int g u], []⟩) (wpAny_of_eq (a := ()) rfl ?_)
  dsimp only
  refine wpAny_bind (m := reFound (.ref r)) ?_
  unfold reFound fieldsOf
  refine wpAny_bind (wpAny_bind (wpAny_load hM (wpAny_pure ?_)))
  refine wpAny_bind (m := reRawItems (.ref T)) ?_
  unfold reRawItems
  refine wpAny_bind (wpAny_seqItems hT rfl (wpAny_pure (wpAny_pure ?_)))
  rw [show Array.map reRawOf ((some #[rawInt 0, rawInt n, rawInt 0, rawInt 1, rawInt 1, rawInt 3, rawInt p, rawInt n]).getD #[]) = #[(0 : Int), (n : Int), 0, 1, 1, 3, (p : Int), (n : Int)] by simp [reRawOf, rawInt]]
  refine wpAny_bind (m := reGroupNumber _ _) ?_
  unfold reGroupNumber
  refine wpAny_bind (m := asInt? (.int g u)) (wpAny_of_eq (a := some g) rfl ?_)
  refine wpAny_bind (m := asIndex (.int g u)) (wpAny_of_eq (a := g) rfl ?_)
  refine wp_ff ?_ (wpAny_pure ?_)
  · show (decide (g < 0) || decide (2 * g ≥ 8)) = false
    rw [decide_eq_false (by omega), decide_eq_false (by omega)]; rfl
  refine wpAny_bind (m := reGroupText _ _ _) ?_
  unfold reGroupText
  dsimp only
  rw [hb, he]
  refine wp_ff ?_ ?_
  · rw [decide_eq_false (by omega), decide_eq_false (by omega)]; rfl
  refine wpAny_bind (m := reTextOf (.str x t)) (wpAny_of_eq (a := (x.cps, 0)) rfl ?_)
  show wpAny _ _ (mkStr ⟨x.cps.extract b e⟩) _ _ _
  refine wpAny_mkStr (wpAny_pure h) ?_
  rw [sizeLine_eq]
  show (x.cps.extract b e).size ≤ _
  rw [Array.size_extract]
  omega
end
end Mine
end

/-! R5 -/
section
namespace Mine
theorem noBool_mat : typeLookup (.type "re.Match") "__bool__" = pure none := by rw [typeLookup_type, builtinLookup_eq_fast]; kernel_rfl
theorem noLen_mat : typeLookup (.type "re.Match") "__len__" = pure none := by rw [typeLookup_type, builtinLookup_eq_fast]; kernel_rfl

abbrev codeVals : Array Value := #[.int 14 0, .int 4 0, .int 0 0, .int 1 0, .int 6 0, .int 6 0, .int 0 0, .int 23 0, .int 14 0, .int 0 0, .int 1 0, .int 17 0, .int 0 0, .int 13 0, .int 6 0, .int 16 0, .int 45 0, .int 16 0, .int 43 0, .int 0 0, .int 17 0, .int 1 0, .int 18 0, .int 17 0, .int 2 0, .int 13 0, .int 4 0, .int 8 0, .int 0 0, .int 0 0, .int 24 0, .int 9 0, .int 0 0, .int 1 0, .int 13 0, .int 4 0, .int 8 0, .int 0 0, .int 0 0, .int 1 0, .int 17 0, .int 3 0, .int 24 0, .int 6 0, .int 0 0, .int 1 0, .int 16 0, .int 58 0, .int 1 0, .int 23 0, .int 17 0, .int 0 0, .int 1 0, .int 17 0, .int 4 0, .int 13 0, .int 4 0, .int 8 0, .int 0 0, .int 0 0, .int 13 0, .int 4 0, .int 8 0, .int 0 0, .int 0 0, .int 17 0, .int 5 0, .int 18 0, .int 6 0, .int 5 0, .int 1 0]
theorem K36 (p : Params) : (zh.heap_39 p).lookup 36 = some { cls := .type "tuple", data := .seq codeVals } := by kernel_rfl
theorem K37 (p : Params) : ∃ t1 t2 t3 t4 src, (zh.heap_39 p).lookup 37 = some (patObj (.ref 36) t1 t2 t3 t4 src) := ⟨294, 368, 0, 0, Str.ofString "^([-+])?(\\d\\d?):?(\\d\\d)?$", by kernel_rfl⟩
abbrev zoneEntry (p : Params) (x : String) (t : Tok) : DictEntry := { hash := PyData.keyHash p (Str.ofString x), key := .str (Str.ofString x) t, val := .none }
theorem K32 (p : Params) : (zh.heap_39 p).lookup 32 = some ⟨.type "dict", none, .dict #[zoneEntry p "GMT" 284, zoneEntry p "UTC" 285, zoneEntry p "UT" 286, zoneEntry p "Z" 287] 4, #[]⟩ := by kernel_rfl
theorem codeVals_eq : (codeVals.map Builtin.Re.reRawOf).map (·.toNat) = rcode := by decide +kernel

/-- a clock's word: no zone's name; the machine comes to a match, its groups at 1, 1..3 and p..n -/
structure Clock (w : World) (x : Str) (c : Nat) (n p : Nat) (F : Sre.M) (hv mv : Int) : Prop where
  zones : nsIn (zh.heap_39 w.params) 32 x = some none
  size : x.cps.size = n
  small : n ≤ 6
  le : p ≤ n
  run : (Sre.forSearch rcode x.cps 3 0 n false).runFor 31 = F
  out : F.outcome = some .matched
  marks : F.marks = #[some 0, some 1, some 1, some 3, some p, some n]
  last : F.lastmark = 5
  lasti : F.lastindex = 3
  start : F.start = 0
  handed : F.handed = n
  g1 : (⟨x.cps.extract 0 1⟩ : Str) = ⟨#[c]⟩
  g2 : PySem.intText? ⟨x.cps.extract 1 3⟩ = some hv
  g3 : PySem.intText? ⟨x.cps.extract p n⟩ = some mv
  g3e : (⟨x.cps.extract p n⟩ : Str).length = 2

section
variable {w : World} {A : Around} {E : Value → Shared → Prop} {s : Shared} {h₀ : Heap} {L : Addr} {m : Str → Option Value} {news : List (Addr × Obj)} {x : Str} {t : Tok} {c n p : Nat} {G : Sre.M} {hv mv : Int}
theorem m_search {pl : Sem Bool} {Q : Value × List Value → Shared → Prop} (F : Fr h₀ L s.heap m) (X : (zh.heap_39 w.params).In h₀) (h : Q (.builtin "re.Pattern.search", [.ref 37]) s) :
    wpAny (model prog w) A (getMethod (.ref 37) "search" pl) Q E s := by
  obtain ⟨t1, t2, t3, t4, src, e⟩ := K37 w.params
  have hP := F.keep _ _ (X _ _ e)
  exact getMethod_builtin ⟨_, hP, rfl⟩ plainAttrs_pat slot_search type_search (fun a e => by cases e; exact ⟨_, hP, rfl⟩) h
theorem m_group {r : Addr} {sv pv spv : Value} {lim li : Int} {pl : Sem Bool} {Q : Value × List Value → Shared → Prop} (N : News h₀ L s.heap news) (hm : (r, matObj sv pv spv lim li) ∈ news) (h : Q (.builtin "re.Match.group", [.ref r]) s) :
    wpAny (model prog w) A (getMethod (.ref r) "group" pl) Q E s := by
  have hP := (N _ hm).1
  exact getMethod_builtin ⟨_, hP, rfl⟩ plainAttrs_mat slot_group type_group (fun a e => by cases e; exact ⟨_, hP, rfl⟩) h
theorem t_match {r : Addr} {sv pv spv : Value} {lim li : Int} {Q : Bool → Shared → Prop} (N : News h₀ L s.heap news) (hm : (r, matObj sv pv spv lim li) ∈ news) (h : Q true s) : wpAny (model prog w) A (truthy (.ref r)) Q E s := by
  have hP := (N _ hm).1
  have hT : s.TypeIs (.ref r) "re.Match" := ⟨_, hP, rfl⟩
  unfold truthy
  refine wpAny_bind (m := callSpecial? (.ref r) (Str.ofString "__bool__")) ?_
  simp only [callSpecial?]
  refine wpAny_bind (wpAny_specialOf hT noBool_mat (wpAny_pure ?_))
  refine wpAny_bind (wpAny_specialOf hT noLen_mat ?_)
  exact wpAny_pure h
theorem c_search {Q : Value → Shared → Prop} (F : Fr h₀ L s.heap m) (N : News h₀ L s.heap news) (X : (zh.heap_39 w.params).In h₀) (k : Clock w x c n p G hv mv)
    (h : ∀ r T h', Fr h₀ L h' m → News h₀ L h' ((r, matObj (.str x t) (.ref 37) (.ref T) n 3) :: (T, matTup p n) :: news) → (∀ q ∈ news, q.1 < T) → @LT.lt Nat _ T r → Q (.ref r) { s with heap := h' }) :
    wpAny (model prog w) A (call (.builtin "re.Pattern.search") [.ref 37, .str x t]) Q E s := by
  obtain ⟨t1, t2, t3, t4, src, e⟩ := K37 w.params
  have hP := F.keep _ _ (X _ _ e)
  have hC := F.keep _ _ (X _ _ (K36 w.params))
  refine search_yes hP hC rfl codeVals_eq k.size k.small k.run k.out k.le k.marks k.last k.lasti k.start k.handed ?_
  have F1 := F.push (matTup p n)
  have N1 := News.push F N (matTup p n)
  have F2 := F1.push (matObj (.str x t) (.ref 37) (.ref s.heap.objs.size) n 3)
  have N2 := News.push F1 N1 (matObj (.str x t) (.ref 37) (.ref s.heap.objs.size) n 3)
  have e : (s.heap.push (matTup p n)).objs.size = s.heap.objs.size + 1 := Heap.size_push ..
  rw [e] at N2
  exact h _ s.heap.objs.size _ F2 N2 (fun q hq => Heap.lt_size (N q hq).1) (Nat.lt_succ_self _)
theorem c_group {r T : Addr} {u : Tok} {b e : Nat} {g : Int} {Q : Value → Shared → Prop} (N : News h₀ L s.heap news) (hM : (r, matObj (.str x t) (.ref 37) (.ref T) n 3) ∈ news) (hT : (T, matTup p n) ∈ news) (k : Clock w x c n p G hv mv)
    (hg : (g = 1 ∧ b = 0 ∧ e = 1) ∨ (g = 2 ∧ b = 1 ∧ e = 3) ∨ (g = 3 ∧ b = p ∧ e = n)) (h : Q (.str ⟨x.cps.extract b e⟩ s.toks) { s with toks := s.toks + 1 }) :
    wpAny (model prog w) A (call (.builtin "re.Match.group") [.ref r, .int g u]) Q E s := by
  have hx : x.cps.size ≤ 16777216 := by rw [k.size]; exact Nat.le_trans k.small (by decide)
  rcases hg with ⟨rfl, rfl, rfl⟩ | ⟨rfl, rfl, rfl⟩ | ⟨rfl, rfl, rfl⟩
  · exact group_at (N _ hM).1 (N _ hT).1 (by decide) (by decide) rfl rfl hx h
  · exact group_at (N _ hM).1 (N _ hT).1 (by decide) (by decide) rfl rfl hx h
  · exact group_at (N _ hM).1 (N _ hT).1 (by decide) (by decide) rfl rfl hx h
theorem cut_small (k : Clock w x c n p G hv mv) (a b : Nat) : (⟨x.cps.extract a b⟩ : Str).length ≤ 640 := by
  show (x.cps.extract a b).size ≤ 640
  rw [Array.size_extract, k.size]
  have := k.small
  omega
theorem int2 {u : Tok} {Q : Value → Shared → Prop} (k : Clock w x c n p G hv mv) (h : Q (.int hv s.toks) { s with toks := s.toks + 1 }) : wpAny (model prog w) A (call (.type "int") [.str ⟨x.cps.extract 1 3⟩ u]) Q E s := KIN.call_text k.g2 (cut_small k _ _) h
theorem int3 {u : Tok} {Q : Value → Shared → Prop} (k : Clock w x c n p G hv mv) (h : Q (.int mv s.toks) { s with toks := s.toks + 1 }) : wpAny (model prog w) A (call (.type "int") [.str ⟨x.cps.extract p n⟩ u]) Q E s := KIN.call_text k.g3 (cut_small k _ _) h
theorem true3 {u : Tok} {Q : Bool → Shared → Prop} (k : Clock w x c n p G hv mv) (h : Q true { s with toks := s.toks + 1 + 1 }) : wpAny (model prog w) A (truthy (.str ⟨x.cps.extract p n⟩ u)) Q E s := by
  refine P.truthy_str (by rw [k.g3e]; decide) ?_
  rw [k.g3e]
  exact h
theorem eq1 {u v : Tok} {Q : Value → Shared → Prop} (k : Clock w x c n p G hv mv) (h : Q (.bool (decide (c = 45))) s) : wpAny (model prog w) A (compareOp .Eq (.str ⟨x.cps.extract 0 1⟩ u) (.str (Str.ofString "-") v)) Q E s := by
  refine eq_str ?_
  have e2 : Str.ofString "-" = ⟨#[45]⟩ := by decide +kernel
  have e : ((⟨x.cps.extract 0 1⟩ : Str) == Str.ofString "-") = decide (c = 45) := by
    rw [k.g1, e2]
    by_cases hc : c = 45
    · subst hc; decide
    · rw [decide_eq_false hc]
      refine beq_eq_false_iff_ne.mpr fun e => hc ?_
      have e3 : (#[c] : Array Nat).toList = (#[45] : Array Nat).toList := congrArg (fun q : Str => q.cps.toList) e
      exact (List.cons.inj e3).1
  rw [e]
  exact h
theorem zones_not {Q : Value → Shared → Prop} (F : Fr h₀ L s.heap m) (X : (zh.heap_39 w.params).In h₀) (k : Clock w x c n p G hv mv) (h : Q (.bool false) { s with toks := s.toks + 1 }) :
    wpAny (model prog w) A (compareOp .In (.str x t) (.ref 32)) Q E s := by
  exact topIn_K (r := none) F X (K32 w.params) (by repeat (first | exact True.intro | refine And.intro ⟨_, _, rfl, rfl⟩ ?_)) k.zones (by decide) h
end
end Mine
end

/-! P6 -/
section
namespace Mine
local macro_rules | `(tactic| walk_at "my_enter") => `(tactic| (refine' enter ?k1 ?k2 ?k3 ?k4 ?k5 ?kA ?kF ?kK ?k6 ?k7 ?k8 ?k9 ?kB ?_ ?c2 ?c3 ?c4 ?c5; (case kA => exact rfl); (case kF => exact rfl); (case kK => assumption); (case k1 => k_asm); (case k2 => k_asm); (case k3 => k_asm); (case k4 => k_asm); (case k5 => k_asm); (case k6 => k_is); (case k7 => k_is); (case k8 => ktr_room); (case k9 => exact BindsTo.of_eq rfl); (case c5 => decide); (case kB => exact locs rfl); (case c2 => exact rfl); (case c3 => exact rfl); (case c4 => exact rfl); k_whole; intro g' L' h' Kp' st' hL' F' N' B' X' T'; (try dsimp only); (try k_fold)))
local macro_rules | `(tactic| walk_at "my_open") => `(tactic| (
  intro mean mg mb dp un gd cn cs fa ccd cl outer A₀ base h₀ L m E B F X T hk C1 C2 hdp hun N
  refine wpAny_call ?_
  have hfill : PySem.Challenge.rw_zs0003_01 = PySem.Challenge.rw_zs0003_01 ∧ zh.heap_39 = zh.heap_39 := by
    k_fill
    exact ⟨rfl, rfl⟩
  clear hfill
  w_on
  k_dflt walk_at "my_enter"))
local macro_rules | `(tactic| walk_at "my_def") => `(tactic| (refine' code_def ?k1 ?k2 ?k3 ?k4 ?k5 ?kA ?kF ?kK ?k6 ?k7 ?k8 ?k9 ?kB ?_ ?c2 ?c3 ?c4 ?c5; (case kA => exact rfl); (case kF => exact rfl); (case kK => first | exact rfl | assumption); (case k1 => k_asm); (case k2 => k_asm); (case k3 => k_asm); (case k4 => k_asm); (case k5 => k_asm); (case k6 => k_is); (case k7 => k_is); (case k8 => ktr_room); (case k9 => first | exact BindsTo.of_eq rfl | exact binds_K (by k_in) rfl (by k_is) rfl rfl rfl); (case c5 => decide); (case kB => exact locs rfl); (case c2 => exact rfl); (case c3 => exact rfl); (case c4 => exact rfl); k_whole; intro g' L' h' FG' F' N' B' X' T'; (try have hL' := le_step FG' F' (by assumption)); (try dsimp only); (try k_lift B'); (try k_fold)))
local macro_rules | `(tactic| walk_at "my_defC") => `(tactic| (refine' code_defC ?k1 ?k2 ?k3 ?k4 ?k5 ?kA ?kF ?kK ?k6 ?k7 ?k8 ?k9 ?kB ?kD ?_ ?c2 ?c3 ?c4; (case kA => exact rfl); (case kF => exact rfl); (case kK => first | exact rfl | assumption); (case k1 => k_asm); (case k2 => k_asm); (case k3 => k_asm); (case k4 => k_asm); (case k5 => k_asm); (case k6 => k_is); (case k7 => k_is); (case k8 => ktr_room); (case k9 => first | exact BindsTo.of_eq rfl | exact binds_K (by k_in) rfl (by k_is) rfl rfl rfl); (case kB => exact rfl); (case kD => decide +kernel); (case c2 => exact rfl); (case c3 => exact rfl); (case c4 => exact rfl); k_whole; intro g' L' h' tk' cells' FG' F' N' Y' B' X' T' l1; (try have hL' := le_step FG' F' (by assumption)); (try k_lt l1); k_cells Y'; (try simp only [List.cons_append, List.nil_append] at N'); (try dsimp only); (try k_lift B'); (try k_fold)))
local macro_rules | `(tactic| walk_at "my_nest") => `(tactic| (refine' code_nest ?k1 ?k2 ?k3 ?k4 ?k5 ?kA ?kF ?kK ?k6 ?k7 ?k8 ?k9 ?kB ?_ ?c2 ?c3 ?c4 ?c5; (case kA => exact rfl); (case kF => exact rfl); (case kK => first | exact rfl | assumption); (case k1 => k_asm); (case k2 => k_asm); (case k3 => k_asm); (case k4 => k_asm); (case k5 => k_asm); (case k6 => k_mem); (case k7 => exact codeRec_news (by k_asm) (by k_mem) (by assumption) (by assumption)); (case k8 => ktr_room); (case k9 => exact BindsTo.of_eq rfl); (case c5 => decide); (case kB => exact locs rfl); (case c2 => exact rfl); (case c3 => exact rfl); (case c4 => exact rfl); k_whole; intro g' L' h' FG' F' N' B' X' T'; (try dsimp only); (try k_lift B'); (try k_fold)))
local macro_rules | `(tactic| walk_at "call ref") => `(tactic| (k_here; k_dflt (refine wpAny_call ?_; first | walk_at "my_def" | walk_at "my_defC" | walk_at "my_nest")))
local macro_rules | `(tactic| walk_at "compareOp In str ref") => `(tactic| (k_here; k_dflt (refine' zones_not ?F ?X ?k ?_; (case F => k_asm); (case X => k_asm); (case k => assumption); k_whole)))
local macro_rules | `(tactic| walk_at "getMethod ref") => `(tactic| (k_here; k_dflt (refine' m_search ?F ?X ?_; (case F => k_asm); (case X => k_asm); k_whole)))
local macro_rules | `(tactic| walk_at "getMethod ref") => `(tactic| (k_here; k_dflt (refine' m_group ?N ?m ?_; (case N => k_asm); (case m => k_mem); k_whole)))
local macro_rules | `(tactic| walk_at "truthy ref") => `(tactic| (k_here; k_dflt (refine' t_match ?N ?m ?_; (case N => k_asm); (case m => k_mem); k_whole)))
local macro_rules | `(tactic| walk_at "call builtin:re.Pattern.search") => `(tactic| (k_here; k_dflt (refine' c_search ?F ?N ?X ?k ?_; (case F => k_asm); (case N => k_asm); (case X => k_asm); (case k => assumption); k_whole); intro r' c' h' F' N' l1 l2; (try k_lt l1); (try k_lt2 l2); (try k_sweep)))
local macro_rules | `(tactic| walk_at "call builtin:re.Match.group") => `(tactic| (k_here; k_dflt (refine' c_group ?N ?M ?T ?k ?g ?_; (case N => k_asm); (case M => k_mem); (case T => k_mem); (case k => assumption); (case g => first | exact .inl ⟨rfl, rfl, rfl⟩ | exact .inr (.inl ⟨rfl, rfl, rfl⟩) | exact .inr (.inr ⟨rfl, rfl, rfl⟩)); k_whole)))
local macro_rules | `(tactic| walk_at "call type:int") => `(tactic| (k_here; k_dflt (first | refine int2 (by assumption) ?_ | refine int3 (by assumption) ?_)))
local macro_rules | `(tactic| walk_at "truthy str") => `(tactic| (k_here; k_dflt (refine true3 (by assumption) ?_)))
local macro_rules | `(tactic| walk_at "compareOp Eq str str") => `(tactic| (k_here; k_dflt (refine eq1 (by assumption) ?_)))

/-- a clock's distance -/
def dist (c : Nat) (hv mv : Int) : Int := if c = 45 then -(3600 * hv + 60 * mv) else 3600 * hv + 60 * mv
set_option maxHeartbeats 2000000 in
theorem off (w : World) (x : Str) (tn : Tok) (c n p : Nat) (G : Sre.M) (hv mv : Int) (k : Clock w x c n p G hv mv) (h0 : 0 ≤ hv) (h1 : hv < 100) (m0 : 0 ≤ mv) (m1 : mv < 100) (s : Shared) (Q : Value → Shared → Prop)
   (hret : ∀ t h' tk', Keeps s.heap h' → Q (.int (dist c hv mv) t) { s with heap := h', toks := tk' }) : Calls w 6 40 44 [.str x tn] [] s Q := by
  walk_at "my_open"
  k_steps
  · rename c = 45 => hc
    have e : dist c hv mv = -(3600 * hv + 60 * mv) := if_pos hc
    rw [← e]
    exact hret _ _ _ (keeps_of0 (by assumption) (by assumption))
  · rename ¬ c = 45 => hc
    have e : dist c hv mv = 3600 * hv + 60 * mv := if_neg hc
    rw [← e]
    exact hret _ _ _ (keeps_of0 (by assumption) (by assumption))
section
variable {w : World} {mean : ExcName → Option Value} {mg mb : Str → Option Value} {dp un : Nat} {gd : Option (List Code)} {cn : Str} {cs : Scope} {fa : Addr} {ccd : Value} {cl : List (Str × Addr)} {outer : List Env} {A₀ : Around} {base h₀ : Heap} {L : Addr} {m : Str → Option Value}
  {s : Shared} {Q E : Value → Shared → Prop} {news : List (Addr × Obj)} {x : Str} {tn : Tok} {c n p : Nat} {G : Sre.M} {hv mv : Int}
theorem use_off (B : Below A₀ base outer h₀) (F : Fr h₀ L s.heap m) (X : (zh.heap_39 w.params).In h₀) (T : Top topProg loo mean mg mb h₀) (hk : cs.kind = .function) (C1 : CodeHd base 71 67) (C2 : CodeHd base 64 60) (hd : dp + 6 < recursionLimit) (hu : un + 40 < cLine)
    (N : News h₀ L s.heap news) (k : Clock w x c n p G hv mv) (h0 : 0 ≤ hv) (h1 : hv < 100) (m0 : 0 ≤ mv) (m1 : mv < 100) (h : ∀ t h' tk', Fr h₀ L h' m → News h₀ L h' news → Q (.int (dist c hv mv) t) { s with heap := h', toks := tk' }) :
    wpAny (model prog w) (ktrTop dp un gd cn cs L fa ccd cl outer) (call (.ref 44) [.str x tn]) Q E s :=
  off w x tn c n p G hv mv k h0 h1 m0 m1 s Q (fun t h' tk' k => h t h' tk' (fr_keeps F k) (news_keeps N k)) _ _ _ _ _ _ _ _ _ _ _ _ _ _ _ _ _ _ B F X T hk C1 C2 hd hu News.nil
end
end Mine
end

/-! P61 -/
section
namespace Mine

theorem fig_num_fin : ∀ n : Fin 100, PySem.intText? (fig ((n : Nat) : Int)) = some ((n : Nat) : Int) := by decide +kernel
theorem fig_num {n : Int} (h0 : 0 ≤ n) (h1 : n < 100) : PySem.intText? (fig n) = some n := by
  obtain ⟨k, rfl⟩ := Int.eq_ofNat_of_zero_le h0
  exact fig_num_fin ⟨k, by omega⟩
theorem isDig {d : Nat} (h : d < 10) : Sre.isDigit (48 + d) = true := by
  simp only [Sre.isDigit, Bool.and_eq_true, decide_eq_true_eq]
  omega
theorem fig_dig {n : Int} (h0 : 0 ≤ n) (h1 : n < 100) : Sre.isDigit (48 + (n / 10).toNat) = true ∧ Sre.isDigit (48 + (n % 10).toNat) = true := ⟨isDig (by omega), isDig (by omega)⟩

theorem clock_rp (w : World) {hv mv : Int} (h0 : 0 ≤ hv) (h1 : hv < 100) (m0 : 0 ≤ mv) (m1 : mv < 100) : Clock w ⟨#[43, 48 + (hv / 10).toNat, 48 + (hv % 10).toNat, 48 + (mv / 10).toNat, 48 + (mv % 10).toNat]⟩ 43 5 3 (rp9 (48 + (hv / 10).toNat) (48 + (hv % 10).toNat) (48 + (mv / 10).toNat) (48 + (mv % 10).toNat)) hv mv := by
  obtain ⟨o, k, l, i, s, d⟩ := rp_end (d1 := 48 + (hv / 10).toNat) (d2 := 48 + (hv % 10).toNat) (d3 := 48 + (mv / 10).toNat) (d4 := 48 + (mv % 10).toNat)
  exact {
    zones := by kernel_rfl!
    size := rfl
    small := by decide
    le := by decide
    run := rp_run (fig_dig h0 h1).1 (fig_dig h0 h1).2 (fig_dig m0 m1).1 (fig_dig m0 m1).2
    out := o
    marks := k
    last := l
    lasti := i
    start := s
    handed := d
    g1 := rfl
    g2 := (congrArg PySem.intText? (show _ = fig hv from rfl)).trans (fig_num h0 h1)
    g3 := (congrArg PySem.intText? (show _ = fig mv from rfl)).trans (fig_num m0 m1)
    g3e := rfl }

theorem clock_rm (w : World) {hv mv : Int} (h0 : 0 ≤ hv) (h1 : hv < 100) (m0 : 0 ≤ mv) (m1 : mv < 100) : Clock w ⟨#[45, 48 + (hv / 10).toNat, 48 + (hv % 10).toNat, 48 + (mv / 10).toNat, 48 + (mv % 10).toNat]⟩ 45 5 3 (rm9 (48 + (hv / 10).toNat) (48 + (hv % 10).toNat) (48 + (mv / 10).toNat) (48 + (mv % 10).toNat)) hv mv := by
  obtain ⟨o, k, l, i, s, d⟩ := rm_end (d1 := 48 + (hv / 10).toNat) (d2 := 48 + (hv % 10).toNat) (d3 := 48 + (mv / 10).toNat) (d4 := 48 + (mv % 10).toNat)
  exact {
    zones := by kernel_rfl!
    size := rfl
    small := by decide
    le := by decide
    run := rm_run (fig_dig h0 h1).1 (fig_dig h0 h1).2 (fig_dig m0 m1).1 (fig_dig m0 m1).2
    out := o
    marks := k
    last := l
    lasti := i
    start := s
    handed := d
    g1 := rfl
    g2 := (congrArg PySem.intText? (show _ = fig hv from rfl)).trans (fig_num h0 h1)
    g3 := (congrArg PySem.intText? (show _ = fig mv from rfl)).trans (fig_num m0 m1)
    g3e := rfl }

theorem clock_cp (w : World) {hv mv : Int} (h0 : 0 ≤ hv) (h1 : hv < 100) (m0 : 0 ≤ mv) (m1 : mv < 100) : Clock w ⟨#[43, 48 + (hv / 10).toNat, 48 + (hv % 10).toNat, 58, 48 + (mv / 10).toNat, 48 + (mv % 10).toNat]⟩ 43 6 4 (cp9 (48 + (hv / 10).toNat) (48 + (hv % 10).toNat) (48 + (mv / 10).toNat) (48 + (mv % 10).toNat)) hv mv := by
  obtain ⟨o, k, l, i, s, d⟩ := cp_end (d1 := 48 + (hv / 10).toNat) (d2 := 48 + (hv % 10).toNat) (d3 := 48 + (mv / 10).toNat) (d4 := 48 + (mv % 10).toNat)
  exact {
    zones := by kernel_rfl!
    size := rfl
    small := by decide
    le := by decide
    run := cp_run (fig_dig h0 h1).1 (fig_dig h0 h1).2 (fig_dig m0 m1).1 (fig_dig m0 m1).2
    out := o
    marks := k
    last := l
    lasti := i
    start := s
    handed := d
    g1 := rfl
    g2 := (congrArg PySem.intText? (show _ = fig hv from rfl)).trans (fig_num h0 h1)
    g3 := (congrArg PySem.intText? (show _ = fig mv from rfl)).trans (fig_num m0 m1)
    g3e := rfl }

theorem clock_cm (w : World) {hv mv : Int} (h0 : 0 ≤ hv) (h1 : hv < 100) (m0 : 0 ≤ mv) (m1 : mv < 100) : Clock w ⟨#[45, 48 + (hv / 10).toNat, 48 + (hv % 10).toNat, 58, 48 + (mv / 10).toNat, 48 + (mv % 10).toNat]⟩ 45 6 4 (cm9 (48 + (hv / 10).toNat) (48 + (hv % 10).toNat) (48 + (mv / 10).toNat) (48 + (mv % 10).toNat)) hv mv := by
  obtain ⟨o, k, l, i, s, d⟩ := cm_end (d1 := 48 + (hv / 10).toNat) (d2 := 48 + (hv % 10).toNat) (d3 := 48 + (mv / 10).toNat) (d4 := 48 + (mv % 10).toNat)
  exact {
    zones := by kernel_rfl!
    size := rfl
    small := by decide
    le := by decide
    run := cm_run (fig_dig h0 h1).1 (fig_dig h0 h1).2 (fig_dig m0 m1).1 (fig_dig m0 m1).2
    out := o
    marks := k
    last := l
    lasti := i
    start := s
    handed := d
    g1 := rfl
    g2 := (congrArg PySem.intText? (show _ = fig hv from rfl)).trans (fig_num h0 h1)
    g3 := (congrArg PySem.intText? (show _ = fig mv from rfl)).trans (fig_num m0 m1)
    g3e := rfl }
end Mine
end

/-! P62 -/
section
namespace Mine

section
variable {w : World} {A : Around} {E : Value → Shared → Prop} {s : Shared} {h₀ : Heap} {L : Addr} {m : Str → Option Value} {t : Tok}
theorem c_none {Q : Value → Shared → Prop} (F : Fr h₀ L s.heap m) (X : (zh.heap_39 w.params).In h₀) (h : Q .none s) :
    wpAny (model prog w) A (call (.builtin "re.Pattern.search") [.ref 37, .str (Str.ofString "no clock") t]) Q E s := by
  obtain ⟨t1, t2, t3, t4, src, e⟩ := K37 w.params
  exact search_no (F.keep _ _ (X _ _ e)) (F.keep _ _ (X _ _ (K36 w.params))) rfl codeVals_eq h
end
local macro_rules | `(tactic| walk_at "my_enter") => `(tactic| (refine' enter ?k1 ?k2 ?k3 ?k4 ?k5 ?kA ?kF ?kK ?k6 ?k7 ?k8 ?k9 ?kB ?_ ?c2 ?c3 ?c4 ?c5; (case kA => exact rfl); (case kF => exact rfl); (case kK => assumption); (case k1 => k_asm); (case k2 => k_asm); (case k3 => k_asm); (case k4 => k_asm); (case k5 => k_asm); (case k6 => k_is); (case k7 => k_is); (case k8 => ktr_room); (case k9 => exact BindsTo.of_eq rfl); (case c5 => decide); (case kB => exact locs rfl); (case c2 => exact rfl); (case c3 => exact rfl); (case c4 => exact rfl); k_whole; intro g' L' h' Kp' st' hL' F' N' B' X' T'; (try dsimp only); (try k_fold)))
local macro_rules | `(tactic| walk_at "my_open") => `(tactic| (
  intro mean mg mb dp un gd cn cs fa ccd cl outer A₀ base h₀ L m E B F X T hk C1 C2 hdp hun N
  refine wpAny_call ?_
  have hfill : PySem.Challenge.rw_zs0003_01 = PySem.Challenge.rw_zs0003_01 ∧ zh.heap_39 = zh.heap_39 := by
    k_fill
    exact ⟨rfl, rfl⟩
  clear hfill
  w_on
  k_dflt walk_at "my_enter"))
local macro_rules | `(tactic| walk_at "my_def") => `(tactic| (refine' code_def ?k1 ?k2 ?k3 ?k4 ?k5 ?kA ?kF ?kK ?k6 ?k7 ?k8 ?k9 ?kB ?_ ?c2 ?c3 ?c4 ?c5; (case kA => exact rfl); (case kF => exact rfl); (case kK => first | exact rfl | assumption); (case k1 => k_asm); (case k2 => k_asm); (case k3 => k_asm); (case k4 => k_asm); (case k5 => k_asm); (case k6 => k_is); (case k7 => k_is); (case k8 => ktr_room); (case k9 => first | exact BindsTo.of_eq rfl | exact binds_K (by k_in) rfl (by k_is) rfl rfl rfl); (case c5 => decide); (case kB => exact locs rfl); (case c2 => exact rfl); (case c3 => exact rfl); (case c4 => exact rfl); k_whole; intro g' L' h' FG' F' N' B' X' T'; (try have hL' := le_step FG' F' (by assumption)); (try dsimp only); (try k_lift B'); (try k_fold)))
local macro_rules | `(tactic| walk_at "my_defC") => `(tactic| (refine' code_defC ?k1 ?k2 ?k3 ?k4 ?k5 ?kA ?kF ?kK ?k6 ?k7 ?k8 ?k9 ?kB ?kD ?_ ?c2 ?c3 ?c4; (case kA => exact rfl); (case kF => exact rfl); (case kK => first | exact rfl | assumption); (case k1 => k_asm); (case k2 => k_asm); (case k3 => k_asm); (case k4 => k_asm); (case k5 => k_asm); (case k6 => k_is); (case k7 => k_is); (case k8 => ktr_room); (case k9 => first | exact BindsTo.of_eq rfl | exact binds_K (by k_in) rfl (by k_is) rfl rfl rfl); (case kB => exact rfl); (case kD => decide +kernel); (case c2 => exact rfl); (case c3 => exact rfl); (case c4 => exact rfl); k_whole; intro g' L' h' tk' cells' FG' F' N' Y' B' X' T' l1; (try have hL' := le_step FG' F' (by assumption)); (try k_lt l1); k_cells Y'; (try simp only [List.cons_append, List.nil_append] at N'); (try dsimp only); (try k_lift B'); (try k_fold)))
local macro_rules | `(tactic| walk_at "my_nest") => `(tactic| (refine' code_nest ?k1 ?k2 ?k3 ?k4 ?k5 ?kA ?kF ?kK ?k6 ?k7 ?k8 ?k9 ?kB ?_ ?c2 ?c3 ?c4 ?c5; (case kA => exact rfl); (case kF => exact rfl); (case kK => first | exact rfl | assumption); (case k1 => k_asm); (case k2 => k_asm); (case k3 => k_asm); (case k4 => k_asm); (case k5 => k_asm); (case k6 => k_mem); (case k7 => exact codeRec_news (by k_asm) (by k_mem) (by assumption) (by assumption)); (case k8 => ktr_room); (case k9 => exact BindsTo.of_eq rfl); (case c5 => decide); (case kB => exact locs rfl); (case c2 => exact rfl); (case c3 => exact rfl); (case c4 => exact rfl); k_whole; intro g' L' h' FG' F' N' B' X' T'; (try dsimp only); (try k_lift B'); (try k_fold)))
local macro_rules | `(tactic| walk_at "call ref") => `(tactic| (k_here; k_dflt (refine wpAny_call ?_; first | walk_at "my_def" | walk_at "my_defC" | walk_at "my_nest")))
local macro_rules | `(tactic| walk_at "getMethod ref") => `(tactic| (k_here; k_dflt (refine' m_search ?F ?X ?_; (case F => k_asm); (case X => k_asm); k_whole)))
local macro_rules | `(tactic| walk_at "call builtin:re.Pattern.search") => `(tactic| (k_here; k_dflt (refine' c_none ?F ?X ?_; (case F => k_asm); (case X => k_asm); k_whole)))

set_option maxHeartbeats 2000000 in
theorem off_utc (w : World) (tn : Tok) (s : Shared) (Q : Value → Shared → Prop) (hret : ∀ t h' tk', Keeps s.heap h' → Q (.int 0 t) { s with heap := h', toks := tk' }) : Calls w 6 40 44 [.str (Str.ofString "UTC") tn] [] s Q := by
  walk_at "my_open"
  k_steps
  exact hret _ _ _ (keeps_of0 (by assumption) (by assumption))
set_option maxHeartbeats 2000000 in
theorem off_none (w : World) (tn : Tok) (s : Shared) (Q : Value → Shared → Prop) (hret : ∀ h' tk', Keeps s.heap h' → Q .none { s with heap := h', toks := tk' }) : Calls w 6 40 44 [.str (Str.ofString "no clock") tn] [] s Q := by
  walk_at "my_open"
  k_steps
  exact hret _ _ (keeps_of0 (by assumption) (by assumption))
end Mine
end

/-! B1 -/
section
namespace Mine
section
variable {prog : Program} {w : World} {A : Around} {E : Value → Shared → Prop} {s : Shared} {a b : Addr} {x1 x2 y1 y2 : Int} {t1 t2 u1 u2 : Tok}
theorem isTup_typeIs {items : Array Value} (h : IsTup s.heap a items) : s.TypeIs (.ref a) "tuple" := let ⟨o, ho, hc, _⟩ := h; ⟨o, ho, hc⟩
theorem tupItems {items : Array Value} {Q : Array Value → Shared → Prop} (h : IsTup s.heap a items) (k : Q items s) : wpAny (model prog w) A (Builtin.Tuple.tupleItemsOf (.ref a)) Q E s := by
  obtain ⟨o, ho, _, n, hd⟩ := h
  exact wpAny_tupleItemsOf ho hd k
theorem tup_lt {Q : Value → Shared → Prop} (ha : IsTup s.heap a #[.int x1 t1, .int x2 t2]) (hb : IsTup s.heap b #[.int y1 u1, .int y2 u2]) (hu : A.units + 8 < cLine) (h : Q (.bool (decide (x1 < y1 ∨ (x1 = y1 ∧ x2 < y2)))) s) :
    wpAny (model prog w) A (compareOp .Lt (.ref a) (.ref b)) Q E s := by
  refine cmp_ofLt ?_
  refine wpAny_richCompare_same_room (isTup_typeIs ha) (isTup_typeIs hb) F.slot_tuple_lt ?_ (by omega)
  refine wpAny_call_entry F.slot_tuple_lt (isTup_typeIs ha) F.entry_tuple_lt ?_ (F.args_tuple_lt_2 _ _)
  show wpAny _ _ (isInstance (.ref b) (.type "tuple") >>= _) _ _ s
  refine wpAny_bind (wpAny_isInstance (isTup_typeIs hb) isSubtype_tuple_tuple ?_)
  simp only [Bool.not_true, Bool.false_eq_true, if_false]
  refine wpAny_bind (tupItems ha ?_)
  refine wpAny_bind (tupItems hb ?_)
  refine wpAny_bind ?_
  show wpAny _ _ (forIn [(Value.int x1 t1, Value.int y1 u1), (Value.int x2 t2, Value.int y2 u2)] _ _) _ _ s
  rw [List.forIn_cons]
  refine wpAny_bind ?_
  dsimp only
  refine wpAny_bind (wpAny_eqBool_int ?_)
  by_cases h1 : x1 = y1
  · subst h1
    rw [beq_self_eq_true]
    simp only [Bool.not_true, Bool.false_eq_true, if_false]
    refine wpAny_pure ?_
    dsimp only
    rw [List.forIn_cons]
    refine wpAny_bind ?_
    refine wpAny_bind (wpAny_eqBool_int ?_)
    by_cases h2 : x2 = y2
    · subst h2
      rw [beq_self_eq_true]
      simp only [Bool.not_true, Bool.false_eq_true, if_false]
      refine wpAny_pure ?_
      dsimp only
      rw [List.forIn_nil]
      refine wpAny_pure ?_
      have e : decide (x1 < x1 ∨ x1 = x1 ∧ x2 < x2) = false := decide_eq_false (by omega)
      rw [e] at h
      exact wpAny_pure ⟨_, rfl, (fun e => nomatch e), h⟩
    · rw [beq_eq_false_iff_ne.mpr h2]
      simp only [Bool.not_false, if_true]
      refine wpAny_bind (wpAny_rule ?_)
      refine wpAny_bind (show wpAny _ _ (compareOp .Lt (.int x2 t2) (.int y2 u2)) _ _ _ from P.lt_int ?_)
      refine wpAny_bind (wpAny_pure (wpAny_pure (wpAny_pure ?_)))
      have e : decide (x1 < x1 ∨ x1 = x1 ∧ x2 < y2) = decide (x2 < y2) := by
        by_cases q : x2 < y2
        · rw [decide_eq_true q]; exact decide_eq_true (by omega)
        · rw [decide_eq_false q]; exact decide_eq_false (by omega)
      rw [e] at h
      exact wpAny_pure ⟨_, rfl, (fun e => nomatch e), h⟩
  · rw [beq_eq_false_iff_ne.mpr h1]
    simp only [Bool.not_false, if_true]
    refine wpAny_bind (wpAny_rule ?_)
    refine wpAny_bind (show wpAny _ _ (compareOp .Lt (.int x1 t1) (.int y1 u1)) _ _ _ from P.lt_int ?_)
    refine wpAny_bind (wpAny_pure (wpAny_pure (wpAny_pure ?_)))
    have e : decide (x1 < y1 ∨ x1 = y1 ∧ x2 < y2) = decide (x1 < y1) := by
      by_cases q : x1 < y1
      · rw [decide_eq_true q]; exact decide_eq_true (by omega)
      · rw [decide_eq_false q]; exact decide_eq_false (by omega)
    rw [e] at h
    exact wpAny_pure ⟨_, rfl, (fun e => nomatch e), h⟩
end
end Mine
end

/-! B2 -/
section
namespace Mine
/-- the walk stands here -/
def Stop (P : Prop) : Prop := P
theorem Stop.out {P : Prop} (h : Stop P) : P := h
theorem Stop.mk {P : Prop} (h : P) : Stop P := h

theorem fr_pin {h₀ h : Heap} {L : Addr} {m : Str → Option Value} {x : Str} {v : Value} (F : Fr h₀ L h m) (e : m x = some v) : Fr h₀ L h (fun y => if y = x then some v else m y) := by
  have e2 : (fun y => if y = x then some v else m y) = m := by
    funext y
    by_cases q : y = x
    · rw [if_pos q, q, e]
    · rw [if_neg q]
  rw [e2]; exact F

/-- pairs of ints in their order -/
abbrev plt (p q : Int × Int) : Prop := p.1 < q.1 ∨ (p.1 = q.1 ∧ p.2 < q.2)
theorem plt_trans {p q r : Int × Int} (h : plt p q) (k : plt q r) : plt p r := by
  unfold plt at *; omega
theorem plt_of_not {p q r : Int × Int} (h : ¬ plt q p) (k : plt q r) : plt p r := by
  unfold plt at *; omega
theorem not_plt_of {p q r : Int × Int} (h : ¬ plt q p) (k : ¬ plt p r) : ¬ plt q r := by
  unfold plt at *; omega
/-- a tuple of two ints -/
def PairAt (h : Heap) (v : Value) (p : Int × Int) : Prop := ∃ a t u, v = .ref a ∧ IsTup h a #[.int p.1 t, .int p.2 u]
def PairsAt (h : Heap) (vs : List Value) (ps : List (Int × Int)) : Prop := vs.length = ps.length ∧ ∀ (i : Nat) v, vs[i]? = some v → ∃ p, ps[i]? = some p ∧ PairAt h v p
theorem PairAt.keeps {h h' : Heap} {v : Value} {p : Int × Int} (x : PairAt h v p) (k : h.StaysIn h') : PairAt h' v p := let ⟨a, t, u, e, i⟩ := x; ⟨a, t, u, e, i.keeps k⟩
theorem PairsAt.keeps {h h' : Heap} {vs : List Value} {ps : List (Int × Int)} (x : PairsAt h vs ps) (k : h.StaysIn h') : PairsAt h' vs ps := ⟨x.1, fun i v e => let ⟨p, a, b⟩ := x.2 i v e; ⟨p, a, b.keeps k⟩⟩
theorem PairsAt.get {h : Heap} {vs : List Value} {ps : List (Int × Int)} (x : PairsAt h vs ps) {i : Nat} (hi : i < ps.length) : ∃ a t u p, vs[i]? = some (.ref a) ∧ ps[i]? = some p ∧ IsTup h a #[.int p.1 t, .int p.2 u] := by
  have hv : i < vs.length := by rw [x.1]; exact hi
  obtain ⟨p, hp, a, t, u, e, k⟩ := x.2 i vs[i] (List.getElem?_eq_getElem hv)
  exact ⟨a, t, u, p, by rw [List.getElem?_eq_getElem hv, e], hp, k⟩
/-- none is followed by a smaller one -/
def Sorted (ps : List (Int × Int)) : Prop := ∀ (i j : Nat) p q, i < j → ps[i]? = some p → ps[j]? = some q → ¬ plt q p

section
variable {prog : Program} {w : World} {A : Around} {E : Value → Shared → Prop} {s : Shared} {h₀ : Heap} {L : Addr} {m : Str → Option Value} {l : Addr} {vs : List Value}
theorem len_at {Q : Value → Shared → Prop} (F : Fr h₀ L s.heap m) (hl : h₀.IsList l vs.toArray) (hn : vs.length ≤ 63) (h : Q (.int vs.length (s.toks + 1)) { s with toks := s.toks + 1 + 1 }) :
    wpAny (model prog w) A (call (.builtin "len") [.ref l]) Q E s := by
  refine len_list (hl.at fun o e => F.keep l o e) (by rw [List.size_toArray]; omega) ?_
  rw [List.size_toArray]; exact h
theorem item_at {value slice : Expr} {k : Int} {u : Tok} {v : Value} {Q : Value → Shared → Prop} (F : Fr h₀ L s.heap m) (hl : h₀.IsList l vs.toArray) (h0 : 0 ≤ k) (hk : k < 2 ^ 62) (hx : vs[k.toNat]? = some v) (h : Q v s)
    (hs : subscripted slice false (.ref l) (.int k u) = operate [.ref l, .int k u] (getItem (.ref l) (.int k u)) := by with_unfolding_all rfl) (hg : ∀ r, letTemporaryGo value (.ref l) r = pure () := by intro _; with_unfolding_all rfl) :
    wpAny (model prog w) A (subscriptTail value slice (.ref l) (.int k u)) Q E s :=
  item_list (hl.at fun o e => F.keep l o e) h0 (by omega) (by simpa using hx) h hs hg
theorem item_pair {value slice : Expr} {k : Int} {u : Tok} {ps : List (Int × Int)} {Q : Value → Shared → Prop} (F : Fr h₀ L s.heap m) (hl : h₀.IsList l vs.toArray) (hn : vs.length ≤ 63) (hp : PairsAt h₀ vs ps) (h0 : 0 ≤ k) (hk : k < vs.length)
    (h : ∀ a t1 t2 p, ps[k.toNat]? = some p → IsTup h₀ a #[.int p.1 t1, .int p.2 t2] → Q (.ref a) s)
    (hs : subscripted slice false (.ref l) (.int k u) = operate [.ref l, .int k u] (getItem (.ref l) (.int k u)) := by with_unfolding_all rfl) (hg : ∀ r, letTemporaryGo value (.ref l) r = pure () := by intro _; with_unfolding_all rfl) :
    wpAny (model prog w) A (subscriptTail value slice (.ref l) (.int k u)) Q E s := by
  have := hp.1
  obtain ⟨a, t1, t2, p, e1, e2, e3⟩ := hp.get (i := k.toNat) (by omega)
  exact item_at F hl h0 (by omega) e1 (h a t1 t2 p e2 e3) hs hg
theorem lt_at {a b : Addr} {p q : Int × Int} {t1 t2 u1 u2 : Tok} {Q : Value → Shared → Prop} (F : Fr h₀ L s.heap m) (ha : IsTup h₀ a #[.int p.1 t1, .int p.2 t2]) (hb : IsTup h₀ b #[.int q.1 u1, .int q.2 u2]) (hu : A.units + 8 < cLine) (h : Q (.bool (decide (plt p q))) s) :
    wpAny (model prog w) A (compareOp .Lt (.ref a) (.ref b)) Q E s := tup_lt (ha.keeps F.keep) (hb.keeps F.keep) hu h
end
end Mine
end

/-! P8 -/
section
namespace Mine
local macro_rules | `(tactic| walk_at "my_enter") => `(tactic| (refine' enter ?k1 ?k2 ?k3 ?k4 ?k5 ?kA ?kF ?kK ?k6 ?k7 ?k8 ?k9 ?kB ?_ ?c2 ?c3 ?c4 ?c5; (case kA => exact rfl); (case kF => exact rfl); (case kK => assumption); (case k1 => k_asm); (case k2 => k_asm); (case k3 => k_asm); (case k4 => k_asm); (case k5 => k_asm); (case k6 => k_is); (case k7 => k_is); (case k8 => ktr_room); (case k9 => first | exact BindsTo.of_eq rfl | (refine' kp_binds ?kx ?ke; (case kx => k_in); (case ke => exact fun _ => rfl))); (case c5 => decide); (case kB => exact locs rfl); (case c2 => exact rfl); (case c3 => exact rfl); (case c4 => exact rfl); k_whole; intro g' L' h' Kp' st' hL' F' N' B' X' T'; (try dsimp only); (try k_fold)))
local macro_rules | `(tactic| walk_at "my_open") => `(tactic| (
  intro mean mg mb dp un gd cn cs fa ccd cl outer A₀ base h₀ L m E B F X T hk C1 C2 hdp hun N
  refine wpAny_call ?_
  have hfill : PySem.Challenge.rw_zs0003_01 = PySem.Challenge.rw_zs0003_01 ∧ zh.heap_39 = zh.heap_39 := by
    k_fill
    exact ⟨rfl, rfl⟩
  clear hfill
  w_on
  k_dflt walk_at "my_enter"))
local macro_rules | `(tactic| walk_at "my_def") => `(tactic| (refine' code_def ?k1 ?k2 ?k3 ?k4 ?k5 ?kA ?kF ?kK ?k6 ?k7 ?k8 ?k9 ?kB ?_ ?c2 ?c3 ?c4 ?c5; (case kA => exact rfl); (case kF => exact rfl); (case kK => first | exact rfl | assumption); (case k1 => k_asm); (case k2 => k_asm); (case k3 => k_asm); (case k4 => k_asm); (case k5 => k_asm); (case k6 => k_is); (case k7 => k_is); (case k8 => ktr_room); (case k9 => first | exact BindsTo.of_eq rfl | (refine' kp_binds ?kx ?ke; (case kx => k_in); (case ke => exact fun _ => rfl))); (case c5 => decide); (case kB => exact locs rfl); (case c2 => exact rfl); (case c3 => exact rfl); (case c4 => exact rfl); k_whole; intro g' L' h' FG' F' N' B' X' T'; (try have hL' := le_step FG' F' (by assumption)); (try dsimp only); (try k_lift B'); (try k_fold)))
local macro_rules | `(tactic| walk_at "my_defC") => `(tactic| (refine' code_defC ?k1 ?k2 ?k3 ?k4 ?k5 ?kA ?kF ?kK ?k6 ?k7 ?k8 ?k9 ?kB ?kD ?_ ?c2 ?c3 ?c4; (case kA => exact rfl); (case kF => exact rfl); (case kK => first | exact rfl | assumption); (case k1 => k_asm); (case k2 => k_asm); (case k3 => k_asm); (case k4 => k_asm); (case k5 => k_asm); (case k6 => k_is); (case k7 => k_is); (case k8 => ktr_room); (case k9 => first | exact BindsTo.of_eq rfl | (refine' kp_binds ?kx ?ke; (case kx => k_in); (case ke => exact fun _ => rfl))); (case kB => exact rfl); (case kD => decide +kernel); (case c2 => exact rfl); (case c3 => exact rfl); (case c4 => exact rfl); k_whole; intro g' L' h' tk' cells' FG' F' N' Y' B' X' T' l1; (try have hL' := le_step FG' F' (by assumption)); (try k_lt l1); k_cells Y'; (try simp only [List.cons_append, List.nil_append] at N'); (try dsimp only); (try k_lift B'); (try k_fold)))
local macro_rules | `(tactic| walk_at "my_nest") => `(tactic| (refine' code_nest ?k1 ?k2 ?k3 ?k4 ?k5 ?kA ?kF ?kK ?k6 ?k7 ?k8 ?k9 ?kB ?_ ?c2 ?c3 ?c4 ?c5; (case kA => exact rfl); (case kF => exact rfl); (case kK => first | exact rfl | assumption); (case k1 => k_asm); (case k2 => k_asm); (case k3 => k_asm); (case k4 => k_asm); (case k5 => k_asm); (case k6 => k_mem); (case k7 => exact codeRec_news (by k_asm) (by k_mem) (by assumption) (by assumption)); (case k8 => ktr_room); (case k9 => exact BindsTo.of_eq rfl); (case c5 => decide); (case kB => exact locs rfl); (case c2 => exact rfl); (case c3 => exact rfl); (case c4 => exact rfl); k_whole; intro g' L' h' FG' F' N' B' X' T'; (try dsimp only); (try k_lift B'); (try k_fold)))
local macro_rules | `(tactic| walk_at "call ref") => `(tactic| (k_here; k_dflt (refine wpAny_call ?_; first | walk_at "my_def" | walk_at "my_defC" | walk_at "my_nest")))
local macro_rules | `(tactic| walk_at "exec While") => `(tactic| (k_here; refine Stop.out ?_))
local macro_rules | `(tactic| walk_at "call builtin:len") => `(tactic| (k_here; k_dflt (refine' len_at ?F ?l ?n ?_; (case F => k_asm); (case l => assumption); (case n => omega); k_whole)))
local macro_rules | `(tactic| walk_at "storeName") => `(tactic| (k_here; (with_reducible show wpAny _ _ (storeName _ _ (Value.int (Int.fdiv _ _) _)) _ _ _); rw [show ∀ x : Int, x.fdiv 2 = x / 2 from fun x => Int.fdiv_eq_ediv_of_nonneg _ (by decide)]))
local macro_rules | `(tactic| walk_at "subscriptTail") => `(tactic| (k_here; (with_reducible show wpAny _ _ (subscriptTail _ _ (Value.ref _) (Value.int _ _)) _ _ _); k_dflt (refine' item_pair ?F ?l ?n ?p ?a ?b ?_; (case F => k_asm); (case l => assumption); (case n => omega); (case p => assumption); (case a => omega); (case b => omega); k_whole); intro a9 t9 u9 p9 e9 i9))
local macro_rules | `(tactic| walk_at "compareOp Lt ref ref") => `(tactic| (k_here; k_dflt (refine' lt_at ?F ?a ?b ?u ?_; (case F => k_asm); (case a => assumption); (case b => assumption); (case u => first | units_room | ktr_units); k_whole)))

set_option maxHeartbeats 2000000 in
theorem bis (w : World) (l x : Addr) (tl : Tok) (vs : List Value) (ps : List (Int × Int)) (q : Int × Int) (t1 t2 : Tok) (s : Shared) (Q : Value → Shared → Prop) (hl : s.heap.IsList l vs.toArray) (hn : vs.length ≤ 10) (hp : PairsAt s.heap vs ps) (hs : Sorted ps)
   (hx : IsTup s.heap x #[.int q.1 t1, .int q.2 t2])
   (hret : ∀ r : Nat, r ≤ ps.length → (∀ i p, i < r → ps[i]? = some p → plt p q) → (∀ i p, r ≤ i → ps[i]? = some p → ¬ plt p q) → ∀ t h' tk', Keeps s.heap h' → Q (.int r t) { s with heap := h', toks := tk' }) : Calls w 6 60 104 [.ref l, .ref x, .int 0 tl, .none] [] s Q := by
  walk_at "my_open"
  rename KeepsBut _ s.heap _ => hK
  have k9 : s.heap.StaysIn _ := fun b o e => hK b o List.not_mem_nil e
  have hl' := stays_list k9 hl
  have hp' := hp.keeps k9
  have hx' := stays_tup k9 hx
  clear hl hp hx
  k_steps
  rename Fr _ _ _ _ => F9
  rename News _ _ _ _ => N9
  refine Stop.mk ?_
  have hpl := hp'.1
  refine While_inv (fun n m₁ news₁ => news₁ = [] ∧ ∃ (lo hi : Nat) (ta tb : Tok), m₁ (Str.ofString "a") = some (.ref l) ∧ m₁ (Str.ofString "x") = some (.ref x) ∧ m₁ (Str.ofString "lo") = some (.int lo ta) ∧ m₁ (Str.ofString "hi") = some (.int hi tb) ∧ lo ≤ hi ∧ hi ≤ vs.length ∧ n = hi - lo ∧ (∀ i p, i < lo → ps[i]? = some p → plt p q) ∧ (∀ i p, hi ≤ i → ps[i]? = some p → ¬ plt p q))
    F9 N9 ⟨rfl, 0, vs.length, _, _, rfl, rfl, rfl, rfl, Nat.zero_le _, Nat.le_refl _, rfl, fun i p hi => absurd hi (Nat.not_lt_zero i), fun i p hi e => absurd (List.getElem?_eq_some_iff.mp e).1 (by omega)⟩ ?_
  clear F9 N9
  rintro n m₁ news₁ h₁ tk₁ F₁ N₁ ⟨rfl, lo, hi, ta, tb, ea, ex, el, eh, h1, h2, rfl, hlo, hhi⟩
  have F₂ := fr_pin (fr_pin (fr_pin (fr_pin F₁ ea) ((if_neg (by decide)).trans ex)) ((if_neg (by decide)).trans ((if_neg (by decide)).trans el))) ((if_neg (by decide)).trans ((if_neg (by decide)).trans ((if_neg (by decide)).trans eh)))
  clear F₁ ea ex el eh
  k_steps
  · rename Fr _ _ _ _ => F9
    rename News _ _ _ _ => N9
    rename plt _ _ => hlt
    rename _ = some _ => e9
    obtain ⟨md, hmd⟩ : ∃ md : Nat, ((lo : Int) + (hi : Int)) / 2 = (md : Int) := ⟨(lo + hi) / 2, by omega⟩
    rw [hmd] at F9 e9
    rw [Int.toNat_natCast] at e9
    refine WhileStep.intro F9 N9 (n' := hi - (md + 1)) (by omega) ⟨rfl, md + 1, hi, _, _, rfl, rfl, rfl, rfl, by omega, h2, rfl, fun i p h e => ?_, hhi⟩
    by_cases hi' : i = md
    · subst hi'
      rw [e9] at e
      cases e
      exact hlt
    · exact plt_of_not (hs i md _ _ (by omega) e e9) hlt
  · rename Fr _ _ _ _ => F9
    rename News _ _ _ _ => N9
    rename ¬ plt _ _ => hlt
    rename _ = some _ => e9
    obtain ⟨md, hmd⟩ : ∃ md : Nat, ((lo : Int) + (hi : Int)) / 2 = (md : Int) := ⟨(lo + hi) / 2, by omega⟩
    rw [hmd] at F9 e9
    rw [Int.toNat_natCast] at e9
    refine WhileStep.intro F9 N9 (n' := md - lo) (by omega) ⟨rfl, lo, md, _, _, rfl, rfl, rfl, rfl, by omega, by omega, rfl, hlo, fun i p h e => ?_⟩
    by_cases hi' : i = md
    · subst hi'
      rw [e9] at e
      cases e
      exact hlt
    · exact fun c => hlt (plt_of_not (hs md i _ _ (by omega) e9 e) c)
  · have e9 : lo = hi := by omega
    subst e9
    exact hret lo (by omega) hlo hhi _ _ _ (fun b o e => F₂.keep b o (k9 b o e))

set_option maxHeartbeats 2000000 in
theorem bis2 (w : World) (l x : Addr) (vs : List Value) (ps : List (Int × Int)) (q : Int × Int) (t1 t2 : Tok) (s : Shared) (Q : Value → Shared → Prop) (hl : s.heap.IsList l vs.toArray) (hn : vs.length ≤ 10) (hp : PairsAt s.heap vs ps) (hs : Sorted ps)
   (hx : IsTup s.heap x #[.int q.1 t1, .int q.2 t2])
   (hret : ∀ r : Nat, r ≤ ps.length → (∀ i p, i < r → ps[i]? = some p → plt p q) → (∀ i p, r ≤ i → ps[i]? = some p → ¬ plt p q) → ∀ t h' tk', Keeps s.heap h' → Q (.int r t) { s with heap := h', toks := tk' }) : Calls w 6 60 104 [.ref l, .ref x] [] s Q := by
  walk_at "my_open"
  rename KeepsBut _ s.heap _ => hK
  have k9 : s.heap.StaysIn _ := fun b o e => hK b o List.not_mem_nil e
  have hl' := stays_list k9 hl
  have hp' := hp.keeps k9
  have hx' := stays_tup k9 hx
  clear hl hp hx
  k_steps
  rename Fr _ _ _ _ => F9
  rename News _ _ _ _ => N9
  refine Stop.mk ?_
  have hpl := hp'.1
  refine While_inv (fun n m₁ news₁ => news₁ = [] ∧ ∃ (lo hi : Nat) (ta tb : Tok), m₁ (Str.ofString "a") = some (.ref l) ∧ m₁ (Str.ofString "x") = some (.ref x) ∧ m₁ (Str.ofString "lo") = some (.int lo ta) ∧ m₁ (Str.ofString "hi") = some (.int hi tb) ∧ lo ≤ hi ∧ hi ≤ vs.length ∧ n = hi - lo ∧ (∀ i p, i < lo → ps[i]? = some p → plt p q) ∧ (∀ i p, hi ≤ i → ps[i]? = some p → ¬ plt p q))
    F9 N9 ⟨rfl, 0, vs.length, _, _, rfl, rfl, rfl, rfl, Nat.zero_le _, Nat.le_refl _, rfl, fun i p hi => absurd hi (Nat.not_lt_zero i), fun i p hi e => absurd (List.getElem?_eq_some_iff.mp e).1 (by omega)⟩ ?_
  clear F9 N9
  rintro n m₁ news₁ h₁ tk₁ F₁ N₁ ⟨rfl, lo, hi, ta, tb, ea, ex, el, eh, h1, h2, rfl, hlo, hhi⟩
  have F₂ := fr_pin (fr_pin (fr_pin (fr_pin F₁ ea) ((if_neg (by decide)).trans ex)) ((if_neg (by decide)).trans ((if_neg (by decide)).trans el))) ((if_neg (by decide)).trans ((if_neg (by decide)).trans ((if_neg (by decide)).trans eh)))
  clear F₁ ea ex el eh
  k_steps
  · rename Fr _ _ _ _ => F9
    rename News _ _ _ _ => N9
    rename plt _ _ => hlt
    rename _ = some _ => e9
    obtain ⟨md, hmd⟩ : ∃ md : Nat, ((lo : Int) + (hi : Int)) / 2 = (md : Int) := ⟨(lo + hi) / 2, by omega⟩
    rw [hmd] at F9 e9
    rw [Int.toNat_natCast] at e9
    refine WhileStep.intro F9 N9 (n' := hi - (md + 1)) (by omega) ⟨rfl, md + 1, hi, _, _, rfl, rfl, rfl, rfl, by omega, h2, rfl, fun i p h e => ?_, hhi⟩
    by_cases hi' : i = md
    · subst hi'
      rw [e9] at e
      cases e
      exact hlt
    · exact plt_of_not (hs i md _ _ (by omega) e e9) hlt
  · rename Fr _ _ _ _ => F9
    rename News _ _ _ _ => N9
    rename ¬ plt _ _ => hlt
    rename _ = some _ => e9
    obtain ⟨md, hmd⟩ : ∃ md : Nat, ((lo : Int) + (hi : Int)) / 2 = (md : Int) := ⟨(lo + hi) / 2, by omega⟩
    rw [hmd] at F9 e9
    rw [Int.toNat_natCast] at e9
    refine WhileStep.intro F9 N9 (n' := md - lo) (by omega) ⟨rfl, lo, md, _, _, rfl, rfl, rfl, rfl, by omega, by omega, rfl, hlo, fun i p h e => ?_⟩
    by_cases hi' : i = md
    · subst hi'
      rw [e9] at e
      cases e
      exact hlt
    · exact fun c => hlt (plt_of_not (hs md i _ _ (by omega) e9 e) c)
  · have e9 : lo = hi := by omega
    subst e9
    exact hret lo (by omega) hlo hhi _ _ _ (fun b o e => F₂.keep b o (k9 b o e))

section
variable {w : World} {mean : ExcName → Option Value} {mg mb : Str → Option Value} {dp un : Nat} {gd : Option (List Code)} {cn : Str} {cs : Scope} {fa : Addr} {ccd : Value} {cl : List (Str × Addr)} {outer : List Env} {A₀ : Around} {base h₀ : Heap} {L : Addr} {m : Str → Option Value}
  {s : Shared} {Q E : Value → Shared → Prop} {news : List (Addr × Obj)} {l x : Addr} {tl : Tok} {vs : List Value} {ps : List (Int × Int)} {q : Int × Int} {t1 t2 : Tok}
/-- the place r splits the pairs by q -/
def Cut (ps : List (Int × Int)) (q : Int × Int) (r : Nat) : Prop := r ≤ ps.length ∧ (∀ i p, i < r → ps[i]? = some p → plt p q) ∧ ∀ i p, r ≤ i → ps[i]? = some p → ¬ plt p q
theorem use_bis (B : Below A₀ base outer h₀) (F : Fr h₀ L s.heap m) (X : (zh.heap_39 w.params).In h₀) (T : Top topProg loo mean mg mb h₀) (hk : cs.kind = .function) (C1 : CodeHd base 71 67) (C2 : CodeHd base 64 60) (hd : dp + 6 < recursionLimit) (hu : un + 60 < cLine)
    (N : News h₀ L s.heap news) (hl : s.heap.IsList l vs.toArray) (hn : vs.length ≤ 10) (hp : PairsAt s.heap vs ps) (hs : Sorted ps) (hx : IsTup s.heap x #[.int q.1 t1, .int q.2 t2])
    (h : ∀ r t h' tk', Cut ps q r → Fr h₀ L h' m → News h₀ L h' news → Q (.int (r : Nat) t) { s with heap := h', toks := tk' }) :
    wpAny (model prog w) (ktrTop dp un gd cn cs L fa ccd cl outer) (call (.ref 104) [.ref l, .ref x, .int 0 tl, .none]) Q E s :=
  bis w l x tl vs ps q t1 t2 s Q hl hn hp hs hx (fun r a b c t h' tk' k => h r t h' tk' ⟨a, b, c⟩ (fr_keeps F k) (news_keeps N k)) _ _ _ _ _ _ _ _ _ _ _ _ _ _ _ _ _ _ B F X T hk C1 C2 hd hu News.nil
theorem use_bis2 (B : Below A₀ base outer h₀) (F : Fr h₀ L s.heap m) (X : (zh.heap_39 w.params).In h₀) (T : Top topProg loo mean mg mb h₀) (hk : cs.kind = .function) (C1 : CodeHd base 71 67) (C2 : CodeHd base 64 60) (hd : dp + 6 < recursionLimit) (hu : un + 60 < cLine)
    (N : News h₀ L s.heap news) (hl : s.heap.IsList l vs.toArray) (hn : vs.length ≤ 10) (hp : PairsAt s.heap vs ps) (hs : Sorted ps) (hx : IsTup s.heap x #[.int q.1 t1, .int q.2 t2])
    (h : ∀ r t h' tk', Cut ps q r → Fr h₀ L h' m → News h₀ L h' news → Q (.int (r : Nat) t) { s with heap := h', toks := tk' }) :
    wpAny (model prog w) (ktrTop dp un gd cn cs L fa ccd cl outer) (call (.ref 104) [.ref l, .ref x]) Q E s :=
  bis2 w l x vs ps q t1 t2 s Q hl hn hp hs hx (fun r a b c t h' tk' k => h r t h' tk' ⟨a, b, c⟩ (fr_keeps F k) (news_keeps N k)) _ _ _ _ _ _ _ _ _ _ _ _ _ _ _ _ _ _ B F X T hk C1 C2 hd hu News.nil
end
end Mine
end

/-! P9 -/
section
namespace Mine

theorem PairAt.but {h h' : Heap} {l : Addr} {vs : Array Value} {v : Value} {p : Int × Int} (x : PairAt h v p) (hl : h.IsList l vs) (k : KeepsBut [l] h h') : PairAt h' v p := by
  obtain ⟨a, t, u, rfl, o, ho, hc, r⟩ := x
  obtain ⟨ol, hol, hcl, _⟩ := hl
  refine ⟨a, t, u, rfl, o, k a o (fun hm => ?_) ho, hc, r⟩
  rw [List.mem_singleton.mp hm, hol] at ho
  cases ho
  rw [hcl] at hc
  exact absurd (Value.type.inj hc) (by decide)
theorem PairsAt.but {h h' : Heap} {l : Addr} {ws : Array Value} {vs : List Value} {ps : List (Int × Int)} (x : PairsAt h vs ps) (hl : h.IsList l ws) (k : KeepsBut [l] h h') : PairsAt h' vs ps := ⟨x.1, fun i v e => let ⟨p, a, b⟩ := x.2 i v e; ⟨p, a, b.but hl k⟩⟩
theorem tup_but {h h' : Heap} {l x : Addr} {vs : Array Value} {a b : Int} {t u : Tok} (i : IsTup h x #[.int a t, .int b u]) (hl : h.IsList l vs) (k : KeepsBut [l] h h') : IsTup h' x #[.int a t, .int b u] := by
  obtain ⟨a', t', u', e, i'⟩ := PairAt.but (p := (a, b)) ⟨x, t, u, rfl, i⟩ hl k
  cases e
  obtain ⟨o, ho, hc, r⟩ := i
  obtain ⟨ol, hol, hcl, _⟩ := hl
  refine ⟨o, k x o (fun hm => ?_) ho, hc, r⟩
  rw [List.mem_singleton.mp hm, hol] at ho
  cases ho
  rw [hcl] at hc
  exact absurd (Value.type.inj hc) (by decide)
section
variable {prog : Program} {w : World} {A : Around} {E : Value → Shared → Prop} {s : Shared} {h₀ : Heap} {L : Addr} {m : Str → Option Value} {l : Addr} {vs : List Value} {nn r : Nat} {x : Value} {u : Tok}
theorem ins_at {Q : Value → Shared → Prop} (F : Fr h₀ L s.heap m) (N : News h₀ L s.heap [(l, W.listOf vs.toArray nn)]) (hr : r ≤ vs.length) (hn : vs.length ≤ 10) (h : ∀ h', Fr h₀ L h' m → News h₀ L h' [(l, W.listOf (vs.take r ++ x :: vs.drop r).toArray (nn + 1))] → Q .none { s with heap := h' }) :
    wpAny (model prog w) A (call (.builtin "list.insert") [.ref l, .int (r : Nat) u, x]) Q E s := by
  refine kl_insert F N ?_ ?_ (Upd.head (fun _ hm => nomatch hm)) ?_ h
  · show (decide _ && decide _) = true
    rw [Bool.and_eq_true, decide_eq_true_eq, decide_eq_true_eq]
    omega
  · unfold kl_ins
    rw [if_neg (by omega), Int.toNat_natCast, Nat.min_eq_left (by simpa using hr)]
  · rw [sizeLine_eq]
    show vs.length ≤ _
    omega
end
local macro_rules | `(tactic| walk_at "my_enter") => `(tactic| (refine' enter ?k1 ?k2 ?k3 ?k4 ?k5 ?kA ?kF ?kK ?k6 ?k7 ?k8 ?k9 ?kB ?_ ?c2 ?c3 ?c4 ?c5; (case kA => exact rfl); (case kF => exact rfl); (case kK => assumption); (case k1 => k_asm); (case k2 => k_asm); (case k3 => k_asm); (case k4 => k_asm); (case k5 => k_asm); (case k6 => k_is); (case k7 => k_is); (case k8 => ktr_room); (case k9 => first | exact BindsTo.of_eq rfl | (refine' kp_binds ?kx ?ke; (case kx => k_in); (case ke => exact fun _ => rfl))); (case c5 => decide); (case kB => exact locs rfl); (case c2 => exact rfl); (case c3 => exact rfl); (case c4 => exact rfl); k_whole; intro g' L' h' Kp' st' hL' F' N' B' X' T'; (try dsimp only); (try k_fold)))
local macro_rules | `(tactic| walk_at "my_open") => `(tactic| (
  intro mean mg mb dp un gd cn cs fa ccd cl outer A₀ base h₀ L m E B F X T hk C1 C2 hdp hun N
  refine wpAny_call ?_
  have hfill : PySem.Challenge.rw_zs0003_01 = PySem.Challenge.rw_zs0003_01 ∧ zh.heap_39 = zh.heap_39 := by
    k_fill
    exact ⟨rfl, rfl⟩
  clear hfill
  w_on
  k_dflt walk_at "my_enter"))
local macro_rules | `(tactic| walk_at "my_def") => `(tactic| (refine' code_def ?k1 ?k2 ?k3 ?k4 ?k5 ?kA ?kF ?kK ?k6 ?k7 ?k8 ?k9 ?kB ?_ ?c2 ?c3 ?c4 ?c5; (case kA => exact rfl); (case kF => exact rfl); (case kK => first | exact rfl | assumption); (case k1 => k_asm); (case k2 => k_asm); (case k3 => k_asm); (case k4 => k_asm); (case k5 => k_asm); (case k6 => k_is); (case k7 => k_is); (case k8 => ktr_room); (case k9 => first | exact BindsTo.of_eq rfl | (refine' kp_binds ?kx ?ke; (case kx => k_in); (case ke => exact fun _ => rfl))); (case c5 => decide); (case kB => exact locs rfl); (case c2 => exact rfl); (case c3 => exact rfl); (case c4 => exact rfl); k_whole; intro g' L' h' FG' F' N' B' X' T'; (try have hL' := le_step FG' F' (by assumption)); (try dsimp only); (try k_lift B'); (try k_fold)))
local macro_rules | `(tactic| walk_at "my_defC") => `(tactic| (refine' code_defC ?k1 ?k2 ?k3 ?k4 ?k5 ?kA ?kF ?kK ?k6 ?k7 ?k8 ?k9 ?kB ?kD ?_ ?c2 ?c3 ?c4; (case kA => exact rfl); (case kF => exact rfl); (case kK => first | exact rfl | assumption); (case k1 => k_asm); (case k2 => k_asm); (case k3 => k_asm); (case k4 => k_asm); (case k5 => k_asm); (case k6 => k_is); (case k7 => k_is); (case k8 => ktr_room); (case k9 => first | exact BindsTo.of_eq rfl | (refine' kp_binds ?kx ?ke; (case kx => k_in); (case ke => exact fun _ => rfl))); (case kB => exact rfl); (case kD => decide +kernel); (case c2 => exact rfl); (case c3 => exact rfl); (case c4 => exact rfl); k_whole; intro g' L' h' tk' cells' FG' F' N' Y' B' X' T' l1; (try have hL' := le_step FG' F' (by assumption)); (try k_lt l1); k_cells Y'; (try simp only [List.cons_append, List.nil_append] at N'); (try dsimp only); (try k_lift B'); (try k_fold)))
local macro_rules | `(tactic| walk_at "my_nest") => `(tactic| (refine' code_nest ?k1 ?k2 ?k3 ?k4 ?k5 ?kA ?kF ?kK ?k6 ?k7 ?k8 ?k9 ?kB ?_ ?c2 ?c3 ?c4 ?c5; (case kA => exact rfl); (case kF => exact rfl); (case kK => first | exact rfl | assumption); (case k1 => k_asm); (case k2 => k_asm); (case k3 => k_asm); (case k4 => k_asm); (case k5 => k_asm); (case k6 => k_mem); (case k7 => exact codeRec_news (by k_asm) (by k_mem) (by assumption) (by assumption)); (case k8 => ktr_room); (case k9 => exact BindsTo.of_eq rfl); (case c5 => decide); (case kB => exact locs rfl); (case c2 => exact rfl); (case c3 => exact rfl); (case c4 => exact rfl); k_whole; intro g' L' h' FG' F' N' B' X' T'; (try dsimp only); (try k_lift B'); (try k_fold)))
local macro_rules | `(tactic| walk_at "call ref") => `(tactic| (k_here; k_dflt (refine wpAny_call ?_; first | walk_at "my_def" | walk_at "my_defC" | walk_at "my_nest")))
local macro_rules | `(tactic| walk_at "call ref") => `(tactic| (k_here; (with_reducible show wpAny _ _ (call (Value.ref 104) _) _ _ _); k_dflt (refine' use_bis ?B ?F ?X ?T ?k ?C1 ?C2 ?d ?u ?N ?l ?n ?p ?s ?x ?_; (case B => k_asm); (case F => k_asm); (case X => k_asm); (case T => k_asm); (case k => first | exact rfl | assumption); (case C1 => assumption); (case C2 => assumption); (case d => ktr_room); (case u => ktr_units); (case N => k_asm); (case l => exact News.isList (by k_asm) (by k_mem)); (case n => assumption); (case p => exact PairsAt.keeps (by assumption) (Fr.keep (by k_asm))); (case s => assumption); (case x => exact IsTup.keeps (by assumption) (Fr.keep (by k_asm))); k_whole); intro r' t' h' tk' hc' F' N'; (try k_sweep); (try k_fold)))
local macro_rules | `(tactic| walk_at "call builtin:list.insert") => `(tactic| (k_here; k_dflt (refine' ins_at ?F ?N ?r ?n ?_; (case F => k_asm); (case N => k_asm); (case r => rename Cut _ _ _ => hc9; rename PairsAt _ _ _ => hp9; exact Nat.le_trans hc9.1 (Nat.le_of_eq hp9.1.symm)); (case n => assumption); k_whole); intro h' F' N'; (try k_sweep)))

set_option maxHeartbeats 2000000 in
theorem ins (w : World) (l x : Addr) (vs : List Value) (nn : Nat) (ps : List (Int × Int)) (q : Int × Int) (t1 t2 : Tok) (s : Shared) (Q : Value → Shared → Prop) (hl : s.heap.get? l = some (W.listOf vs.toArray nn)) (hn : vs.length ≤ 10) (hp : PairsAt s.heap vs ps) (hs : Sorted ps)
   (hx : IsTup s.heap x #[.int q.1 t1, .int q.2 t2])
   (hret : ∀ r, Cut ps q r → ∀ h' tk', KeepsBut [l] s.heap h' → h'.get? l = some (W.listOf (vs.take r ++ .ref x :: vs.drop r).toArray (nn + 1)) → Q .none { s with heap := h', toks := tk' }) : Calls w 10 100 95 [.ref l, .ref x] [(l, W.listOf vs.toArray nn)] s Q := by
  walk_at "my_open"
  rename KeepsBut _ s.heap _ => hK
  have hL : s.heap.IsList l vs.toArray := ⟨_, hl, rfl, nn, rfl⟩
  have hp' := hp.but hL hK
  have hx' := tup_but hx hL hK
  k_steps
  rename Cut _ _ _ => hc
  exact hret _ hc _ _ (keeps_of (news := [(l, W.listOf vs.toArray nn)]) hK (by assumption)) (News.get (by assumption) (List.Mem.head _))
end Mine
end

/-! L1 -/
section
namespace Mine
abbrev enumObj (it : Addr) (i : Int) (old : Value) : Obj := { cls := .type "enumerate", dict := none, data := .fields #[.none, .bool false, .ref it, rawInt i, .none, old], slots := #[] }
/-- a turn's end: the iterators stand, the word holds -/
def TurnEnd (h₀ : Heap) (L : Addr) (own : List (Addr × Obj)) (s₁ : Shared) (Jn : (Str → Option Value) → List (Addr × Obj) → Prop) (f : Flow) (s₂ : Shared) : Prop :=
  match f with
  | .ret _ => False
  | .brk => False
  | _ => ∃ h' tk m' news', s₂ = { s₁ with heap := h', toks := tk } ∧ Fr h₀ L h' m' ∧ News h₀ L h' (own ++ news') ∧ Jn m' news'

section
variable {prog : Program} {w : World} {A : Around} {E : Value → Shared → Prop} {s : Shared} {env : Env} {h₀ : Heap}

theorem forLoop_enum {Q : Flow → Shared → Prop} {R : Result → Shared → Prop} {elts : List Expr} {x1 : Nat} {pt : Pos} {body : List Stmt} {e it l : Addr} {vs : List Value} {m : Str → Option Value} {news : List (Addr × Obj)} (J : Nat → (Str → Option Value) → List (Addr × Obj) → Prop)
    (hh : A.handled = none) (hei : e ≠ it) (hle : l ≠ e) (hli : l ≠ it) (heL : e ≠ env.locals) (hiL : it ≠ env.locals) (hlL : l ≠ env.locals) (he0 : h₀.get? e = none) (hi0 : h₀.get? it = none) (hl0 : h₀.get? l = none)
    (he : IsEnum s.heap e it 0 .none) (hit : s.heap.IsListIter it l 0) (hl : s.heap.IsList l vs.toArray) (F : Fr h₀ env.locals s.heap m) (N : News h₀ env.locals s.heap news) (hJ : J 0 m news)
    (hJk : ∀ i m news, J i m news → ∀ p ∈ news, p.1 ≠ e ∧ p.1 ≠ it)
    (turn : ∀ i v m₁ news₁ h₁ tk₁ T tk oe oi ol, vs[i]? = some v → J i m₁ news₁ → Fr h₀ env.locals h₁ m₁ →
      News h₀ env.locals h₁ ((T, { cls := .type "tuple", data := .seq #[.int (i : Nat) tk, v] }) :: (e, oe) :: (it, oi) :: (l, ol) :: news₁) → (∀ p ∈ ((e, oe) :: (it, oi) :: (l, ol) :: news₁ : List (Addr × Obj)), p.1 < T) → (∃ n, ol.data = .seq vs.toArray n) →
      wpAny (model prog w) A (assign (.Tuple elts x1 pt) env (.ref T)) (fun _ s₂ => wpAny (model prog w) A (execs body env) (TurnEnd h₀ env.locals [(e, oe), (it, oi), (l, ol)] { s with heap := h₁, toks := tk₁ } (J (i + 1))) (fun _ _ => False) s₂) (fun _ _ => False) { s with heap := h₁, toks := tk₁ })
    (hQ : ∀ f s', Q f s' → R (.ok f) s')
    (hR : ∀ h' tk m' news', Fr h₀ env.locals h' m' → News h₀ env.locals h' news' → J vs.length m' news' → Q .next { s with heap := h', toks := tk }) :
    codeAny (model prog w) A (.forLoop (.Tuple elts x1 pt) (.ref e) body [] env) R s := by
  refine codeAny_forLoop_any
    (fun k s' => ∃ h' tk m' news' i old, s' = { s with heap := h', toks := tk } ∧ IsEnum h' e it ((i : Nat) : Int) old ∧ h'.IsListIter it l i ∧ h'.IsList l vs.toArray ∧ Fr h₀ env.locals h' m' ∧ News h₀ env.locals h' news' ∧ J i m' news' ∧ i ≤ vs.length ∧ k = vs.length + 1 - i) ?_ (vs.length + 1)
    ⟨s.heap, s.toks, m, news, 0, .none, rfl, he, hit, hl, F, N, hJ, Nat.zero_le _, rfl⟩
  rintro k s' ⟨H, tk, m', news', i, old, rfl, he', hit', hl', F', N', hJ', hi, rfl⟩
  have notOld : ∀ {b : Addr} {o : Obj}, h₀.get? b = some o → b ≠ e ∧ b ≠ it := fun {b o} x => ⟨fun q => (by rw [q, he0] at x; cases x), fun q => (by rw [q, hi0] at x; cases x)⟩
  cases hv : vs[i]? with
  | none =>
    have hsz : i = vs.length := Nat.le_antisymm hi (by simpa using hv)
    refine wpAny_pyNext_enum_end hh he' hit' hl' (by simpa using hv) fun h₁ he₁ => wpAny_execs_nil ?_
    refine hQ _ _ (hR h₁ tk m' news' ⟨F'.ns.extBut he₁ (Ne.symm hiL), fun b o x => he₁ b o (notOld x).2 (F'.keep b o x), F'.above⟩ (fun p hp => ⟨he₁ _ _ (hJk _ _ _ hJ' p hp).2 (N' p hp).1, (N' p hp).2⟩) (hsz ▸ hJ'))
  | some v =>
    have hlt : i < vs.length := (List.getElem?_eq_some_iff.mp hv).1
    have heH : e < H.objs.size := Heap.lt_size he'
    have hLH : env.locals < H.objs.size := F'.ns.lt
    obtain ⟨oi, hoi, _⟩ := id hit'
    obtain ⟨ol, hol, _, _, hdl⟩ := id hl'
    have hiH : it < H.objs.size := Heap.lt_size hoi
    have hlH : l < H.objs.size := Heap.lt_size hol
    refine wpAny_pyNext_enum_item he' hit' hl' (by simpa using hv) hei fun h₁ heo hit₁ ht₁ hz₁ hk₁ => ?_
    refine wpAny_letOwnedTupleGo_enum heo fun h₂ he₂ hs₂ => ?_
    replace hs₂ : Heap.SameBut e h₁ h₂ := hs₂
    have ht₂ : h₂.get? H.objs.size = some { cls := .type "tuple", data := .seq #[.int (i : Nat) tk, v] } := (hs₂.2 _ (Nat.ne_of_gt heH)).trans ht₁
    have up : ∀ b o, b ≠ e → b ≠ it → H.get? b = some o → h₂.get? b = some o := fun b o h1 h2 x => (hs₂.2 b h1).trans (hk₁ b o h1 h2 x)
    have F₂ : Fr h₀ env.locals h₂ m' := ⟨F'.ns.at fun o x => up _ o (Ne.symm heL) (Ne.symm hiL) x, fun b o x => up b o (notOld x).1 (notOld x).2 (F'.keep b o x), F'.above⟩
    obtain ⟨oi₂, hoi₂, hoi₂'⟩ := hit₁.extBut hs₂.extBut (Ne.symm hei)
    have hol₂ : h₂.get? l = some ol := up l ol hle hli hol
    have fresh : h₀.get? H.objs.size = none := Heap.get?_none_of_le (Nat.le_trans F'.above (Nat.le_of_lt hLH))
    have N₂ : News h₀ env.locals h₂ ((H.objs.size, { cls := .type "tuple", data := .seq #[.int (i : Nat) tk, v] }) :: (e, enumObj it ((i : Int) + 1) v) :: (it, oi₂) :: (l, ol) :: news') := fun p hp => by
      rcases List.mem_cons.mp hp with rfl | hp
      · exact ⟨ht₂, Nat.ne_of_gt hLH, fresh⟩
      · rcases List.mem_cons.mp hp with rfl | hp
        · exact ⟨he₂, heL, he0⟩
        · rcases List.mem_cons.mp hp with rfl | hp
          · exact ⟨hoi₂, hiL, hi0⟩
          · rcases List.mem_cons.mp hp with rfl | hp
            · exact ⟨hol₂, hlL, hl0⟩
            · exact ⟨up _ _ (hJk _ _ _ hJ' p hp).1 (hJk _ _ _ hJ' p hp).2 (N' p hp).1, (N' p hp).2⟩
    have lt₂ : ∀ p ∈ ((e, enumObj it ((i : Int) + 1) v) :: (it, oi₂) :: (l, ol) :: news' : List (Addr × Obj)), p.1 < H.objs.size := fun p hp => by
      rcases List.mem_cons.mp hp with rfl | hp
      · exact heH
      · rcases List.mem_cons.mp hp with rfl | hp
        · exact hiH
        · rcases List.mem_cons.mp hp with rfl | hp
          · exact hlH
          · exact Heap.lt_size (N' p hp).1
    refine wpAny_noRaise (wpAny_mono (turn i v m' news' h₂ (tk + 1) H.objs.size tk _ oi₂ ol hv hJ' F₂ N₂ lt₂ ⟨_, hdl⟩) (fun _ s₂ h₂' => wpAny_noRaise (wpAny_mono h₂' (fun f s₃ h₃ => ?_) fun _ _ x => x)) fun _ _ x => x)
    have fin : (∃ h' tk' m' news'', s₃ = { s with heap := h', toks := tk' } ∧ Fr h₀ env.locals h' m' ∧ News h₀ env.locals h' ([(e, enumObj it ((i : Int) + 1) v), (it, oi₂), (l, ol)] ++ news'') ∧ J (i + 1) m' news'') →
        ∃ n, n < vs.length + 1 - i ∧ ∃ h' tk m' news' i old, s₃ = { s with heap := h', toks := tk } ∧ IsEnum h' e it ((i : Nat) : Int) old ∧ h'.IsListIter it l i ∧ h'.IsList l vs.toArray ∧ Fr h₀ env.locals h' m' ∧ News h₀ env.locals h' news' ∧ J i m' news' ∧ i ≤ vs.length ∧ n = vs.length + 1 - i := by
      rintro ⟨h', tk', m'', news'', rfl, F₃, N₃, hJ₃⟩
      obtain ⟨ol', hol', hc', r'⟩ := id hl'
      rw [hol] at hol'
      cases hol'
      refine ⟨vs.length + 1 - (i + 1), by omega, h', tk', m'', news'', i + 1, v, rfl, ?_, ⟨oi₂, (N₃ _ (.tail _ (.head _))).1, hoi₂'⟩, ⟨ol, (N₃ _ (.tail _ (.tail _ (.head _)))).1, hc', r'⟩, F₃, fun p hp => N₃ p (List.mem_append_right _ hp), hJ₃, hlt, rfl⟩
      have : ((i + 1 : Nat) : Int) = (i : Int) + 1 := by push_cast; rfl
      rw [this]
      exact (N₃ _ (.head _)).1
    cases f with
    | ret v => exact h₃.elim
    | brk => exact h₃.elim
    | next => exact fin h₃
    | cont => exact fin h₃

/-- what a for over enumerate(list) wants where its iterable stands -/
def EnumAt (prog : Program) (w : World) (A : Around) (h₀ : Heap) (env : Env) (elts : List Expr) (x1 : Nat) (pt : Pos) (body : List Stmt) (Q : Flow → Shared → Prop) (xv : Value) (s : Shared) : Prop :=
  ∃ (e it l : Addr) (vs : List Value) (m : Str → Option Value) (news : List (Addr × Obj)) (J : Nat → (Str → Option Value) → List (Addr × Obj) → Prop), xv = .ref e ∧ e ≠ it ∧ l ≠ e ∧ l ≠ it ∧ e ≠ env.locals ∧ it ≠ env.locals ∧ l ≠ env.locals ∧ h₀.get? e = none ∧ h₀.get? it = none ∧ h₀.get? l = none ∧
    IsEnum s.heap e it 0 .none ∧ s.heap.IsListIter it l 0 ∧ s.heap.IsList l vs.toArray ∧ Fr h₀ env.locals s.heap m ∧ News h₀ env.locals s.heap news ∧ J 0 m news ∧ (∀ i m news, J i m news → ∀ p ∈ news, p.1 ≠ e ∧ p.1 ≠ it) ∧
    (∀ i v m₁ news₁ h₁ tk₁ T tk oe oi ol, vs[i]? = some v → J i m₁ news₁ → Fr h₀ env.locals h₁ m₁ →
      News h₀ env.locals h₁ ((T, { cls := .type "tuple", data := .seq #[.int (i : Nat) tk, v] }) :: (e, oe) :: (it, oi) :: (l, ol) :: news₁) → (∀ p ∈ ((e, oe) :: (it, oi) :: (l, ol) :: news₁ : List (Addr × Obj)), p.1 < T) →
      wpAny (model prog w) A (assign (.Tuple elts x1 pt) env (.ref T)) (fun _ s₂ => wpAny (model prog w) A (execs body env) (TurnEnd h₀ env.locals [(e, oe), (it, oi), (l, ol)] { s with heap := h₁, toks := tk₁ } (J (i + 1))) (fun _ _ => False) s₂) (fun _ _ => False) { s with heap := h₁, toks := tk₁ }) ∧
    (∀ h' tk m' news', Fr h₀ env.locals h' m' → News h₀ env.locals h' news' → J vs.length m' news' → Q .next { s with heap := h', toks := tk })

theorem For_enumK {Q : Flow → Shared → Prop} {elts : List Expr} {x1 : Nat} {pt pos : Pos} {iter : Expr} {body : List Stmt} {m : Str → Option Value} (_F : Fr h₀ env.locals s.heap m) (hh : A.handled = none)
    (h : wpAny (model prog w) A (eval iter env) (EnumAt prog w A h₀ env elts x1 pt body Q) E s) (hs : ∀ x, foldedSetIterable iter env x = pure x := by intro _; rfl) :
    wpAny (model prog w) A (exec (.For (.Tuple elts x1 pt) iter body [] pos) env) Q E s := by
  refine wpAny_For (wpAny_mono h (fun xv s₁ h₁ => ?_) fun _ _ x => x) hs
  obtain ⟨e, it, l, vs, m, news, J, rfl, hei, hle, hli, heL, hiL, hlL, he0, hi0, hl0, he, hit, hl, F, N, hJ, hJk, turn, hR⟩ := h₁
  exact wpAny_pyIter_enum he (forLoop_enum J hh hei hle hli heL hiL hlL he0 hi0 hl0 he hit hl F N hJ hJk (fun i v m₁ news₁ h₁ tk₁ T tk oe oi ol a b c d e _ => turn i v m₁ news₁ h₁ tk₁ T tk oe oi ol a b c d e) (fun _ _ x => x) hR)

/-- enumerate of a list of the ledger -/
theorem enum_at {Q : Flow → Shared → Prop} {elts : List Expr} {x1 : Nat} {pt : Pos} {body : List Stmt} {l : Addr} {ol : Obj} {n : Nat} {vs : List Value} {m : Str → Option Value} {news : List (Addr × Obj)} (J : Nat → (Str → Option Value) → List (Addr × Obj) → Prop)
    (F : Fr h₀ env.locals s.heap m) (N : News h₀ env.locals s.heap news) (hn : s.heap.get? l = some ol ∧ l ≠ env.locals ∧ h₀.get? l = none) (hc : ol.cls = .type "list") (hd : ol.data = .seq vs.toArray n) (hJ : ∀ nz : Nat, nz = s.heap.objs.size → J 0 m news ∧ (∀ i m news, J i m news → ∀ p ∈ news, p.1 ≠ nz + 1 ∧ p.1 ≠ nz))
    (turn : ∀ i v m₁ news₁ h₁ tk₁ T tk oe oi ol e it, vs[i]? = some v → J i m₁ news₁ → Fr h₀ env.locals h₁ m₁ →
      News h₀ env.locals h₁ ((T, { cls := .type "tuple", data := .seq #[.int (i : Nat) tk, v] }) :: (e, oe) :: (it, oi) :: (l, ol) :: news₁) → (∀ p ∈ ((e, oe) :: (it, oi) :: (l, ol) :: news₁ : List (Addr × Obj)), p.1 < T) → e = it + 1 → it = s.heap.objs.size →
      wpAny (model prog w) A (assign (.Tuple elts x1 pt) env (.ref T)) (fun _ s₂ => wpAny (model prog w) A (execs body env) (TurnEnd h₀ env.locals [(e, oe), (it, oi), (l, ol)] { s with heap := h₁, toks := tk₁ } (J (i + 1))) (fun _ _ => False) s₂) (fun _ _ => False) { s with heap := h₁, toks := tk₁ })
    (hR : ∀ h' tk m' news', Fr h₀ env.locals h' m' → News h₀ env.locals h' news' → J vs.length m' news' → Q .next { s with heap := h', toks := tk }) :
    wpAny (model prog w) A (call (.type "enumerate") [.ref l]) (EnumAt prog w A h₀ env elts x1 pt body Q) E s := by
  have hls : s.heap.IsList l vs.toArray := ⟨ol, hn.1, hc, n, hd⟩
  have hLs : env.locals < s.heap.objs.size := F.ns.lt
  have hl2 : l < s.heap.objs.size := Heap.lt_size hn.1
  refine call_enumerate_list hls fun h' he hit hsz hk => ?_
  have F' : Fr h₀ env.locals h' m := ⟨F.ns.keeps hk, fun b o e => hk b o (F.keep b o e), F.above⟩
  have N' : News h₀ env.locals h' news := fun p hp => ⟨hk _ _ (N p hp).1, (N p hp).2⟩
  exact ⟨_, s.heap.objs.size, l, vs, m, news, J, rfl, Nat.succ_ne_self _, Nat.ne_of_lt (Nat.lt_succ_of_lt hl2), Nat.ne_of_lt hl2, Nat.ne_of_gt (Nat.lt_succ_of_lt hLs), Nat.ne_of_gt hLs, hn.2.1, Heap.get?_none_of_le (Nat.le_trans F.above (Nat.le_of_lt (Nat.lt_succ_of_lt hLs))),
    Heap.get?_none_of_le (Nat.le_trans F.above (Nat.le_of_lt hLs)), hn.2.2, he, hit, hls.at fun o e => hk l o e, F', N', (hJ _ rfl).1, (hJ _ rfl).2, fun i v m₁ news₁ h₁ tk₁ T tk oe oi ol a b c d e => turn i v m₁ news₁ h₁ tk₁ T tk oe oi ol _ _ a b c d e rfl rfl, hR⟩
end
end Mine
end

/-! L2 -/
section
namespace Mine
section
variable {prog : Program} {w : World} {A : Around} {E : Value → Shared → Prop} {s : Shared} {a b k : Int} {t u : Tok}
theorem mod_known {Q : Value → Shared → Prop} (hk : a % b = k) (hb : 0 < b) (h : Q (.int k s.toks) { s with toks := s.toks + 1 }) : wpAny (model prog w) A (binaryOp .Mod (.int a t) (.int b u)) Q E s := by
  refine mod_int (by omega) ?_
  rw [Int.fmod_eq_emod_of_nonneg _ (by omega), hk]
  exact h
theorem mod_e {Q : Value → Shared → Prop} (hb : 0 < b) (h : Q (.int (a % b) s.toks) { s with toks := s.toks + 1 }) : wpAny (model prog w) A (binaryOp .Mod (.int a t) (.int b u)) Q E s := mod_known rfl hb h
theorem div_e {Q : Value → Shared → Prop} (hb : 0 < b) (hp : Builtin.divisionGoesByPylong a b = false) (h : Q (.int (a / b) s.toks) { s with toks := s.toks + 1 }) : wpAny (model prog w) A (binaryOp .FloorDiv (.int a t) (.int b u)) Q E s := by
  refine floordiv_int (by omega) ?_ (.inl hp)
  rw [Int.fdiv_eq_ediv_of_nonneg _ (by omega)]
  exact h
theorem sub_known {Q : Value → Shared → Prop} (hk : a - b = k) (h : Q (.int k s.toks) { s with toks := s.toks + 1 }) : wpAny (model prog w) A (binaryOp .Sub (.int a t) (.int b u)) Q E s := by
  refine sub_int ?_
  rw [hk]
  exact h
theorem item0 {value slice : Expr} {Q : Value → Shared → Prop} (h : wpAny (model prog w) A (subscriptTail value slice (.str (Str.ofString "+-") t) (.int 0 u)) Q E s) (hk : a = 0) : wpAny (model prog w) A (subscriptTail value slice (.str (Str.ofString "+-") t) (.int a u)) Q E s := by
  rw [hk]; exact h
theorem item1 {value slice : Expr} {Q : Value → Shared → Prop} (h : wpAny (model prog w) A (subscriptTail value slice (.str (Str.ofString "+-") t) (.int 1 u)) Q E s) (hk : a = 1) : wpAny (model prog w) A (subscriptTail value slice (.str (Str.ofString "+-") t) (.int a u)) Q E s := by
  rw [hk]; exact h
end

section
variable {w : World} {mean : ExcName → Option Value} {mg mb : Str → Option Value} {dp un : Nat} {gd : Option (List Code)} {cn : Str} {cs : Scope} {fa : Addr} {ccd : Value} {cl : List (Str × Addr)} {outer : List Env} {A₀ : Around} {base h₀ : Heap} {L : Addr} {m : Str → Option Value}
  {s : Shared} {Q E : Value → Shared → Prop} {news : List (Addr × Obj)} {x : Str} {tn : Tok} {n p : Nat} {G : Sre.M} {hv mv : Int}
theorem use_offP (B : Below A₀ base outer h₀) (F : Fr h₀ L s.heap m) (X : (zh.heap_39 w.params).In h₀) (T : Top topProg loo mean mg mb h₀) (hk : cs.kind = .function) (C1 : CodeHd base 71 67) (C2 : CodeHd base 64 60) (hd : dp + 6 < recursionLimit) (hu : un + 40 < cLine)
    (N : News h₀ L s.heap news) (k : Clock w x 43 n p G hv mv) (h0 : 0 ≤ hv) (h1 : hv < 100) (m0 : 0 ≤ mv) (m1 : mv < 100) (h : ∀ t h' tk', Fr h₀ L h' m → News h₀ L h' news → Q (.int (3600 * hv + 60 * mv) t) { s with heap := h', toks := tk' }) :
    wpAny (model prog w) (ktrTop dp un gd cn cs L fa ccd cl outer) (call (.ref 44) [.str x tn]) Q E s := use_off B F X T hk C1 C2 hd hu N k h0 h1 m0 m1 h
theorem use_offM (B : Below A₀ base outer h₀) (F : Fr h₀ L s.heap m) (X : (zh.heap_39 w.params).In h₀) (T : Top topProg loo mean mg mb h₀) (hk : cs.kind = .function) (C1 : CodeHd base 71 67) (C2 : CodeHd base 64 60) (hd : dp + 6 < recursionLimit) (hu : un + 40 < cLine)
    (N : News h₀ L s.heap news) (k : Clock w x 45 n p G hv mv) (h0 : 0 ≤ hv) (h1 : hv < 100) (m0 : 0 ≤ mv) (m1 : mv < 100) (h : ∀ t h' tk', Fr h₀ L h' m → News h₀ L h' news → Q (.int (-(3600 * hv + 60 * mv)) t) { s with heap := h', toks := tk' }) :
    wpAny (model prog w) (ktrTop dp un gd cn cs L fa ccd cl outer) (call (.ref 44) [.str x tn]) Q E s := use_off B F X T hk C1 C2 hd hu N k h0 h1 m0 m1 h
end

/-- the tuples of the ledger that a list holds -/
def PairsIn (news : List (Addr × Obj)) (vs : List Value) (ps : List (Int × Int)) : Prop := vs.length = ps.length ∧ ∀ (i : Nat) v, vs[i]? = some v → ∃ p a t u, ps[i]? = some p ∧ v = .ref a ∧ (a, tup [.int p.1 t, .int p.2 u]) ∈ news
theorem PairsIn.at {tups news : List (Addr × Obj)} {h₀ h : Heap} {L : Addr} {vs : List Value} {ps : List (Int × Int)} (x : PairsIn tups vs ps) (N : News h₀ L h news) (hs : ∀ p ∈ tups, p ∈ news) : PairsAt h vs ps :=
  ⟨x.1, fun i v e => let ⟨p, a, t, u, e1, e2, e3⟩ := x.2 i v e; ⟨p, e1, a, t, u, e2, _, (N _ (hs _ e3)).1, rfl, 0, rfl⟩⟩
theorem PairsIn.mono {tups tups' : List (Addr × Obj)} {vs : List Value} {ps : List (Int × Int)} (x : PairsIn tups vs ps) (hs : ∀ p ∈ tups, p ∈ tups') : PairsIn tups' vs ps :=
  ⟨x.1, fun i v e => let ⟨p, a, t, u, e1, e2, e3⟩ := x.2 i v e; ⟨p, a, t, u, e1, e2, hs _ e3⟩⟩
theorem PairsIn.insert {tups : List (Addr × Obj)} {vs : List Value} {ps : List (Int × Int)} {r : Nat} {a : Addr} {p : Int × Int} {t u : Tok} (x : PairsIn tups vs ps) (hr : r ≤ ps.length) (hm : (a, tup [.int p.1 t, .int p.2 u]) ∈ tups) :
    PairsIn tups (vs.take r ++ .ref a :: vs.drop r) (ps.take r ++ p :: ps.drop r) := by
  have hl := x.1
  refine ⟨by simp only [List.length_append, List.length_take, List.length_cons, List.length_drop]; omega, fun i v e => ?_⟩
  have l1 : (vs.take r).length = r := by rw [List.length_take]; omega
  have l2 : (ps.take r).length = r := by rw [List.length_take]; omega
  rcases Nat.lt_trichotomy i r with h | h | h
  · rw [List.getElem?_append_left (by omega), List.getElem?_take_of_lt h] at e
    obtain ⟨p', a', t', u', e1, e2, e3⟩ := x.2 i v e
    exact ⟨p', a', t', u', by rw [List.getElem?_append_left (by omega), List.getElem?_take_of_lt h, e1], e2, e3⟩
  · subst h
    rw [List.getElem?_append_right (by omega), l1, Nat.sub_self] at e
    cases e
    exact ⟨p, a, t, u, by rw [List.getElem?_append_right (by omega), l2, Nat.sub_self]; rfl, rfl, hm⟩
  · obtain ⟨j, hj⟩ : ∃ j, i - r = j + 1 := ⟨i - r - 1, by omega⟩
    rw [List.getElem?_append_right (by omega), l1, hj, List.getElem?_cons_succ, List.getElem?_drop] at e
    obtain ⟨p', a', t', u', e1, e2, e3⟩ := x.2 (r + j) v e
    exact ⟨p', a', t', u', by rw [List.getElem?_append_right (by omega), l2, hj, List.getElem?_cons_succ, List.getElem?_drop, e1], e2, e3⟩
theorem sorted_insert {ps : List (Int × Int)} {q : Int × Int} {r : Nat} (hs : Sorted ps) (hc : Cut ps q r) : Sorted (ps.take r ++ q :: ps.drop r) := by
  obtain ⟨hr, hlo, hhi⟩ := hc
  have l2 : (ps.take r).length = r := by rw [List.length_take]; omega
  have get : ∀ (i : Nat) p, (ps.take r ++ q :: ps.drop r)[i]? = some p → (i < r ∧ ps[i]? = some p) ∨ (i = r ∧ p = q) ∨ (r < i ∧ ps[i - 1]? = some p) := fun i p e => by
    rcases Nat.lt_trichotomy i r with h | h | h
    · rw [List.getElem?_append_left (by omega), List.getElem?_take_of_lt h] at e
      exact .inl ⟨h, e⟩
    · subst h
      rw [List.getElem?_append_right (by omega), l2, Nat.sub_self] at e
      cases e
      exact .inr (.inl ⟨rfl, rfl⟩)
    · obtain ⟨j, hj⟩ : ∃ j, i - r = j + 1 := ⟨i - r - 1, by omega⟩
      rw [List.getElem?_append_right (by omega), l2, hj, List.getElem?_cons_succ, List.getElem?_drop, show r + j = i - 1 by omega] at e
      exact .inr (.inr ⟨h, e⟩)
  intro i j p p' hij e e'
  rcases get i p e with ⟨h1, e1⟩ | ⟨h1, e1⟩ | ⟨h1, e1⟩ <;> rcases get j p' e' with ⟨h2, e2⟩ | ⟨h2, e2⟩ | ⟨h2, e2⟩
  · exact hs i j p p' hij e1 e2
  · subst e2
    have := hlo i p h1 e1
    unfold plt at *; omega
  · exact hs i (j - 1) p p' (by omega) e1 e2
  · omega
  · omega
  · subst e1
    exact hhi (j - 1) p' (by omega) e2
  · omega
  · omega
  · exact hs (i - 1) (j - 1) p p' (by omega) e1 e2

section
variable {w : World} {mean : ExcName → Option Value} {mg mb : Str → Option Value} {dp un : Nat} {gd : Option (List Code)} {cn : Str} {cs : Scope} {fa : Addr} {ccd : Value} {cl : List (Str × Addr)} {outer : List Env} {A₀ : Around} {base h₀ : Heap} {L : Addr} {m : Str → Option Value}
  {s : Shared} {Q E : Value → Shared → Prop} {news : List (Addr × Obj)} {g : Obj → List (Addr × Obj)} {l x : Addr} {nn : Nat} {vs : List Value} {ps : List (Int × Int)} {q : Int × Int} {t1 t2 : Tok}
theorem use_ins (B : Below A₀ base outer h₀) (F : Fr h₀ L s.heap m) (X : (zh.heap_39 w.params).In h₀) (T : Top topProg loo mean mg mb h₀) (hk : cs.kind = .function) (C1 : CodeHd base 71 67) (C2 : CodeHd base 64 60) (hd : dp + 10 < recursionLimit) (hu : un + 100 < cLine)
    (N : News h₀ L s.heap news) (U : UpdF l (W.listOf vs.toArray nn) news g) (hn : vs.length ≤ 10) (hp : PairsAt s.heap vs ps) (hs : Sorted ps) (hx : IsTup s.heap x #[.int q.1 t1, .int q.2 t2])
    (h : ∀ r h' tk', Cut ps q r → Fr h₀ L h' m → News h₀ L h' (g (W.listOf (vs.take r ++ .ref x :: vs.drop r).toArray (nn + 1))) → Q .none { s with heap := h', toks := tk' }) :
    wpAny (model prog w) (ktrTop dp un gd cn cs L fa ccd cl outer) (call (.ref 95) [.ref l, .ref x]) Q E s := by
  obtain ⟨pre, post, rfl, hg, h1, h2⟩ := U.split
  have nl := N (l, W.listOf vs.toArray nn) (List.mem_append_right _ (.head _))
  refine ins w l x vs nn ps q t1 t2 s Q nl.1 hn hp hs hx (fun r hc h' tk' k e => ?_) _ _ _ _ _ _ _ _ _ _ _ _ _ _ _ _ _ _ B F X T hk C1 C2 hd hu (fun p hp => by rw [List.mem_singleton.mp hp]; exact nl)
  have no : ∀ {b : Addr} {o : Obj}, h₀.get? b = some o → b ∉ [l] := fun {b o} e hm => by
    rw [List.mem_singleton.mp hm, nl.2.2] at e; cases e
  have F' : Fr h₀ L h' m := by
    obtain ⟨oL, es, ep, hL, r⟩ := F.ns
    exact ⟨⟨oL, es, ep, k _ _ (fun hm => nl.2.1 (List.mem_singleton.mp hm).symm) hL, r⟩, fun b o e => k b o (no e) (F.keep b o e), F.above⟩
  refine h r h' tk' hc F' ?_
  rw [hg]
  intro p hp
  rcases List.mem_append.mp hp with hp | hp
  · have n := N p (List.mem_append_left _ hp)
    exact ⟨k _ _ (fun hm => h1 p hp (List.mem_singleton.mp hm)) n.1, n.2⟩
  · rcases List.mem_cons.mp hp with rfl | hp
    · exact ⟨e, nl.2⟩
    · have n := N p (List.mem_append_right _ (.tail _ hp))
      exact ⟨k _ _ (fun hm => h2 p hp (List.mem_singleton.mp hm)) n.1, n.2⟩
end
end Mine
end

/-! L3 -/
section
namespace Mine
/-- the word of the law's first loop -/
def J1 (ord : Addr) (fixed : List (Addr × Obj)) (nz : Nat) (i : Nat) (m : Str → Option Value) (news : List (Addr × Obj)) : Prop :=
  ∃ vs ps nn tups, news = (ord, W.listOf vs.toArray nn) :: (fixed ++ tups) ∧ vs.length = i ∧ PairsIn tups vs ps ∧ Sorted ps ∧ (∀ p ∈ ps, -43200 < p.1 ∧ p.1 < 43200 ∧ 0 ≤ p.2) ∧ m (Str.ofString "order") = some (.ref ord) ∧ ∀ p ∈ tups, @LT.lt Nat _ (nz + 1) p.1

section
variable {prog : Program} {w : World} {A : Around} {E : Value → Shared → Prop} {s : Shared} {env : Env} {h₀ : Heap}
theorem loop1 {Q : Flow → Shared → Prop} {elts : List Expr} {x1 : Nat} {pt : Pos} {body : List Stmt} {D D1 ord cd cm : Addr} {ws : List Value} {ns : List Int} {ot od om : Obj} {m : Str → Option Value}
    (F : Fr h₀ env.locals s.heap m) (N : News h₀ env.locals s.heap [(D, W.listOf ws.toArray 0), (D1, ot), (ord, W.listOf #[] 0), (cd, od), (cm, om), (67, tabObj #[]), (60, tabObj #[])]) (hI : IntsAre ws ns) (ho : m (Str.ofString "order") = some (.ref ord))
    (turn : ∀ (i : Nat) n tn (m₁ : Str → Option Value) vs ps nn tups h₁ tk₁ T tk oe oi ol e it, ns[i]? = some n → vs.length = i → PairsIn tups vs ps → Sorted ps → (∀ p ∈ ps, -43200 < p.1 ∧ p.1 < 43200 ∧ 0 ≤ p.2) → Fr h₀ env.locals h₁ (fun y => if y = Str.ofString "order" then some (.ref ord) else m₁ y) →
      News h₀ env.locals h₁ ((T, { cls := .type "tuple", data := .seq #[.int (i : Nat) tk, .int n tn] }) :: (e, oe) :: (it, oi) :: (D, ol) :: (ord, W.listOf vs.toArray nn) :: (cd, od) :: (cm, om) :: (67, tabObj #[]) :: (60, tabObj #[]) :: tups) →
      (∀ p ∈ ((e, oe) :: (it, oi) :: (D, ol) :: (ord, W.listOf vs.toArray nn) :: (cd, od) :: (cm, om) :: (67, tabObj #[]) :: (60, tabObj #[]) :: tups : List (Addr × Obj)), p.1 < T) → (∀ p ∈ ((ord, W.listOf vs.toArray nn) :: (cd, od) :: (cm, om) :: (67, tabObj #[]) :: (60, tabObj #[]) :: (D, ol) :: [] : List (Addr × Obj)), p.1 < it) → e = it + 1 → it = s.heap.objs.size → (∀ p ∈ tups, p.1 ≠ ord) →
      (∀ p ∈ tups, @LT.lt Nat _ (it + 1) p.1) →
      wpAny (model prog w) A (assign (.Tuple elts x1 pt) env (.ref T)) (fun _ s₂ => wpAny (model prog w) A (execs body env) (TurnEnd h₀ env.locals [(e, oe), (it, oi), (D, ol)] { s with heap := h₁, toks := tk₁ } (J1 ord [(cd, od), (cm, om), (67, tabObj #[]), (60, tabObj #[])] s.heap.objs.size (i + 1))) (fun _ _ => False) s₂) (fun _ _ => False) { s with heap := h₁, toks := tk₁ })
    (done : ∀ (m' : Str → Option Value) vs ps nn tups h' tk, vs.length = ns.length → PairsIn tups vs ps → Sorted ps → (∀ p ∈ ps, -43200 < p.1 ∧ p.1 < 43200 ∧ 0 ≤ p.2) → Fr h₀ env.locals h' (fun y => if y = Str.ofString "order" then some (.ref ord) else m' y) →
      News h₀ env.locals h' ((ord, W.listOf vs.toArray nn) :: (cd, od) :: (cm, om) :: (67, tabObj #[]) :: (60, tabObj #[]) :: tups) →
      (∀ p ∈ tups, p.1 ≠ ord) → (∀ p ∈ tups, p.1 ≠ cd) → (∀ p ∈ tups, p.1 ≠ cm) → (∀ p ∈ tups, p.1 ≠ 67) → (∀ p ∈ tups, p.1 ≠ 60) → Q .next { s with heap := h', toks := tk }) :
    wpAny (model prog w) A (call (.type "enumerate") [.ref D]) (EnumAt prog w A h₀ env elts x1 pt body Q) E s := by
  have lt : ∀ p ∈ [(ord, W.listOf #[] 0), (cd, od), (cm, om), (67, tabObj #[]), (60, tabObj #[])], @LT.lt Nat _ p.1 s.heap.objs.size := fun p hp => Heap.lt_size (N p (.tail _ (.tail _ hp))).1
  have lO := lt _ (.head _)
  have lC := lt _ (.tail _ (.head _))
  have lM := lt _ (.tail _ (.tail _ (.head _)))
  have l6 := lt _ (.tail _ (.tail _ (.tail _ (.head _))))
  have l5 := lt _ (.tail _ (.tail _ (.tail _ (.tail _ (.head _)))))
  have lD : @LT.lt Nat _ D s.heap.objs.size := Heap.lt_size (N _ (.head _)).1
  refine enum_at (J1 ord [(cd, od), (cm, om), (67, tabObj #[]), (60, tabObj #[])] s.heap.objs.size) F (fun p hp => N p (.tail _ (.tail _ hp))) (N _ (.head _)) rfl rfl (fun nz hz => ⟨⟨[], [], 0, [], rfl, rfl, ⟨rfl, fun i v e => (by cases e)⟩, (fun i j p q _ e _ => (by cases e)), (fun p hp => nomatch hp), ho, (fun p hp => nomatch hp)⟩, fun i m news hj p hp => ?_⟩)
    (fun i v m₁ news₁ h₁ tk₁ T tk oe oi ol e it hv hj F₁ N₁ l he hit => ?_) (fun h' tk m' news' F' N' hj => ?_)
  · obtain ⟨vs, ps, nn, tups, rfl, _, _, _, _, _, ht⟩ := hj
    subst hz
    have two : ∀ {a : Nat}, a < s.heap.objs.size → a ≠ s.heap.objs.size + 1 ∧ a ≠ s.heap.objs.size := fun h => ⟨by omega, by omega⟩
    rcases List.mem_cons.mp hp with rfl | hp
    · exact two lO
    · rcases List.mem_cons.mp hp with rfl | hp
      · exact two lC
      · rcases List.mem_cons.mp hp with rfl | hp
        · exact two lM
        · rcases List.mem_cons.mp hp with rfl | hp
          · exact two l6
          · rcases List.mem_cons.mp hp with rfl | hp
            · exact two l5
            · have := ht p hp
              exact ⟨Nat.ne_of_gt this, Nat.ne_of_gt (Nat.lt_of_succ_lt this)⟩
  · obtain ⟨vs, ps, nn, tups, rfl, hlen, hp, hs, hb, ho', ht⟩ := hj
    obtain ⟨n, hn⟩ : ∃ n, ns[i]? = some n := by
      have h1 := (List.getElem?_eq_some_iff.mp hv).1
      rw [hI.length] at h1
      exact ⟨ns[i], List.getElem?_eq_getElem h1⟩
    obtain ⟨tn, hx⟩ := hI.get i n hn
    rw [hv] at hx
    cases hx
    subst hit
    refine turn i n tn m₁ vs ps nn tups h₁ tk₁ T tk oe oi ol e _ hn hlen hp hs hb (fr_pin F₁ ho') N₁ l (fun p hp => ?_) he rfl (fun p hp => Nat.ne_of_gt (Nat.lt_trans (Nat.lt_succ_of_lt lO) (ht p hp))) ht
    rcases List.mem_cons.mp hp with rfl | hp
    · exact lO
    · rcases List.mem_cons.mp hp with rfl | hp
      · exact lC
      · rcases List.mem_cons.mp hp with rfl | hp
        · exact lM
        · rcases List.mem_cons.mp hp with rfl | hp
          · exact l6
          · rcases List.mem_cons.mp hp with rfl | hp
            · exact l5
            · rcases List.mem_cons.mp hp with rfl | hp
              · exact lD
              · cases hp
  · obtain ⟨vs, ps, nn, tups, rfl, hlen, hp, hs, hb, ho', ht⟩ := hj
    have ap : ∀ {a : Addr}, @LT.lt Nat _ a s.heap.objs.size → ∀ p ∈ tups, p.1 ≠ a := fun l p q => Nat.ne_of_gt (Nat.lt_trans (Nat.lt_succ_of_lt l) (ht p q))
    exact done m' vs ps nn tups h' tk (hlen.trans (hI.length)) hp hs hb (fr_pin F' ho') N' (ap lO) (ap lC) (ap lM) (ap l6) (ap l5)
end
end Mine
end

/-! L4 -/
section
namespace Mine
theorem word_rp (hv mv : Int) : Str.ofString "+" ++ fig hv ++ fig mv = ⟨#[43, 48 + (hv / 10).toNat, 48 + (hv % 10).toNat, 48 + (mv / 10).toNat, 48 + (mv % 10).toNat]⟩ := by kernel_rfl!
theorem ck_rp (w : World) {hv mv : Int} (h0 : 0 ≤ hv) (h1 : hv < 100) (m0 : 0 ≤ mv) (m1 : mv < 100) : Clock w (Str.ofString "+" ++ fig hv ++ fig mv) 43 5 3 (rp9 (48 + (hv / 10).toNat) (48 + (hv % 10).toNat) (48 + (mv / 10).toNat) (48 + (mv % 10).toNat)) hv mv := by
  rw [word_rp]; exact clock_rp w h0 h1 m0 m1
theorem word_rm (hv mv : Int) : Str.ofString "-" ++ fig hv ++ fig mv = ⟨#[45, 48 + (hv / 10).toNat, 48 + (hv % 10).toNat, 48 + (mv / 10).toNat, 48 + (mv % 10).toNat]⟩ := by kernel_rfl!
theorem ck_rm (w : World) {hv mv : Int} (h0 : 0 ≤ hv) (h1 : hv < 100) (m0 : 0 ≤ mv) (m1 : mv < 100) : Clock w (Str.ofString "-" ++ fig hv ++ fig mv) 45 5 3 (rm9 (48 + (hv / 10).toNat) (48 + (hv % 10).toNat) (48 + (mv / 10).toNat) (48 + (mv % 10).toNat)) hv mv := by
  rw [word_rm]; exact clock_rm w h0 h1 m0 m1
theorem word_cp (hv mv : Int) : Str.ofString "+" ++ fig hv ++ Str.ofString ":" ++ fig mv = ⟨#[43, 48 + (hv / 10).toNat, 48 + (hv % 10).toNat, 58, 48 + (mv / 10).toNat, 48 + (mv % 10).toNat]⟩ := by kernel_rfl!
theorem ck_cp (w : World) {hv mv : Int} (h0 : 0 ≤ hv) (h1 : hv < 100) (m0 : 0 ≤ mv) (m1 : mv < 100) : Clock w (Str.ofString "+" ++ fig hv ++ Str.ofString ":" ++ fig mv) 43 6 4 (cp9 (48 + (hv / 10).toNat) (48 + (hv % 10).toNat) (48 + (mv / 10).toNat) (48 + (mv % 10).toNat)) hv mv := by
  rw [word_cp]; exact clock_cp w h0 h1 m0 m1
theorem word_cm (hv mv : Int) : Str.ofString "-" ++ fig hv ++ Str.ofString ":" ++ fig mv = ⟨#[45, 48 + (hv / 10).toNat, 48 + (hv % 10).toNat, 58, 48 + (mv / 10).toNat, 48 + (mv % 10).toNat]⟩ := by kernel_rfl!
theorem ck_cm (w : World) {hv mv : Int} (h0 : 0 ≤ hv) (h1 : hv < 100) (m0 : 0 ≤ mv) (m1 : mv < 100) : Clock w (Str.ofString "-" ++ fig hv ++ Str.ofString ":" ++ fig mv) 45 6 4 (cm9 (48 + (hv / 10).toNat) (48 + (hv % 10).toNat) (48 + (mv / 10).toNat) (48 + (mv % 10).toNat)) hv mv := by
  rw [word_cm]; exact clock_cm w h0 h1 m0 m1
theorem word_rpt (hv mv : Int) : Str.ofString "+" ++ (fig hv ++ fig mv) = ⟨#[43, 48 + (hv / 10).toNat, 48 + (hv % 10).toNat, 48 + (mv / 10).toNat, 48 + (mv % 10).toNat]⟩ := by kernel_rfl!
theorem ck_rpt (w : World) {hv mv : Int} (h0 : 0 ≤ hv) (h1 : hv < 100) (m0 : 0 ≤ mv) (m1 : mv < 100) : Clock w (Str.ofString "+" ++ (fig hv ++ fig mv)) 43 5 3 (rp9 (48 + (hv / 10).toNat) (48 + (hv % 10).toNat) (48 + (mv / 10).toNat) (48 + (mv % 10).toNat)) hv mv := by
  rw [word_rpt]; exact clock_rp w h0 h1 m0 m1
theorem word_rmt (hv mv : Int) : Str.ofString "-" ++ (fig hv ++ fig mv) = ⟨#[45, 48 + (hv / 10).toNat, 48 + (hv % 10).toNat, 48 + (mv / 10).toNat, 48 + (mv % 10).toNat]⟩ := by kernel_rfl!
theorem ck_rmt (w : World) {hv mv : Int} (h0 : 0 ≤ hv) (h1 : hv < 100) (m0 : 0 ≤ mv) (m1 : mv < 100) : Clock w (Str.ofString "-" ++ (fig hv ++ fig mv)) 45 5 3 (rm9 (48 + (hv / 10).toNat) (48 + (hv % 10).toNat) (48 + (mv / 10).toNat) (48 + (mv % 10).toNat)) hv mv := by
  rw [word_rmt]; exact clock_rm w h0 h1 m0 m1
theorem tail_p (hv mv : Int) : Txt.slice (Str.ofString "+" ++ fig hv ++ fig mv) (some 1) none = fig hv ++ fig mv := by kernel_rfl!
theorem tail_m (hv mv : Int) : Txt.slice (Str.ofString "-" ++ fig hv ++ fig mv) (some 1) none = fig hv ++ fig mv := by kernel_rfl!
theorem len_p (hv mv : Int) : (Str.ofString "+" ++ fig hv ++ fig mv).length ≤ sizeLine := by
  rw [word_rp, sizeLine_eq]; exact Nat.le_of_ble_eq_true rfl
theorem len_m (hv mv : Int) : (Str.ofString "-" ++ fig hv ++ fig mv).length ≤ sizeLine := by
  rw [word_rm, sizeLine_eq]; exact Nat.le_of_ble_eq_true rfl
section
variable {prog : Program} {w : World} {A : Around} {E : Value → Shared → Prop} {h : Heap} {gs : Array GenState} {dr : Drawn} {tk : Nat} {os : OsState} {h₀ : Heap} {L : Addr} {m : Str → Option Value} {news : List (Addr × Obj)} {x y : Str} {t : Tok} {value slice : Expr} {ui : Tok} {Q : Value → Shared → Prop}
theorem tail_cut (hF : Fr h₀ L h m) (hN : News h₀ L h news) (hy : Txt.slice x (some 1) none = y) (hsz : x.length ≤ sizeLine) (k : ∀ h' t' k, Fr h₀ L h' m → News h₀ L h' news → Q (.str y t') ⟨h', gs, dr, k, os⟩)
    (hs : subscripted slice false (.str x t) (.ref h.objs.size) = operate [.ref h.objs.size, .str x t] (getItem (.str x t) (.ref h.objs.size)) := by with_unfolding_all rfl)
    (ht : ∀ r, letTemporaryGo value (.str x t) r = pure () := by intro _; with_unfolding_all rfl) :
    wpAny (model prog w) A (subscriptTail value slice (.str x t) (.ref h.objs.size)) Q E ⟨h.push { cls := .type "slice", data := .fields #[.int 1 ui, .none, .none] }, gs, dr, tk, os⟩ := by
  subst hy
  exact slice_strN_sn (s := ⟨h, gs, dr, tk, os⟩) hF hN k hs ht hsz
end
end Mine
end

/-! L5 -/
section
namespace Mine
theorem item_mi (hv mv : Int) : Txt.item (Str.ofString "+-") 1 ++ (fig hv ++ fig mv) = Str.ofString "-" ++ (fig hv ++ fig mv) := congrArg (· ++ (fig hv ++ fig mv)) (by kernel_rfl!)
theorem item_pi (hv mv : Int) : Txt.item (Str.ofString "+-") 0 ++ (fig hv ++ fig mv) = Str.ofString "+" ++ (fig hv ++ fig mv) := congrArg (· ++ (fig hv ++ fig mv)) (by kernel_rfl!)
theorem ck_rmi (w : World) {hv mv : Int} (h0 : 0 ≤ hv) (h1 : hv < 100) (m0 : 0 ≤ mv) (m1 : mv < 100) : Clock w (Txt.item (Str.ofString "+-") 1 ++ (fig hv ++ fig mv)) 45 5 3 (rm9 (48 + (hv / 10).toNat) (48 + (hv % 10).toNat) (48 + (mv / 10).toNat) (48 + (mv % 10).toNat)) hv mv := by
  rw [item_mi]; exact ck_rmt w h0 h1 m0 m1
theorem ck_rpi (w : World) {hv mv : Int} (h0 : 0 ≤ hv) (h1 : hv < 100) (m0 : 0 ≤ mv) (m1 : mv < 100) : Clock w (Txt.item (Str.ofString "+-") 0 ++ (fig hv ++ fig mv)) 43 5 3 (rp9 (48 + (hv / 10).toNat) (48 + (hv % 10).toNat) (48 + (mv / 10).toNat) (48 + (mv % 10).toNat)) hv mv := by
  rw [item_pi]; exact ck_rpt w h0 h1 m0 m1
section
variable {w : World} {mean : ExcName → Option Value} {mg mb : Str → Option Value} {dp un : Nat} {gd : Option (List Code)} {cn : Str} {cs : Scope} {fa : Addr} {ccd : Value} {cl : List (Str × Addr)} {outer : List Env} {A₀ : Around} {base h₀ : Heap} {L : Addr} {m : Str → Option Value}
  {s : Shared} {Q E : Value → Shared → Prop} {news tups : List (Addr × Obj)} {g : Obj → List (Addr × Obj)} {l x : Addr} {nn : Nat} {vs : List Value} {ps : List (Int × Int)} {qa qb : Int} {t1 t2 : Tok}
theorem use_insP (B : Below A₀ base outer h₀) (F : Fr h₀ L s.heap m) (X : (zh.heap_39 w.params).In h₀) (T : Top topProg loo mean mg mb h₀) (hk : cs.kind = .function) (C1 : CodeHd base 71 67) (C2 : CodeHd base 64 60) (hd : dp + 10 < recursionLimit) (hu : un + 100 < cLine)
    (N : News h₀ L s.heap news) (U : UpdF l (W.listOf vs.toArray nn) news g) (hx : (x, tup [.int qa t1, .int qb t2]) ∈ news) (hs' : ∀ p ∈ tups, p ∈ news) (hn : vs.length ≤ 10) (hp : PairsIn tups vs ps) (hs : Sorted ps)
    (h : ∀ r h' tk', Cut ps (qa, qb) r → Fr h₀ L h' m → News h₀ L h' (g (W.listOf (vs.take r ++ .ref x :: vs.drop r).toArray (nn + 1))) → Q .none { s with heap := h', toks := tk' }) :
    wpAny (model prog w) (ktrTop dp un gd cn cs L fa ccd cl outer) (call (.ref 95) [.ref l, .ref x]) Q E s :=
  use_ins B F X T hk C1 C2 hd hu N U hn (hp.at N hs') hs ⟨_, (N _ hx).1, rfl, 0, rfl⟩ h
end
end Mine
end

/-! L6 -/
section
namespace Mine
theorem turn_end {s : Shared} {h₀ h₁ h' : Heap} {L X e it D ord cd cm : Addr} {oe oi ol od om : Obj} {news tups : List (Addr × Obj)} {m' : Str → Option Value} {tk₁ tk' nz i r nn : Nat} {vs : List Value} {ps : List (Int × Int)} {qa qb : Int} {t1 t2 : Tok}
    (F : Fr h₀ L h' m') (N : News h₀ L h' news) (x1 : (X, tup [.int qa t1, .int qb t2]) ∈ news) (x2 : (e, oe) ∈ news) (x3 : (it, oi) ∈ news) (x4 : (D, ol) ∈ news) (x5 : (ord, W.listOf (vs.take r ++ .ref X :: vs.drop r).toArray (nn + 1)) ∈ news)
    (x6 : (cd, od) ∈ news) (x7 : (cm, om) ∈ news) (x8 : (67, tabObj #[]) ∈ news) (x9 : (60, tabObj #[]) ∈ news) (xt : ∀ p ∈ tups, p ∈ news)
    (hlen : vs.length = i) (hp : PairsIn tups vs ps) (hs : Sorted ps) (hb : ∀ p ∈ ps, -43200 < p.1 ∧ p.1 < 43200 ∧ 0 ≤ p.2) (hc : Cut ps (qa, qb) r) (h1 : -43200 < qa) (h2 : qa < 43200) (h3 : 0 ≤ qb)
    (ho : m' (Str.ofString "order") = some (.ref ord)) (ht : ∀ p ∈ tups, @LT.lt Nat _ (nz + 1) p.1) (hX : @LT.lt Nat _ (nz + 1) X) :
    TurnEnd h₀ L [(e, oe), (it, oi), (D, ol)] { s with heap := h₁, toks := tk₁ } (J1 ord [(cd, od), (cm, om), (67, tabObj #[]), (60, tabObj #[])] nz (i + 1)) .next { s with heap := h', toks := tk' } := by
  have hc1 := hc.1
  have hl := hp.1
  refine ⟨h', tk', m', (ord, W.listOf (vs.take r ++ .ref X :: vs.drop r).toArray (nn + 1)) :: ([(cd, od), (cm, om), (67, tabObj #[]), (60, tabObj #[])] ++ ((X, tup [.int qa t1, .int qb t2]) :: tups)), rfl, F, fun p hp' => N p ?_, vs.take r ++ .ref X :: vs.drop r, ps.take r ++ (qa, qb) :: ps.drop r, nn + 1, (X, tup [.int qa t1, .int qb t2]) :: tups, rfl, ?_, ?_, sorted_insert hs hc, fun p hp' => ?_, ho, fun p hp' => ?_⟩
  · rcases List.mem_append.mp hp' with hp' | hp'
    · rcases List.mem_cons.mp hp' with rfl | hp'
      · exact x2
      · rcases List.mem_cons.mp hp' with rfl | hp'
        · exact x3
        · rcases List.mem_cons.mp hp' with rfl | hp'
          · exact x4
          · cases hp'
    · rcases List.mem_cons.mp hp' with rfl | hp'
      · exact x5
      · rcases List.mem_append.mp hp' with hp' | hp'
        · rcases List.mem_cons.mp hp' with rfl | hp'
          · exact x6
          · rcases List.mem_cons.mp hp' with rfl | hp'
            · exact x7
            · rcases List.mem_cons.mp hp' with rfl | hp'
              · exact x8
              · rcases List.mem_cons.mp hp' with rfl | hp'
                · exact x9
                · cases hp'
        · rcases List.mem_cons.mp hp' with rfl | hp'
          · exact x1
          · exact xt p hp'
  · simp only [List.length_append, List.length_take, List.length_cons, List.length_drop]; omega
  · exact (hp.mono fun p hp' => List.mem_cons_of_mem _ hp').insert hc1 (.head _)
  · rcases List.mem_append.mp hp' with hp' | hp'
    · exact hb p (List.mem_of_mem_take hp')
    · rcases List.mem_cons.mp hp' with rfl | hp'
      · exact ⟨h1, h2, h3⟩
      · exact hb p (List.mem_of_mem_drop hp')
  · rcases List.mem_cons.mp hp' with rfl | hp'
    · exact hX
    · exact ht p hp'
end Mine
end

/-! L7 -/
section
namespace Mine
theorem Calls.more {w : World} {d u d' u' : Nat} {f : Addr} {vs : List Value} {news : List (Addr × Obj)} {s : Shared} {Q : Value → Shared → Prop} (x : Calls w d u f vs news s Q) (h1 : d ≤ d') (h2 : u ≤ u') : Calls w d' u' f vs news s Q := by
  intro mean mg mb dp un gd cn cs a ccd cl outer A₀ base h₀ L m E B F X T hk C1 C2 hd hu N
  exact x mean mg mb dp un gd cn cs a ccd cl outer A₀ base h₀ L m E B F X T hk C1 C2 (by omega) (by omega) N
theorem id_all (w : World) (a : Int) (ta tn : Tok) (h0 : -17179869184 < a) (h1 : a < 17179869184) (s : Shared) (Q : Value → Shared → Prop) (ps67 ps60 : Array Value) (T67 : Tab67 ps67 s.heap) (T60 : Tab60 ps60 s.heap) (hret : DvRet s ps67 ps60 Q (a / 86400) (a % 86400)) :
    Calls w 24 180 86 [.int a ta, .int 86400 tn] [(67, tabObj ps67), (60, tabObj ps60)] s Q := by
  by_cases hn : a < 0
  · exact id_neg w a ta tn hn h0 s Q ps67 ps60 T67 T60 hret
  · exact (id_pos w a ta tn (by omega) (by omega) s Q ps67 ps60 T67 T60 hret).more (by decide) (by decide)
/-- what the rest of the ledger needs of the two tables -/
structure TabSt (h₀ : Heap) (news : List (Addr × Obj)) (c67 c60 : Addr) : Prop where
  t67 : (67, tabObj (fill (64 : Nat) (4 : Nat) c67)) ∈ news
  t60 : (60, tabObj (fill (49 : Nat) (4 : Nat) c60)) ∈ news
  h67 : ∃ x ox, (x, ox) ∈ news ∧ HasCode h₀ x ox c67 q67
  h60 : ∃ x ox, (x, ox) ∈ news ∧ HasCode h₀ x ox c60 q60
theorem code_split2 {h₀ h' : Heap} {L : Addr} {m : Str → Option Value} {r : Addr} {o : Obj} {news : List (Addr × Obj)} {c : Addr} {q : Str} (F : Fr h₀ L h' m) (N : News h₀ L h' ((r, o) :: news)) (cr : h'.CodeRec (.ref c) q) :
    ∃ x ox, News h₀ L h' ((x, ox) :: (r, o) :: news) ∧ HasCode h₀ x ox c q ∧ (x = r ∨ ∃ vs, ox.data = .fields vs) := by
  obtain ⟨c', oc, vs, t, e, ho, hd, hv⟩ := cr
  cases e
  cases hq : h₀.get? c with
  | some o' =>
    have e2 := F.keep _ _ hq
    rw [ho] at e2
    cases e2
    exact ⟨r, o, fun p hp => by
      rcases List.mem_cons.mp hp with rfl | hp
      · exact N _ (.head _)
      · exact N _ hp, fun h _ k => ⟨c, oc, vs, t, rfl, k _ _ hq, hd, hv⟩, .inl rfl⟩
  | none =>
    refine ⟨c, oc, fun p hp => ?_, fun h e _ => ⟨c, oc, vs, t, rfl, e, hd, hv⟩, .inr ⟨vs, hd⟩⟩
    rcases List.mem_cons.mp hp with rfl | hp
    · refine ⟨ho, fun q => ?_, hq⟩
      obtain ⟨oL, es, ep, hL, hLd, _⟩ := F.ns
      rw [show c = L from q, hL] at ho
      cases ho
      rw [hLd] at hd
      cases hd
    · exact N _ hp
section
variable {w : World} {mean : ExcName → Option Value} {mg mb : Str → Option Value} {dp un : Nat} {gd : Option (List Code)} {cn : Str} {cs : Scope} {fa : Addr} {ccd : Value} {cl : List (Str × Addr)} {outer : List Env} {A₀ : Around} {base h₀ : Heap} {L : Addr} {m : Str → Option Value}
  {s : Shared} {Q E : Value → Shared → Prop} {news rest : List (Addr × Obj)} {a : Int} {ta tn : Tok} {c67 c60 : Addr}
/-- int_divmod with the tables still empty -/
theorem use_idA (B : Below A₀ base outer h₀) (F : Fr h₀ L s.heap m) (X : (zh.heap_39 w.params).In h₀) (T : Top topProg loo mean mg mb h₀) (hk : cs.kind = .function) (C1 : CodeHd base 71 67) (C2 : CodeHd base 64 60) (hd : dp + 24 < recursionLimit) (hu : un + 180 < cLine)
    (N : News h₀ L s.heap news) (t67 : (67, tabObj #[]) ∈ news) (t60 : (60, tabObj #[]) ∈ news) (r1 : ∀ p ∈ rest, p ∈ news) (r2 : ∀ p ∈ rest, p.1 ≠ 67) (r3 : ∀ p ∈ rest, p.1 ≠ 60) (h0 : -17179869184 < a) (h1 : a < 17179869184)
    (h : ∀ (D : Addr) (t1 t2 : Tok) (h' : Heap) (tk' : Nat) (c67 c60 x67 x60 : Addr) (o67 o60 : Obj), Fr h₀ L h' m →
      News h₀ L h' ((D, tup [.int (a / 86400) t1, .int (a % 86400) t2]) :: (x67, o67) :: (x60, o60) :: (67, tabObj (fill (64 : Nat) (4 : Nat) c67)) :: (60, tabObj (fill (49 : Nat) (4 : Nat) c60)) :: rest) →
      HasCode h₀ x67 o67 c67 q67 → HasCode h₀ x60 o60 c60 q60 → @LE.le Nat _ s.heap.objs.size D → Q (.ref D) { s with heap := h', toks := tk' }) :
    wpAny (model prog w) (ktrTop dp un gd cn cs L fa ccd cl outer) (call (.ref 86) [.int a ta, .int 86400 tn]) Q E s := by
  have NT : News h₀ L s.heap [(67, tabObj #[]), (60, tabObj #[])] := fun p hp => by
    rcases List.mem_cons.mp hp with rfl | hp
    · exact N _ t67
    · rcases List.mem_cons.mp hp with rfl | hp
      · exact N _ t60
      · cases hp
  refine id_all w a ta tn h0 h1 s Q #[] #[] (.inl rfl) (.inl rfl) ?_ _ _ _ _ _ _ _ _ _ _ _ _ _ _ _ _ _ _ B F X T hk C1 C2 hd hu NT
  intro D t1 t2 h' tk' c67 c60 k hD eD e67 e60 r67 r60 p67 p60
  obtain ⟨F', N'⟩ := dv_news F NT k hD eD e67 e60
  obtain ⟨x60, o60, N2, H60⟩ := code_split F' N' r60
  obtain ⟨x67, o67, N3, H67⟩ := code_split F' N2 r67
  refine h D t1 t2 h' tk' c67 c60 x67 x60 o67 o60 F' (fun p hp => ?_) H67 H60 hD
  rcases List.mem_cons.mp hp with rfl | hp
  · exact N3 _ (.tail _ (.tail _ (.head _)))
  · rcases List.mem_cons.mp hp with rfl | hp
    · exact N3 _ (.head _)
    · rcases List.mem_cons.mp hp with rfl | hp
      · exact N3 _ (.tail _ (.head _))
      · rcases List.mem_cons.mp hp with rfl | hp
        · exact N3 _ (.tail _ (.tail _ (.tail _ (.head _))))
        · rcases List.mem_cons.mp hp with rfl | hp
          · exact N3 _ (.tail _ (.tail _ (.tail _ (.tail _ (.head _)))))
          · have n := N p (r1 p hp)
            refine ⟨k _ _ (fun hm => ?_) n.1, n.2⟩
            rcases List.mem_cons.mp hm with e | hm
            · exact r2 p hp e
            · rcases List.mem_cons.mp hm with e | hm
              · exact r3 p hp e
              · cases hm
/-- the first division of the law -/
theorem use_id1 {qa qb qc : Addr × Obj} {tups : List (Addr × Obj)} {v : Option Value} (B : Below A₀ base outer h₀) (F : Fr h₀ L s.heap m) (X : (zh.heap_39 w.params).In h₀) (T : Top topProg loo mean mg mb h₀) (hk : cs.kind = .function) (C1 : CodeHd base 71 67) (C2 : CodeHd base 64 60) (hd : dp + 24 < recursionLimit) (hu : un + 180 < cLine)
    (N : News h₀ L s.heap (qa :: qb :: qc :: (67, tabObj #[]) :: (60, tabObj #[]) :: tups)) (a1 : qa.1 ≠ 67) (a2 : qa.1 ≠ 60) (b1 : qb.1 ≠ 67) (b2 : qb.1 ≠ 60) (c1 : qc.1 ≠ 67) (c2 : qc.1 ≠ 60) (r2 : ∀ p ∈ tups, p.1 ≠ 67) (r3 : ∀ p ∈ tups, p.1 ≠ 60) (hcell : qb.2.data = .cell v) (h0 : -17179869184 < a) (h1 : a < 17179869184)
    (h : ∀ (D : Addr) (t1 t2 : Tok) (h' : Heap) (tk' : Nat) (c67 c60 x67 x60 : Addr) (o67 o60 : Obj), Fr h₀ L h' m →
      News h₀ L h' ((D, tup [.int (a / 86400) t1, .int (a % 86400) t2]) :: (x67, o67) :: (x60, o60) :: (67, tabObj (fill (64 : Nat) (4 : Nat) c67)) :: (60, tabObj (fill (49 : Nat) (4 : Nat) c60)) :: qa :: qb :: qc :: tups) →
      HasCode h₀ x67 o67 c67 q67 → HasCode h₀ x60 o60 c60 q60 → (@LT.lt Nat _ qa.1 D ∧ @LT.lt Nat _ qb.1 D ∧ @LT.lt Nat _ qc.1 D ∧ @LT.lt Nat _ 67 D ∧ @LT.lt Nat _ 60 D ∧ @Ne Nat x67 qb.1 ∧ @Ne Nat x60 qb.1) → (∀ p ∈ tups, @LT.lt Nat _ p.1 D) → Q (.ref D) { s with heap := h', toks := tk' }) :
    wpAny (model prog w) (ktrTop dp un gd cn cs L fa ccd cl outer) (call (.ref 86) [.int a ta, .int 86400 tn]) Q E s := by
  have t67 : (67, tabObj #[]) ∈ (qa :: qb :: qc :: (67, tabObj #[]) :: (60, tabObj #[]) :: tups) := .tail _ (.tail _ (.tail _ (.head _)))
  have t60 : (60, tabObj #[]) ∈ (qa :: qb :: qc :: (67, tabObj #[]) :: (60, tabObj #[]) :: tups) := .tail _ (.tail _ (.tail _ (.tail _ (.head _))))
  have NT : News h₀ L s.heap [(67, tabObj #[]), (60, tabObj #[])] := fun p hp => by
    rcases List.mem_cons.mp hp with rfl | hp
    · exact N _ t67
    · rcases List.mem_cons.mp hp with rfl | hp
      · exact N _ t60
      · cases hp
  refine id_all w a ta tn h0 h1 s Q #[] #[] (.inl rfl) (.inl rfl) ?_ _ _ _ _ _ _ _ _ _ _ _ _ _ _ _ _ _ _ B F X T hk C1 C2 hd hu NT
  intro D t1 t2 h' tk' c67 c60 k hD eD e67 e60 r67 r60 p67 p60
  obtain ⟨F', N'⟩ := dv_news F NT k hD eD e67 e60
  obtain ⟨x60, o60, N2, H60, y60⟩ := code_split2 F' N' r60
  have N2' : News h₀ L h' ((D, tup [.int (a / 86400) t1, .int (a % 86400) t2]) :: (x60, o60) :: [(67, tabObj (fill (64 : Nat) (4 : Nat) c67)), (60, tabObj (fill (49 : Nat) (4 : Nat) c60))]) := fun p hp => by
    rcases List.mem_cons.mp hp with rfl | hp
    · exact N2 _ (.tail _ (.head _))
    · rcases List.mem_cons.mp hp with rfl | hp
      · exact N2 _ (.head _)
      · exact N2 _ (.tail _ (.tail _ hp))
  obtain ⟨x67, o67, N3, H67, y67⟩ := code_split2 F' N2' r67
  have lt : ∀ p ∈ (qa :: qb :: qc :: (67, tabObj #[]) :: (60, tabObj #[]) :: tups), @LT.lt Nat _ p.1 D := fun p hp => Nat.lt_of_lt_of_le (Heap.lt_size (N p hp).1) hD
  have nb := N qb (.tail _ (.head _))
  have eb : h'.get? qb.1 = some qb.2 := k _ _ (fun hm => by
    rcases List.mem_cons.mp hm with e | hm
    · exact b1 e
    · rcases List.mem_cons.mp hm with e | hm
      · exact b2 e
      · cases hm) nb.1
  have neb : ∀ (x : Addr) (ox : Obj), h'.get? x = some ox → (x = D ∨ ∃ vs, ox.data = .fields vs) → @Ne Nat x qb.1 := fun x ox e y q => by
    rcases y with rfl | ⟨vs, y⟩
    · exact absurd q (Nat.ne_of_gt (lt qb (.tail _ (.head _))))
    · have q' : x = qb.1 := q
      rw [q', eb] at e
      cases e
      rw [hcell] at y
      cases y
  refine h D t1 t2 h' tk' c67 c60 x67 x60 o67 o60 F' (fun p hp => ?_) H67 H60 ⟨lt _ (.head _), lt _ (.tail _ (.head _)), lt _ (.tail _ (.tail _ (.head _))), lt _ t67, lt _ t60, neb _ _ (N3 _ (.head _)).1 y67, neb _ _ (N2 _ (.head _)).1 y60⟩ (fun p hp => lt p (.tail _ (.tail _ (.tail _ (.tail _ (.tail _ hp))))))
  have old : ∀ p, p ∈ (qa :: qb :: qc :: (67, tabObj #[]) :: (60, tabObj #[]) :: tups) → p.1 ≠ 67 → p.1 ≠ 60 → h'.get? p.1 = some p.2 ∧ p.1 ≠ L ∧ h₀.get? p.1 = none := fun p hp n1 n2 => by
    have n := N p hp
    refine ⟨k _ _ (fun hm => ?_) n.1, n.2⟩
    rcases List.mem_cons.mp hm with e | hm
    · exact n1 e
    · rcases List.mem_cons.mp hm with e | hm
      · exact n2 e
      · cases hm
  rcases List.mem_cons.mp hp with rfl | hp
  · exact N2' _ (.head _)
  · rcases List.mem_cons.mp hp with rfl | hp
    · exact N3 _ (.head _)
    · rcases List.mem_cons.mp hp with rfl | hp
      · exact N2 _ (.head _)
      · rcases List.mem_cons.mp hp with rfl | hp
        · exact N2 _ (.tail _ (.tail _ (.head _)))
        · rcases List.mem_cons.mp hp with rfl | hp
          · exact N2 _ (.tail _ (.tail _ (.tail _ (.head _))))
          · rcases List.mem_cons.mp hp with rfl | hp
            · exact old _ (.head _) a1 a2
            · rcases List.mem_cons.mp hp with rfl | hp
              · exact old _ (.tail _ (.head _)) b1 b2
              · rcases List.mem_cons.mp hp with rfl | hp
                · exact old _ (.tail _ (.tail _ (.head _))) c1 c2
                · exact old p (.tail _ (.tail _ (.tail _ (.tail _ (.tail _ hp))))) (r2 p hp) (r3 p hp)
theorem TabSt.tabs (x : TabSt h₀ news c67 c60) (F : Fr h₀ L s.heap m) (N : News h₀ L s.heap news) : Tab67 (fill (64 : Nat) (4 : Nat) c67) s.heap ∧ Tab60 (fill (49 : Nat) (4 : Nat) c60) s.heap := by
  obtain ⟨x1, o1, m1, H1⟩ := x.h67
  obtain ⟨x2, o2, m2, H2⟩ := x.h60
  exact ⟨.inr ⟨c67, rfl, H1 _ (N _ m1).1 F.keep⟩, .inr ⟨c60, rfl, H2 _ (N _ m2).1 F.keep⟩⟩
/-- int_divmod with the tables filled: all stays -/
theorem use_idB (B : Below A₀ base outer h₀) (F : Fr h₀ L s.heap m) (X : (zh.heap_39 w.params).In h₀) (T : Top topProg loo mean mg mb h₀) (hk : cs.kind = .function) (C1 : CodeHd base 71 67) (C2 : CodeHd base 64 60) (hd : dp + 24 < recursionLimit) (hu : un + 180 < cLine)
    (N : News h₀ L s.heap news) (St : TabSt h₀ news c67 c60) (h0 : -17179869184 < a) (h1 : a < 17179869184)
    (h : ∀ (D : Addr) (t1 t2 : Tok) (h' : Heap) (tk' : Nat), Fr h₀ L h' m → News h₀ L h' ((D, tup [.int (a / 86400) t1, .int (a % 86400) t2]) :: news) → @LE.le Nat _ s.heap.objs.size D → Keeps s.heap h' → Q (.ref D) { s with heap := h', toks := tk' }) :
    wpAny (model prog w) (ktrTop dp un gd cn cs L fa ccd cl outer) (call (.ref 86) [.int a ta, .int 86400 tn]) Q E s := by
  have NT : News h₀ L s.heap [(67, tabObj (fill (64 : Nat) (4 : Nat) c67)), (60, tabObj (fill (49 : Nat) (4 : Nat) c60))] := fun p hp => by
    rcases List.mem_cons.mp hp with rfl | hp
    · exact N _ St.t67
    · rcases List.mem_cons.mp hp with rfl | hp
      · exact N _ St.t60
      · cases hp
  obtain ⟨T67, T60⟩ := St.tabs F N
  refine id_all w a ta tn h0 h1 s Q _ _ T67 T60 ?_ _ _ _ _ _ _ _ _ _ _ _ _ _ _ _ _ _ _ B F X T hk C1 C2 hd hu NT
  intro D t1 t2 h' tk' c67' c60' k hD eD e67 e60 r67 r60 p67 p60
  have q67 : fill (64 : Nat) (4 : Nat) c67 = fill (64 : Nat) (4 : Nat) c67' := p67.resolve_left (by simp)
  have q60 : fill (49 : Nat) (4 : Nat) c60 = fill (49 : Nat) (4 : Nat) c60' := p60.resolve_left (by simp)
  rw [← q67] at e67
  rw [← q60] at e60
  have n67 := (N _ St.t67).1
  have n60 := (N _ St.t60).1
  have K : Keeps s.heap h' := fun b o e => by
    by_cases h1 : b = 67
    · subst h1; rw [n67] at e; cases e; exact e67
    · by_cases h2 : b = 60
      · subst h2; rw [n60] at e; cases e; exact e60
      · exact k b o (fun hm => by
          rcases List.mem_cons.mp hm with e | hm
          · exact h1 e
          · rcases List.mem_cons.mp hm with e | hm
            · exact h2 e
            · cases hm) e
  exact h D t1 t2 h' tk' (fr_keeps F K) (news_add F N K hD eD) hD K
end
end Mine
end

/-! L8 -/
section
open PyProof.Rows.LCg PyProof.Rows.LCp
namespace Mine
theorem restP_told {prog : Program} {w : World} {A : Around} {h₀ : Heap} {L : Addr} {m : Str → Option Value} {env : Env} {elt : Expr} {x x₂ : Str} {scope : Scope} {cl : List (Str × Addr)} {s : Shared} {ax : Addr} {vs : List Value} {ps : List (Int × Int)} {tups lits : List (Addr × Obj)} {f : Int × Int → Int × Int}
    {Fin : List Value → List (Addr × Obj) → Prop} (hp : PairsIn tups vs ps)
    (turn : ∀ (q : Int × Int) (t1 t2 : Tok) (all : List (Addr × Obj)) (ys : List Value) I oI C oC D m₂ h tk (E' : Value → Shared → Prop) (Rest : Value → List (Addr × Obj) → Prop), q ∈ ps → (∀ p ∈ tups, p ∈ all) → NsObj oC m₂ → m₂ x = some (.int q.1 t1) → m₂ x₂ = some (.int q.2 t2) → Fr h₀ L h m →
      News h₀ L h ((I, oI) :: (C, oC) :: (D, lst ys) :: (lits ++ all)) → Off3 I C D (lits ++ all) → ((@Ne Nat I C) ∧ (@Ne Nat I D) ∧ (@Ne Nat C D)) →
      (∀ (T : Addr) (t u : Tok), Rest (.ref T) (lits ++ (T, tup [.int (f q).1 t, .int (f q).2 u]) :: all)) →
      wpAny (model prog w) A (eval elt (compEnvC scope cl C env)) (CompEnd h₀ L m { s with heap := h, toks := tk } I oI C oC D (lst ys) (SrcAt h₀ ax vs.toArray) Rest) E' { s with heap := h, toks := tk })
    (fin : ∀ ys all, (∀ p ∈ tups, p ∈ all) → PairsIn all ys (ps.map f) → Fin ys (lits ++ all)) :
    CompRestP prog w A h₀ L m env elt x x₂ scope cl s (SrcAt h₀ ax vs.toArray) (fun i v => vs.toArray[i]? = some v) Fin vs.toArray.size 0 [] (lits ++ tups) := by
  have go : ∀ (k i : Nat) (ys : List Value) (all : List (Addr × Obj)), i + k = vs.length → (∀ p ∈ tups, p ∈ all) → PairsIn all ys ((ps.take i).map f) →
      CompRestP prog w A h₀ L m env elt x x₂ scope cl s (SrcAt h₀ ax vs.toArray) (fun i v => vs.toArray[i]? = some v) Fin k i ys (lits ++ all) := by
    intro k
    induction k with
    | zero =>
      intro i ys all hi hs hP
      refine CompRestP.zero (fin ys all hs ?_)
      rw [List.take_of_length_le (by have := hp.1; omega)] at hP
      exact hP
    | succ k ih =>
      intro i ys all hi hs hP
      refine CompRestP.succ fun v hv => ?_
      have hv' : vs[i]? = some v := by simpa using hv
      obtain ⟨q, a, t, u, e1, e2, e3⟩ := hp.2 i v hv'
      refine ⟨a, _, _, _, 0, e2, List.mem_append_right _ (hs _ e3), rfl, rfl, fun I oI C oC D m₂ h tk E' hC h1 h2 F N off ne => ?_⟩
      refine turn q t u all ys I oI C oC D m₂ h tk E' _ (List.mem_of_getElem? e1) hs hC h1 h2 F N off ne fun T t' u' => ?_
      refine ih (i + 1) (ys ++ [.ref T]) _ (by omega) (fun p hp => List.mem_cons_of_mem _ (hs p hp)) ⟨?_, fun j v' e => ?_⟩
      · have := hP.1
        rw [List.take_add_one, e1]
        simp only [List.length_append, List.length_map, List.length_singleton, List.map_append, Option.toList]
        simp only [List.length_map] at this
        rw [this]
      · have hl := hP.1
        rw [List.take_add_one, e1]
        simp only [List.map_append, Option.toList]
        rcases Nat.lt_trichotomy j ys.length with hj | hj | hj
        · rw [List.getElem?_append_left hj] at e
          obtain ⟨p', a', t1, u1, b1, b2, b3⟩ := hP.2 j v' e
          exact ⟨p', a', t1, u1, by rw [List.getElem?_append_left (by omega)]; exact b1, b2, List.mem_cons_of_mem _ b3⟩
        · subst hj
          rw [List.getElem?_append_right (by omega), Nat.sub_self] at e
          cases e
          exact ⟨f q, T, t', u', by rw [List.getElem?_append_right (by omega), ← hl, Nat.sub_self]; rfl, rfl, .head _⟩
        · rw [List.getElem?_eq_none (by simp only [List.length_append, List.length_singleton]; omega)] at e
          cases e
  rw [List.size_toArray]
  exact go vs.length 0 [] tups (by omega) (fun p h => h) ⟨rfl, fun j v e => by cases e⟩
theorem comp_end_told {s : Shared} {h₀ h h' : Heap} {L I C D T ax : Addr} {oI oC oD o oa : Obj} {m : Str → Option Value} {lits all : List (Addr × Obj)} {its : Array Value} {Rest : Value → List (Addr × Obj) → Prop} {tk tk' n : Nat}
    (off : Off3 I C D (lits ++ all)) (N : News h₀ L h ((I, oI) :: (C, oC) :: (D, oD) :: (lits ++ all))) (F' : Fr h₀ L h' m) (N' : News h₀ L h' ((T, o) :: (I, oI) :: (C, oC) :: (D, oD) :: (lits ++ all))) (hT : @LE.le Nat _ h.objs.size T)
    (hm : (ax, oa) ∈ lits) (hc : oa.cls = .type "list") (hd : oa.data = .seq its n) (r : Rest (.ref T) (lits ++ (T, o) :: all)) :
    CompEnd h₀ L m { s with heap := h, toks := tk } I oI C oC D oD (SrcAt h₀ ax its) Rest (.ref T) { s with heap := h', toks := tk' } := by
  have lt : ∀ p ∈ ((I, oI) :: (C, oC) :: (D, oD) :: (lits ++ all)), p.1 ≠ T := fun p hp => Nat.ne_of_lt (Nat.lt_of_lt_of_le (Heap.lt_size (N p hp).1) hT)
  refine CompEnd.intro (s₁ := { s with heap := h, toks := tk }) F' N' (lits ++ (T, o) :: all) (fun p hp => ?_) (Off3.of fun p hp => ?_) (.inr ⟨oa, List.mem_append_left _ hm, hc, n, hd⟩) r
  · simp only [List.mem_cons, List.mem_append] at hp ⊢
    rcases hp with e | e | e | e | e | e
    · exact .inr (.inl e)
    · exact .inr (.inr (.inl e))
    · exact .inr (.inr (.inr (.inl e)))
    · exact .inr (.inr (.inr (.inr (.inl e))))
    · exact .inl e
    · exact .inr (.inr (.inr (.inr (.inr e))))
  · rcases List.mem_append.mp hp with hp | hp
    · exact off.mem p (List.mem_append_left _ hp)
    · rcases List.mem_cons.mp hp with rfl | hp
      · exact ⟨Ne.symm (lt _ (.head _)), Ne.symm (lt _ (.tail _ (.head _))), Ne.symm (lt _ (.tail _ (.tail _ (.head _))))⟩
      · exact off.mem p (List.mem_append_right _ hp)
end Mine
end

/-! L9 -/
section
namespace Mine
section
variable {w : World} {mean : ExcName → Option Value} {mg mb : Str → Option Value} {dp un : Nat} {gd : Option (List Code)} {cn : Str} {cs : Scope} {fa : Addr} {ccd : Value} {cl : List (Str × Addr)} {outer : List Env} {A₀ : Around} {base h₀ : Heap} {L : Addr} {m : Str → Option Value}
  {s : Shared} {Q E : Value → Shared → Prop} {news tups : List (Addr × Obj)} {l x : Addr} {nn : Nat} {vs : List Value} {ps : List (Int × Int)} {qa qb : Int} {t1 t2 : Tok}
theorem use_bisP (B : Below A₀ base outer h₀) (F : Fr h₀ L s.heap m) (X : (zh.heap_39 w.params).In h₀) (T : Top topProg loo mean mg mb h₀) (hk : cs.kind = .function) (C1 : CodeHd base 71 67) (C2 : CodeHd base 64 60) (hd : dp + 6 < recursionLimit) (hu : un + 60 < cLine)
    (N : News h₀ L s.heap news) (hl : (l, W.listOf vs.toArray nn) ∈ news) (hx : (x, tup [.int qa t1, .int qb t2]) ∈ news) (hs' : ∀ p ∈ tups, p ∈ news) (hn : vs.length ≤ 10) (hp : PairsIn tups vs ps) (hs : Sorted ps)
    (h : ∀ (r : Nat) t h' tk', Cut ps (qa, qb) r → @LE.le Nat _ r 10 → Fr h₀ L h' m → News h₀ L h' news → Q (.int (r : Nat) t) { s with heap := h', toks := tk' }) :
    wpAny (model prog w) (ktrTop dp un gd cn cs L fa ccd cl outer) (call (.ref 104) [.ref l, .ref x]) Q E s :=
  use_bis2 (q := (qa, qb)) B F X T hk C1 C2 hd hu N ⟨_, (N _ hl).1, rfl, nn, rfl⟩ hn (hp.at N hs') hs ⟨_, (N _ hx).1, rfl, 0, rfl⟩ fun r t h' tk' hc => h r t h' tk' hc (Nat.le_trans hc.1 (Nat.le_trans (Nat.le_of_eq hp.1.symm) hn))
end
end Mine
end

/-! L10 -/
section
open PyProof.Rows.LCg PyProof.Rows.LCp
namespace Mine
/-- these values are these ints -/
def IntsAt (ys : List Value) (ns : List Int) : Prop := ys.length = ns.length ∧ ∀ (i : Nat) n, ns[i]? = some n → ∃ t, ys[i]? = some (.int n t)
theorem restP_int {prog : Program} {w : World} {A : Around} {h₀ : Heap} {L : Addr} {m : Str → Option Value} {env : Env} {elt : Expr} {x x₂ : Str} {scope : Scope} {cl : List (Str × Addr)} {s : Shared} {ax : Addr} {vs : List Value} {ps : List (Int × Int)} {tups news : List (Addr × Obj)} {f : Int × Int → Int}
    {Fin : List Value → List (Addr × Obj) → Prop} (hp : PairsIn tups vs ps) (hs : ∀ p ∈ tups, p ∈ news)
    (turn : ∀ (q : Int × Int) (t1 t2 : Tok) (ys : List Value) I oI C oC D m₂ h tk (E' : Value → Shared → Prop) (Rest : Value → List (Addr × Obj) → Prop), q ∈ ps → NsObj oC m₂ → m₂ x = some (.int q.1 t1) → m₂ x₂ = some (.int q.2 t2) → Fr h₀ L h m →
      News h₀ L h ((I, oI) :: (C, oC) :: (D, lst ys) :: news) → Off3 I C D news → ((@Ne Nat I C) ∧ (@Ne Nat I D) ∧ (@Ne Nat C D)) → (∀ t : Tok, Rest (.int (f q) t) news) →
      wpAny (model prog w) A (eval elt (compEnvC scope cl C env)) (CompEnd h₀ L m { s with heap := h, toks := tk } I oI C oC D (lst ys) (SrcAt h₀ ax vs.toArray) Rest) E' { s with heap := h, toks := tk })
    (fin : ∀ ys, IntsAt ys (ps.map f) → Fin ys news) :
    CompRestP prog w A h₀ L m env elt x x₂ scope cl s (SrcAt h₀ ax vs.toArray) (fun i v => vs.toArray[i]? = some v) Fin vs.toArray.size 0 [] news := by
  have go : ∀ (k i : Nat) (ys : List Value), i + k = vs.length → IntsAt ys ((ps.take i).map f) →
      CompRestP prog w A h₀ L m env elt x x₂ scope cl s (SrcAt h₀ ax vs.toArray) (fun i v => vs.toArray[i]? = some v) Fin k i ys news := by
    intro k
    induction k with
    | zero =>
      intro i ys hi hP
      refine CompRestP.zero (fin ys ?_)
      rw [List.take_of_length_le (by have := hp.1; omega)] at hP
      exact hP
    | succ k ih =>
      intro i ys hi hP
      refine CompRestP.succ fun v hv => ?_
      have hv' : vs[i]? = some v := by simpa using hv
      obtain ⟨q, a, t, u, e1, e2, e3⟩ := hp.2 i v hv'
      refine ⟨a, _, _, _, 0, e2, hs _ e3, rfl, rfl, fun I oI C oC D m₂ h tk E' hC h1 h2 F N off ne => ?_⟩
      refine turn q t u ys I oI C oC D m₂ h tk E' _ (List.mem_of_getElem? e1) hC h1 h2 F N off ne fun t' => ?_
      have hl := hP.1
      refine ih (i + 1) (ys ++ [.int (f q) t']) (by omega) ⟨?_, fun j n e => ?_⟩
      · rw [List.take_add_one, e1]
        simp only [List.length_append, List.length_map, List.length_singleton, List.map_append, Option.toList]
        simp only [List.length_map] at hl
        rw [hl]
      · rw [List.take_add_one, e1] at e
        simp only [List.map_append, Option.toList] at e
        rcases Nat.lt_trichotomy j ys.length with hj | hj | hj
        · rw [List.getElem?_append_left (by omega)] at e
          obtain ⟨t1, b1⟩ := hP.2 j n e
          exact ⟨t1, by rw [List.getElem?_append_left hj]; exact b1⟩
        · subst hj
          rw [List.getElem?_append_right (by omega), ← hl, Nat.sub_self] at e
          cases e
          exact ⟨t', by rw [List.getElem?_append_right (by omega), Nat.sub_self]; rfl⟩
        · rw [List.getElem?_append_right (by omega), ← hl] at e
          obtain ⟨z, hz⟩ : ∃ z, j - ys.length = z + 1 := ⟨j - ys.length - 1, by omega⟩
          rw [hz] at e
          cases e
  rw [List.size_toArray]
  exact go vs.length 0 [] (by omega) ⟨rfl, fun j v e => by cases e⟩
end Mine
end

/-! L11 -/
section
namespace Mine
/-- what the law's first division makes of a pair -/
abbrev toldOf (M : Int) (q : Int × Int) : Int × Int := ((M + q.1) / 86400, (M + q.1) % 86400)
/-- the days that the law told stand in three blocks -/
theorem blocks {ps : List (Int × Int)} {M : Int} {lo hi : Nat} (hb : ∀ p ∈ ps, -43200 < p.1 ∧ p.1 < 43200 ∧ 0 ≤ p.2) (c1 : Cut ps (0 - M % 86400, 0 - 1) lo) (c2 : Cut ps (86400 - M % 86400, 0 - 1) hi) :
    (ps.map (toldOf M)).map (fun q => q.1 - M / 86400) = List.replicate lo (-1) ++ List.replicate (hi - lo) 0 ++ List.replicate (ps.length - hi) 1 := by
  obtain ⟨l1, a1, b1⟩ := c1
  obtain ⟨l2, a2, b2⟩ := c2
  have hle : lo ≤ hi := by
    by_cases h : lo ≤ hi
    · exact h
    · exfalso
      have hlt : hi < ps.length := by omega
      have e : ps[hi]? = some ps[hi] := List.getElem?_eq_getElem hlt
      have x := a1 hi _ (by omega) e
      have y := b2 hi _ (Nat.le_refl _) e
      unfold plt at x y
      simp only at x y
      omega
  apply List.ext_getElem?
  intro i
  rw [List.getElem?_map, List.getElem?_map]
  by_cases hi' : i < ps.length
  · have e : ps[i]? = some ps[i] := List.getElem?_eq_getElem hi'
    have bd := hb _ (List.mem_of_getElem? e)
    rw [e]
    simp only [Option.map_some, toldOf]
    generalize ps[i] = p at e bd
    by_cases h1 : i < lo
    · have x := a1 i p h1 e
      unfold plt at x
      simp only at x
      rw [List.getElem?_append_left (by simp; omega), List.getElem?_append_left (by simp; omega), List.getElem?_replicate, if_pos h1]
      congr 1
      omega
    · have x := b1 i p (by omega) e
      unfold plt at x
      simp only at x
      by_cases h2 : i < hi
      · have y := a2 i p h2 e
        unfold plt at y
        simp only at y
        rw [List.getElem?_append_left (by simp; omega), List.getElem?_append_right (by simp; omega), List.getElem?_replicate, List.length_replicate, if_pos (by omega)]
        congr 1
        omega
      · have y := b2 i p (by omega) e
        unfold plt at y
        simp only at y
        rw [List.getElem?_append_right (by simp; omega), List.getElem?_replicate, if_pos (by simp; omega)]
        congr 1
        omega
  · rw [List.getElem?_eq_none (by omega), List.getElem?_eq_none (by simp; omega)]
    rfl
/-- the same, as the walk writes it -/
theorem blocksW {ps : List (Int × Int)} {M : Int} {lo hi : Nat} (hb : ∀ p ∈ ps, -43200 < p.1 ∧ p.1 < 43200 ∧ 0 ≤ p.2) (c1 : Cut ps (0 - M % 86400, 0 - 1) lo) (c2 : Cut ps (86400 - M % 86400, 0 - 1) hi) {a b c : Int} (ha : a = (lo : Int)) (hb' : b = (hi : Int) - (lo : Int)) (hc : c = (ps.length : Int) - (hi : Int)) :
    (ps.map (toldOf M)).map (fun q => q.1 - M / 86400) = List.replicate a.toNat (0 - 1) ++ List.replicate b.toNat 0 ++ List.replicate c.toNat 1 := by
  rw [blocks hb c1 c2]
  have e1 : a.toNat = lo := by omega
  have e2 : b.toNat = hi - lo := by omega
  have e3 : c.toNat = ps.length - hi := by omega
  rw [e1, e2, e3]
  rfl
/-- neighbours of one day lie in order -/
theorem neighbours {ps : List (Int × Int)} {M : Int} (hs : Sorted ps) {i : Nat} {p q : Int × Int} (hp : (ps.map (toldOf M))[i]? = some p) (hq : (ps.map (toldOf M))[i + 1]? = some q) : ¬ (q.1 = p.1 ∧ q.2 < p.2) := by
  rw [List.getElem?_map, Option.map_eq_some_iff] at hp hq
  obtain ⟨p', e1, rfl⟩ := hp
  obtain ⟨q', e2, rfl⟩ := hq
  have h := hs i (i + 1) p' q' (by omega) e1 e2
  unfold plt at h
  unfold toldOf
  simp only at *
  omega
theorem back (M f : Int) : (M + f) / 86400 * 86400 + (M + f) % 86400 - f = M := by omega
end Mine
end

/-! L12 -/
section
namespace Mine
/-- this value stands at this place -/
def HereAt (vs : List Value) (i : Nat) (v : Value) : Prop := vs[i]? = some v
/-- the same, of the place before -/
def BeforeAt (vs : List Value) (i : Nat) (v : Value) : Prop := vs[i]? = some v
section
variable {prog : Program} {w : World} {A : Around} {E : Value → Shared → Prop} {s : Shared} {h₀ : Heap} {L : Addr} {news : List (Addr × Obj)} {vs : List Value} {l : Addr} {i : Nat} {v : Value} {k : Int} {u : Tok} {value slice : Expr} {Q : Value → Shared → Prop}
theorem item_here (N : News h₀ L s.heap news) (hx : HereAt vs i v) (hl : (l, LCg.lst vs) ∈ news) (hn : vs.length ≤ 10) (hk : k = (i : Int)) (h : Q v s)
    (hs : subscripted slice false (.ref l) (.int k u) = operate [.ref l, .int k u] (getItem (.ref l) (.int k u)) := by with_unfolding_all rfl) (hg : ∀ r, letTemporaryGo value (.ref l) r = pure () := by intro _; with_unfolding_all rfl) :
    wpAny (model prog w) A (subscriptTail value slice (.ref l) (.int k u)) Q E s := by
  have hi : i < vs.length := (List.getElem?_eq_some_iff.mp hx).1
  have e : k.toNat = i := by omega
  exact item_list (⟨_, (N _ hl).1, rfl, _, rfl⟩ : s.heap.IsList l vs.toArray) (by omega) (by omega) (by rw [e]; simpa [HereAt] using hx) h hs hg
theorem item_before (N : News h₀ L s.heap news) (hx : BeforeAt vs i v) (hl : (l, LCg.lst vs) ∈ news) (hn : vs.length ≤ 10) (hk : k = (i : Int)) (h : Q v s)
    (hs : subscripted slice false (.ref l) (.int k u) = operate [.ref l, .int k u] (getItem (.ref l) (.int k u)) := by with_unfolding_all rfl) (hg : ∀ r, letTemporaryGo value (.ref l) r = pure () := by intro _; with_unfolding_all rfl) :
    wpAny (model prog w) A (subscriptTail value slice (.ref l) (.int k u)) Q E s := item_here N hx hl hn hk h hs hg
end
/-- a turn's end: this part of the ledger stands, the frame is so -/
def TurnKept (h₀ : Heap) (L : Addr) (keep : List (Addr × Obj)) (pin : (Str → Option Value) → Prop) (s₁ : Shared) (f : Flow) (s₂ : Shared) : Prop :=
  match f with
  | .ret _ => False
  | .brk => False
  | _ => ∃ h' tk m' news', s₂ = { s₁ with heap := h', toks := tk } ∧ Fr h₀ L h' m' ∧ News h₀ L h' news' ∧ (∀ p ∈ keep, p ∈ news') ∧ pin m'
/-- the names that the law's last loops read -/
def Pins (D : Addr) (o tv : Value) (m : Str → Option Value) : Prop := m (Str.ofString "told") = some (.ref D) ∧ m (Str.ofString "order") = some o ∧ m (Str.ofString "time") = some tv
abbrev pinned (D : Addr) (o tv : Value) (m : Str → Option Value) : Str → Option Value := fun y => if y = Str.ofString "told" then some (.ref D) else if y = Str.ofString "order" then some o else if y = Str.ofString "time" then some tv else m y
theorem Pins.eq {D : Addr} {o tv : Value} {m : Str → Option Value} (x : Pins D o tv m) : pinned D o tv m = m := by
  obtain ⟨a, b, c⟩ := x
  funext y
  unfold pinned
  by_cases h1 : y = Str.ofString "told"
  · rw [if_pos h1, h1, a]
  · by_cases h2 : y = Str.ofString "order"
    · rw [if_neg h1, if_pos h2, h2, b]
    · by_cases h3 : y = Str.ofString "time"
      · rw [if_neg h1, if_neg h2, if_pos h3, h3, c]
      · rw [if_neg h1, if_neg h2, if_neg h3]
section
variable {prog : Program} {w : World} {A : Around} {E : Value → Shared → Prop} {s : Shared} {env : Env} {h₀ : Heap}
theorem loop2 {Q : Flow → Shared → Prop} {body : List Stmt} {r D : Addr} {b₀ : Int} {t₀ u₀ v₀ : Tok} {ys : List Value} {qs : List (Int × Int)} {m₀ : Str → Option Value} {news all : List (Addr × Obj)} {o tv : Value}
    (hh : A.handled = none) (hr : IsRange s.heap r 1 b₀ 1 t₀ u₀ v₀) (hb : b₀ = (ys.length : Int)) (hlen : ys.length ≤ 10) (F : Fr h₀ env.locals s.heap m₀) (N : News h₀ env.locals s.heap news) (hp : PairsIn all ys qs) (hs : ∀ p ∈ all, p ∈ news)
    (hpin : Pins D o tv m₀)
    (turn : ∀ (i : Nat) (p q : Int × Int) (a b : Addr) ta tb tc td (k : Int) t (m₁ : Str → Option Value) h tk own, qs[i]? = some p → qs[i + 1]? = some q → BeforeAt ys i (.ref a) → HereAt ys (i + 1) (.ref b) → k = (i : Int) + 1 → @LT.lt Nat _ i 10 →
      Fr h₀ env.locals h (fun y => if y = Str.ofString "k" then some (.int k t) else pinned D o tv m₁ y) →
      News h₀ env.locals h ((a, tup [.int p.1 ta, .int p.2 tb]) :: (b, tup [.int q.1 tc, .int q.2 td]) :: (news ++ own)) →
      wpAny (model prog w) A (execs body env) (TurnKept h₀ env.locals (news ++ own) (Pins D o tv) { s with heap := h, toks := tk }) E { s with heap := h, toks := tk })
    (done : ∀ (m' : Str → Option Value) h tk, Fr h₀ env.locals h (pinned D o tv m') → News h₀ env.locals h news → Q .next { s with heap := h, toks := tk }) :
    wpAny (model prog w) A (pyIter (.ref r)) (fun it s₂ => LoopAtV prog w A h₀ env (Str.ofString "k") body Q E it s₂) E s := by
  subst hb
  refine kpr_invN (n := ((ys.length : Int) - 1).toNat) (fun _ m nx => nx = news ∧ Pins D o tv m) hh hr (small_one (by decide) (by decide) (by omega) (by omega)) (rangeSize_nat _ _) F N ⟨rfl, hpin⟩ ?_ ?_
  · rintro i k t m₁ nx h tk own hk _ ⟨rfl, hm⟩ F₁ N₁
    have hi : i < ((ys.length : Int) - 1).toNat := by
      have := (List.getElem?_eq_some_iff.mp hk).1
      rwa [rangeKs_length] at this
    have ek : k = (i : Int) + 1 := by
      have : (rangeKs 1 ((ys.length : Int) - 1).toNat)[i]? = some (1 + (i : Int)) := by
        unfold rangeKs
        rw [List.getElem?_map, List.getElem?_range hi]
        rfl
      rw [this] at hk
      cases hk
      omega
    have i1 : i < ys.length := by omega
    have i2 : i + 1 < ys.length := by omega
    obtain ⟨p, a, ta, tb, p1, p2, p3⟩ := hp.2 i _ (List.getElem?_eq_getElem i1)
    obtain ⟨q, b, tc, td, q1, q2, q3⟩ := hp.2 (i + 1) _ (List.getElem?_eq_getElem i2)
    have F₂ : Fr h₀ env.locals h (fun y => if y = Str.ofString "k" then some (.int k t) else pinned D o tv m₁ y) := by
      have e3 : (fun y => if y = Str.ofString "k" then some (.int k t) else pinned D o tv m₁ y) = fun y => if y = Str.ofString "k" then some (.int k t) else m₁ y := by
        funext y
        exact congrArg (fun z => if y = Str.ofString "k" then some (.int k t) else z) (congrFun hm.eq y)
      rw [e3]; exact F₁
    have N₂ : News h₀ env.locals h ((a, tup [.int p.1 ta, .int p.2 tb]) :: (b, tup [.int q.1 tc, .int q.2 td]) :: (nx ++ own)) := fun z hz => by
      rcases List.mem_cons.mp hz with rfl | hz
      · exact N₁ _ (List.mem_append_left _ (hs _ p3))
      · rcases List.mem_cons.mp hz with rfl | hz
        · exact N₁ _ (List.mem_append_left _ (hs _ q3))
        · exact N₁ _ hz
    refine wpAny_mono (turn i p q a b ta tb tc td k t m₁ h tk own p1 q1 (by rw [BeforeAt, List.getElem?_eq_getElem i1, p2]) (by rw [HereAt, List.getElem?_eq_getElem i2, q2]) ek (by show i < 10; omega) F₂ N₂) (fun f s₂ e => ?_) fun _ _ x => x
    have fin : (∃ h' tk' m' news', s₂ = { s with heap := h', toks := tk' } ∧ Fr h₀ env.locals h' m' ∧ News h₀ env.locals h' news' ∧ (∀ p ∈ nx ++ own, p ∈ news') ∧ Pins D o tv m') →
        InvEndN h₀ env.locals (fun m nx' => nx' = nx ∧ Pins D o tv m) own (nx.map (·.1)) { s with heap := h, toks := tk } s₂ := by
      rintro ⟨h', tk', m', news', rfl, F', N', hsub, hm'⟩
      exact ⟨h', tk', m', news', nx, rfl, F', N', fun z hz => hsub z (List.mem_append_left _ hz), fun z hz => hsub z (List.mem_append_right _ hz), rfl, rfl, hm'⟩
    cases f with
    | ret v => exact e.elim
    | brk => exact e.elim
    | next => exact fin e
    | cont => exact fin e
  · rintro m₁ nx h tk ⟨rfl, hm⟩ F₁ N₁
    refine done m₁ h tk ?_ N₁
    rw [hm.eq]; exact F₁
theorem loop3 {Q : Flow → Shared → Prop} {elts : List Expr} {x1 : Nat} {pt : Pos} {body : List Stmt} {ord D : Addr} {vs ys : List Value} {ps : List (Int × Int)} {f : Int × Int → Int × Int} {nn : Nat} {m₀ : Str → Option Value} {news tups all : List (Addr × Obj)} {o tv : Value}
    (F : Fr h₀ env.locals s.heap m₀) (N : News h₀ env.locals s.heap news) (ho : (ord, W.listOf vs.toArray nn) ∈ news) (hlen : vs.length ≤ 10) (hp : PairsIn tups vs ps) (hs : ∀ p ∈ tups, p ∈ news) (hq : PairsIn all ys (ps.map f)) (hsa : ∀ p ∈ all, p ∈ news)
    (hpin : Pins D o tv m₀)
    (turn : ∀ (i : Nat) (q : Int × Int) (a b : Addr) ta tb tc td (m₁ : Str → Option Value) h₁ tk₁ T tk oe oi ol e it, q ∈ ps → HereAt ys i (.ref b) → @LT.lt Nat _ i 10 → Fr h₀ env.locals h₁ (pinned D o tv m₁) →
      News h₀ env.locals h₁ ((T, { cls := .type "tuple", data := .seq #[.int (i : Nat) tk, .ref a] }) :: (a, tup [.int q.1 ta, .int q.2 tb]) :: (b, tup [.int (f q).1 tc, .int (f q).2 td]) :: (e, oe) :: (it, oi) :: (ord, ol) :: news) →
      wpAny (model prog w) A (assign (.Tuple elts x1 pt) env (.ref T)) (fun _ s₂ => wpAny (model prog w) A (execs body env) (TurnKept h₀ env.locals ((e, oe) :: (it, oi) :: (ord, ol) :: news) (Pins D o tv) { s with heap := h₁, toks := tk₁ }) (fun _ _ => False) s₂) (fun _ _ => False) { s with heap := h₁, toks := tk₁ })
    (done : ∀ (m' : Str → Option Value) h' tk, Fr h₀ env.locals h' m' → News h₀ env.locals h' news → Q .next { s with heap := h', toks := tk }) :
    wpAny (model prog w) A (call (.type "enumerate") [.ref ord]) (EnumAt prog w A h₀ env elts x1 pt body Q) E s := by
  refine enum_at (fun _ m nx => nx = news ∧ Pins D o tv m) F N (N _ ho) rfl rfl (fun nz hz => ⟨⟨rfl, hpin⟩, fun i m nx hj p hp => ?_⟩) (fun i v m₁ nx h₁ tk₁ T tk oe oi ol e it hv hj F₁ N₁ lt he hit => ?_) (fun h' tk m' nx F' N' hj => ?_)
  · obtain ⟨rfl, _⟩ := hj
    subst hz
    have := Heap.lt_size (N p hp).1
    exact ⟨Nat.ne_of_lt (Nat.lt_succ_of_lt this), Nat.ne_of_lt this⟩
  · obtain ⟨rfl, hm⟩ := hj
    have hi : i < vs.length := (List.getElem?_eq_some_iff.mp hv).1
    have hi2 : i < ys.length := by
      have h1 := hp.1
      have h2 := hq.1
      rw [List.length_map] at h2
      omega
    obtain ⟨q, a, ta, tb, p1, p2, p3⟩ := hp.2 i _ hv
    obtain ⟨q', b, tc, td, q1, q2, q3⟩ := hq.2 i _ (List.getElem?_eq_getElem hi2)
    rw [List.getElem?_map, p1] at q1
    cases q1
    subst p2
    have N₂ : News h₀ env.locals h₁ ((T, { cls := .type "tuple", data := .seq #[.int (i : Nat) tk, .ref a] }) :: (a, tup [.int q.1 ta, .int q.2 tb]) :: (b, tup [.int (f q).1 tc, .int (f q).2 td]) :: (e, oe) :: (it, oi) :: (ord, ol) :: nx) := fun z hz => by
      have up : ∀ p ∈ nx, p ∈ ((T, ({ cls := .type "tuple", data := .seq #[.int (i : Nat) tk, .ref a] } : Obj)) :: (e, oe) :: (it, oi) :: (ord, ol) :: nx) := fun p hp => .tail _ (.tail _ (.tail _ (.tail _ hp)))
      rcases List.mem_cons.mp hz with rfl | hz
      · exact N₁ _ (.head _)
      · rcases List.mem_cons.mp hz with rfl | hz
        · exact N₁ _ (up _ (hs _ p3))
        · rcases List.mem_cons.mp hz with rfl | hz
          · exact N₁ _ (up _ (hsa _ q3))
          · exact N₁ _ (.tail _ hz)
    refine wpAny_mono (turn i q a b ta tb tc td m₁ h₁ tk₁ T tk oe oi ol e it (List.mem_of_getElem? p1) (by rw [HereAt, List.getElem?_eq_getElem hi2, q2]) (by show i < 10; omega) (by rw [hm.eq]; exact F₁) N₂) (fun _ s₂ h₂ => wpAny_mono h₂ (fun fl s₃ h₃ => ?_) fun _ _ x => x) fun _ _ x => x
    have fin : (∃ h' tk' m' news', s₃ = { s with heap := h', toks := tk' } ∧ Fr h₀ env.locals h' m' ∧ News h₀ env.locals h' news' ∧ (∀ p ∈ ((e, oe) :: (it, oi) :: (ord, ol) :: nx : List (Addr × Obj)), p ∈ news') ∧ Pins D o tv m') →
        ∃ h' tk m' news', s₃ = { s with heap := h', toks := tk } ∧ Fr h₀ env.locals h' m' ∧ News h₀ env.locals h' ([(e, oe), (it, oi), (ord, ol)] ++ news') ∧ news' = nx ∧ Pins D o tv m' := by
      rintro ⟨h', tk', m', news', rfl, F', N', hsub, hm'⟩
      exact ⟨h', tk', m', nx, rfl, F', fun z hz => N' z (hsub z hz), rfl, hm'⟩
    cases fl with
    | ret v => exact h₃.elim
    | brk => exact h₃.elim
    | next => exact fin h₃
    | cont => exact fin h₃
  · obtain ⟨rfl, _⟩ := hj
    exact done m' h' tk F' N'
end
section
variable {w : World} {mean : ExcName → Option Value} {mg mb : Str → Option Value} {dp un : Nat} {gd : Option (List Code)} {cn : Str} {cs : Scope} {fa : Addr} {ccd : Value} {cl : List (Str × Addr)} {outer : List Env} {A₀ : Around} {base h₀ : Heap} {L : Addr} {m : Str → Option Value}
  {s : Shared} {Q E : Value → Shared → Prop} {news : List (Addr × Obj)} {tn : Tok}
theorem use_utc (B : Below A₀ base outer h₀) (F : Fr h₀ L s.heap m) (X : (zh.heap_39 w.params).In h₀) (T : Top topProg loo mean mg mb h₀) (hk : cs.kind = .function) (C1 : CodeHd base 71 67) (C2 : CodeHd base 64 60) (hd : dp + 6 < recursionLimit) (hu : un + 40 < cLine)
    (N : News h₀ L s.heap news) (h : ∀ t h' tk', Fr h₀ L h' m → News h₀ L h' news → Q (.int 0 t) { s with heap := h', toks := tk' }) :
    wpAny (model prog w) (ktrTop dp un gd cn cs L fa ccd cl outer) (call (.ref 44) [.str (Str.ofString "UTC") tn]) Q E s :=
  off_utc w tn s Q (fun t h' tk' k => h t h' tk' (fr_keeps F k) (news_keeps N k)) _ _ _ _ _ _ _ _ _ _ _ _ _ _ _ _ _ _ B F X T hk C1 C2 hd hu News.nil
theorem use_none (B : Below A₀ base outer h₀) (F : Fr h₀ L s.heap m) (X : (zh.heap_39 w.params).In h₀) (T : Top topProg loo mean mg mb h₀) (hk : cs.kind = .function) (C1 : CodeHd base 71 67) (C2 : CodeHd base 64 60) (hd : dp + 6 < recursionLimit) (hu : un + 40 < cLine)
    (N : News h₀ L s.heap news) (h : ∀ h' tk', Fr h₀ L h' m → News h₀ L h' news → Q .none { s with heap := h', toks := tk' }) :
    wpAny (model prog w) (ktrTop dp un gd cn cs L fa ccd cl outer) (call (.ref 44) [.str (Str.ofString "no clock") tn]) Q E s :=
  off_none w tn s Q (fun h' tk' k => h h' tk' (fr_keeps F k) (news_keeps N k)) _ _ _ _ _ _ _ _ _ _ _ _ _ _ _ _ _ _ B F X T hk C1 C2 hd hu News.nil
end
end Mine
end

/-! L13 -/
section
open PyProof.Rows.LCg PyProof.Rows.LCp
namespace Mine
theorem IntsAt.are {ys : List Value} {ns : List Int} (x : IntsAt ys ns) : IntsAre ys ns := by
  induction ys generalizing ns with
  | nil =>
    have h := x.1
    cases ns with
    | nil => exact .nil
    | cons n r => cases h
  | cons y r ih =>
    have h := x.1
    cases ns with
    | nil => cases h
    | cons n q =>
      obtain ⟨t, e⟩ := x.2 0 n rfl
      cases e
      exact .cons n t (ih ⟨by simpa using h, fun i k e => by simpa using x.2 (i + 1) k (by simpa using e)⟩)
theorem rep_flat (c : Int) : ∀ k : Nat, (List.replicate k [c]).flatten = List.replicate k c
  | 0 => rfl
  | k + 1 => by rw [List.replicate_succ, List.flatten_cons, rep_flat c k]; rfl
theorem comp_end_int {s : Shared} {h₀ h h' : Heap} {L I C D ax : Addr} {oI oC oD oa : Obj} {m : Str → Option Value} {news : List (Addr × Obj)} {its : Array Value} {Rest : Value → List (Addr × Obj) → Prop} {y : Value} {tk tk' n : Nat}
    (off : Off3 I C D news) (F' : Fr h₀ L h' m) (N' : News h₀ L h' ((I, oI) :: (C, oC) :: (D, oD) :: news)) (hm : (ax, oa) ∈ news) (hc : oa.cls = .type "list") (hd : oa.data = .seq its n) (r : Rest y news) :
    CompEnd h₀ L m { s with heap := h, toks := tk } I oI C oC D oD (SrcAt h₀ ax its) Rest y { s with heap := h', toks := tk' } :=
  CompEnd.intro (s₁ := { s with heap := h, toks := tk }) F' N' news (fun p hp => hp) off (.inr ⟨oa, hm, hc, n, hd⟩) r
section
variable {prog : Program} {w : World} {A : Around} {E : Value → Shared → Prop} {s : Shared} {h₀ : Heap} {L : Addr} {m : Str → Option Value} {news : List (Addr × Obj)} {l a b : Addr} {vs us ws : List Value} {ns ms : List Int} {c x : Int} {t u : Tok} {n1 n2 : Nat} {Q : Value → Shared → Prop}
/-- a list of one int, so many times -/
theorem mul_l (Fm : Fr h₀ L s.heap m) (N : News h₀ L s.heap news) (hl : (l, W.listOf #[.int c t] n1) ∈ news) (h0 : -10 ≤ x) (h1 : x ≤ 10)
    (h : ∀ (D : Addr) us h', Fr h₀ L h' m → News h₀ L h' ((D, W.listOf (List.toArray us) 0) :: news) → (∀ p ∈ news, p.1 < D) → IntsAre us (List.replicate x.toNat c) → @LE.le Nat _ us.length 10 → Q (.ref D) { s with heap := h' }) :
    wpAny (model prog w) A (binaryOp .Mult (.ref l) (.int x u)) Q E s := by
  have hi : IntsAre [Value.int c t] [c] := .cons c t .nil
  refine KM.mul (vs := [.int c t]) Fm N (News.isList N hl) hi (by omega) (by omega) (by simp only [List.length_cons, List.length_nil]; omega) fun D h' F' N' l1 i1 n s1 s2 e1 e2 => ?_
  rw [rep_flat] at i1
  refine h D _ h' F' N' l1 i1 ?_
  rw [i1.length, List.length_replicate]
  show x.toNat ≤ 10
  omega
theorem add_l (F : Fr h₀ L s.heap m) (N : News h₀ L s.heap news) (ha : (a, W.listOf us.toArray n1) ∈ news) (hb : (b, W.listOf ws.toArray n2) ∈ news) (hi : IntsAre us ns) (hj : IntsAre ws ms) (h1 : us.length ≤ 30) (h2 : ws.length ≤ 30)
    (h : ∀ (D : Addr) zs h', Fr h₀ L h' m → News h₀ L h' ((D, W.listOf (List.toArray zs) 0) :: news) → (∀ p ∈ news, p.1 < D) → IntsAre zs (ns ++ ms) → @LE.le Nat _ zs.length (us.length + ws.length) → Q (.ref D) { s with heap := h' }) :
    wpAny (model prog w) A (binaryOp .Add (.ref a) (.ref b)) Q E s := by
  refine add_lists (hsz := by rw [sizeLine_eq]; omega) F N (News.isList N ha) (News.isList N hb) (fun h' F' N' => ?_)
  refine h _ (us ++ ws) h' F' N' (fun p hp => Heap.lt_size (N p hp).1) (hi.append hj) ?_
  rw [List.length_append]
  exact Nat.le_refl _
/-- two lists of the same ints -/
theorem ne_l (N : News h₀ L s.heap news) (ha : (a, lst us) ∈ news) (hb : (b, W.listOf ws.toArray n2) ∈ news) (hi : IntsAre us ns) (hj : IntsAre ws ms) (hu : A.units + 64 < cLine) (e : ns = ms) (h : Q (.bool false) s) :
    wpAny (model prog w) A (compareOp .NotEq (.ref a) (.ref b)) Q E s := by
  refine ne_intsK (⟨_, (N _ ha).1, rfl, _, rfl⟩ : s.heap.IsList a us.toArray) hi (News.isList N hb) hj hu ?_
  rw [decide_eq_true e]
  exact h
theorem len_l (N : News h₀ L s.heap news) (hl : (l, W.listOf vs.toArray n1) ∈ news) (hn : vs.length ≤ 10) (h : Q (.int (vs.length : Nat) (s.toks + 1)) { s with toks := s.toks + 1 + 1 }) : wpAny (model prog w) A (call (.builtin "len") [.ref l]) Q E s := by
  refine len_list (News.isList N hl) (by rw [List.size_toArray]; omega) ?_
  rw [List.size_toArray]; exact h
theorem len_t (N : News h₀ L s.heap news) (hl : (l, lst vs) ∈ news) (hn : vs.length ≤ 10) (h : Q (.int (vs.length : Nat) (s.toks + 1)) { s with toks := s.toks + 1 + 1 }) : wpAny (model prog w) A (call (.builtin "len") [.ref l]) Q E s := by
  refine len_list (⟨_, (N _ hl).1, rfl, _, rfl⟩ : s.heap.IsList l vs.toArray) (by rw [List.size_toArray]; omega) ?_
  rw [List.size_toArray]; exact h
end
section
variable {w : World} {mean : ExcName → Option Value} {mg mb : Str → Option Value} {dp un : Nat} {gd : Option (List Code)} {cn : Str} {cs : Scope} {fa : Addr} {ccd : Value} {cl : List (Str × Addr)} {outer : List Env} {A₀ : Around} {base h₀ : Heap} {L : Addr} {m : Str → Option Value}
  {s : Shared} {Q E : Value → Shared → Prop} {news : List (Addr × Obj)} {a c : Int} {ta tn : Tok} {c67 c60 : Addr}
/-- int_divmod of what is known to be this int -/
theorem use_idE (B : Below A₀ base outer h₀) (F : Fr h₀ L s.heap m) (X : (zh.heap_39 w.params).In h₀) (T : Top topProg loo mean mg mb h₀) (hk : cs.kind = .function) (C1 : CodeHd base 71 67) (C2 : CodeHd base 64 60) (hd : dp + 24 < recursionLimit) (hu : un + 180 < cLine)
    (N : News h₀ L s.heap news) (St : TabSt h₀ news c67 c60) (e : a = c) (h0 : -17179869184 < c) (h1 : c < 17179869184)
    (h : ∀ (D : Addr) (t1 t2 : Tok) (h' : Heap) (tk' : Nat), Fr h₀ L h' m → News h₀ L h' ((D, tup [.int (c / 86400) t1, .int (c % 86400) t2]) :: news) → Q (.ref D) { s with heap := h', toks := tk' }) :
    wpAny (model prog w) (ktrTop dp un gd cn cs L fa ccd cl outer) (call (.ref 86) [.int a ta, .int 86400 tn]) Q E s := by
  subst e
  exact use_idB B F X T hk C1 C2 hd hu N St h0 h1 fun D t1 t2 h' tk' F' N' _ _ => h D t1 t2 h' tk' F' N'
end
end Mine
end

/-! W1 -/
section
namespace Mine
local macro_rules | `(tactic| walk_at "my_enter") => `(tactic| (refine' enter ?k1 ?k2 ?k3 ?k4 ?k5 ?kA ?kF ?kK ?k6 ?k7 ?k8 ?k9 ?kB ?_ ?c2 ?c3 ?c4 ?c5; (case kA => exact rfl); (case kF => exact rfl); (case kK => assumption); (case k1 => k_asm); (case k2 => k_asm); (case k3 => k_asm); (case k4 => k_asm); (case k5 => k_asm); (case k6 => k_is); (case k7 => k_is); (case k8 => ktr_room); (case k9 => first | exact BindsTo.of_eq rfl | (refine' kp_binds ?kx ?ke; (case kx => k_in); (case ke => exact fun _ => rfl))); (case c5 => decide); (case kB => exact locs rfl); (case c2 => exact rfl); (case c3 => exact rfl); (case c4 => exact rfl); k_whole; intro g' L' h' Kp' st' hL' F' N' B' X' T'; (try dsimp only); (try k_fold)))
local macro_rules | `(tactic| walk_at "my_open") => `(tactic| (
  intro mean mg mb dp un gd cn cs fa ccd cl outer A₀ base h₀ L m E B F X T hk C1 C2 hdp hun N
  refine wpAny_call ?_
  have hfill : PySem.Challenge.rw_zs0003_01 = PySem.Challenge.rw_zs0003_01 ∧ zh.heap_39 = zh.heap_39 := by
    k_fill
    exact ⟨rfl, rfl⟩
  clear hfill
  w_on
  k_dflt walk_at "my_enter"))
local macro_rules | `(tactic| walk_at "my_def") => `(tactic| (refine' code_def ?k1 ?k2 ?k3 ?k4 ?k5 ?kA ?kF ?kK ?k6 ?k7 ?k8 ?k9 ?kB ?_ ?c2 ?c3 ?c4 ?c5; (case kA => exact rfl); (case kF => exact rfl); (case kK => first | exact rfl | assumption); (case k1 => k_asm); (case k2 => k_asm); (case k3 => k_asm); (case k4 => k_asm); (case k5 => k_asm); (case k6 => k_is); (case k7 => k_is); (case k8 => ktr_room); (case k9 => first | exact BindsTo.of_eq rfl | (refine' kp_binds ?kx ?ke; (case kx => k_in); (case ke => exact fun _ => rfl))); (case c5 => decide); (case kB => exact locs rfl); (case c2 => exact rfl); (case c3 => exact rfl); (case c4 => exact rfl); k_whole; intro g' L' h' FG' F' N' B' X' T'; (try have hL' := le_step FG' F' (by assumption)); (try dsimp only); (try k_lift B'); (try k_fold)))
local macro_rules | `(tactic| walk_at "my_defC") => `(tactic| (refine' code_defC ?k1 ?k2 ?k3 ?k4 ?k5 ?kA ?kF ?kK ?k6 ?k7 ?k8 ?k9 ?kB ?kD ?_ ?c2 ?c3 ?c4; (case kA => exact rfl); (case kF => exact rfl); (case kK => first | exact rfl | assumption); (case k1 => k_asm); (case k2 => k_asm); (case k3 => k_asm); (case k4 => k_asm); (case k5 => k_asm); (case k6 => k_is); (case k7 => k_is); (case k8 => ktr_room); (case k9 => first | exact BindsTo.of_eq rfl | (refine' kp_binds ?kx ?ke; (case kx => k_in); (case ke => exact fun _ => rfl))); (case kB => exact rfl); (case kD => decide +kernel); (case c2 => exact rfl); (case c3 => exact rfl); (case c4 => exact rfl); k_whole; intro g' L' h' tk' cells' FG' F' N' Y' B' X' T' l1; (try have hL' := le_step FG' F' (by assumption)); (try k_lt l1); k_cells Y'; (try simp only [List.cons_append, List.nil_append] at N'); (try dsimp only); (try k_lift B'); (try k_fold)))
local macro_rules | `(tactic| walk_at "my_nest") => `(tactic| (refine' code_nest ?k1 ?k2 ?k3 ?k4 ?k5 ?kA ?kF ?kK ?k6 ?k7 ?k8 ?k9 ?kB ?_ ?c2 ?c3 ?c4 ?c5; (case kA => exact rfl); (case kF => exact rfl); (case kK => first | exact rfl | assumption); (case k1 => k_asm); (case k2 => k_asm); (case k3 => k_asm); (case k4 => k_asm); (case k5 => k_asm); (case k6 => k_mem); (case k7 => exact codeRec_news (by k_asm) (by k_mem) (by assumption) (by assumption)); (case k8 => ktr_room); (case k9 => exact BindsTo.of_eq rfl); (case c5 => decide); (case kB => exact locs rfl); (case c2 => exact rfl); (case c3 => exact rfl); (case c4 => exact rfl); k_whole; intro g' L' h' FG' F' N' B' X' T'; (try dsimp only); (try k_lift B'); (try k_fold)))
local macro_rules | `(tactic| walk_at "call ref") => `(tactic| (k_here; k_dflt (refine wpAny_call ?_; first | walk_at "my_def" | walk_at "my_defC" | walk_at "my_nest")))
local macro_rules | `(tactic| walk_at "execs nil") => `(tactic| (k_here; with_reducible refine wpAny_execs_nil ?_))
local macro_rules | `(tactic| walk_at "execs cons") => `(tactic| (k_here; (first | (with_reducible refine gen_toks (fun tk' => ?_)) | skip); (with_reducible refine wpAny_execs_cons ?_); (try dsimp only)))
theorem all_cons {d : Addr} {q : Addr × Obj} {l : List (Addr × Obj)} (h : q.1 ≠ d) (k : ∀ p ∈ l, p.1 ≠ d) : ∀ p ∈ q :: l, p.1 ≠ d := fun p hp => by
  rcases List.mem_cons.mp hp with rfl | hp
  · exact h
  · exact k p hp
local macro_rules | `(tactic| walk_at "my_all") => `(tactic| first | with_reducible assumption | exact List.forall_mem_nil _ | (refine all_cons ?_ ?_; (focus ((try dsimp only); k_ne)); walk_at "my_all"))
local macro_rules | `(tactic| walk_at "my_updF") => `(tactic| first | (refine' UpdF.head ?_; walk_at "my_all") | (refine' UpdF.tail ?za ?zb; (case za => k_ne); (case zb => walk_at "my_updF")))
local macro_rules | `(tactic| walk_at "my_sub") => `(tactic| (intro p hp; repeat (first | exact hp | (with_reducible exact (by assumption : ∀ p ∈ _, p ∈ _) _ hp) | refine List.mem_cons_of_mem _ ?_)))
local macro_rules | `(tactic| walk_at "my_sub0") => `(tactic| (intro p hp; repeat (first | exact hp | refine List.mem_cons_of_mem _ ?_)))
local macro_rules | `(tactic| walk_at "call ref") => `(tactic| (k_here; (with_reducible show wpAny _ _ (call (Value.ref 95) _) _ _ _); refine Stop.out ?_))
local macro_rules | `(tactic| walk_at "exec For Tuple Call") => `(tactic| (k_here; (rename Fr _ _ _ _ => lF'); (with_unfolding_all refine' For_enumK lF' ?hh ?_; (case hh => exact rfl))))
local macro_rules | `(tactic| walk_at "call type:enumerate") => `(tactic| (k_here; refine Stop.out ?_))
local macro_rules | `(tactic| walk_at "binaryOp Mod int int") => `(tactic| (k_here; k_dflt (first | refine mod_known (by with_reducible assumption) (by decide) ?_ | refine mod_e (by decide) ?_)))
local macro_rules | `(tactic| walk_at "binaryOp FloorDiv int int") => `(tactic| (k_here; k_dflt (refine div_e (by decide) (PyProof.noPylong_of_log2 (by decide +kernel)) ?_)))
local macro_rules | `(tactic| walk_at "ite") => `(tactic| (k_here; k_dflt (refine ite_neg (by rw [bne_iff_ne, ne_eq, Decidable.not_not]; omega) ?_); walk_say "SAME"))
local macro_rules | `(tactic| walk_at "subscriptTail Name Slice str ref") => `(tactic| (k_here; k_dflt (first
  | ((with_reducible show wpAny _ _ (subscriptTail _ _ (Value.str (Str.ofString "+" ++ _ ++ _) _) _) _ _ _); refine' tail_cut ?F ?N (tail_p _ _) (len_p _ _) ?_; (case F => k_asm); (case N => k_asm); k_whole)
  | ((with_reducible show wpAny _ _ (subscriptTail _ _ (Value.str (Str.ofString "-" ++ _ ++ _) _) _) _ _ _); refine' tail_cut ?F ?N (tail_m _ _) (len_m _ _) ?_; (case F => k_asm); (case N => k_asm); k_whole)); intro h' t' tk' F' N'; (try k_sweep)))
local macro_rules | `(tactic| walk_at "binaryOp Sub int int") => `(tactic| (k_here; k_dflt (first
  | ((with_reducible show wpAny _ _ (binaryOp _ (Value.int 1 _) (Value.int 0 _)) _ _ _); refine sub_known (k := 1) rfl ?_)
  | ((with_reducible show wpAny _ _ (binaryOp _ (Value.int 1 _) (Value.int 1 _)) _ _ _); refine sub_known (k := 0) rfl ?_))))
local macro_rules | `(tactic| k_all) => `(tactic| with_reducible assumption)
local macro_rules | `(tactic| walk_at "call ref") => `(tactic| (k_here; (with_reducible show wpAny _ _ (call (Value.ref 111) _) _ _ _); k_dflt (refine' use_figs ?B ?F ?X ?T ?k ?C1 ?C2 ?d ?u ?N ?h0 ?h1 ?_; (case B => k_asm); (case F => k_asm); (case X => k_asm); (case T => k_asm); (case k => first | exact rfl | assumption); (case C1 => assumption); (case C2 => assumption); (case d => ktr_room); (case u => ktr_units); (case N => k_asm); (case h0 => omega); (case h1 => omega); k_whole; intro t' h' tk' F' N'; (try k_sweep))))
local macro_rules | `(tactic| walk_at "call ref") => `(tactic| (k_here; (with_reducible show wpAny _ _ (call (Value.ref 86) _) _ _ _); refine Stop.out ?_))
local macro_rules | `(tactic| walk_at "call ref") => `(tactic| (k_here; (with_reducible show wpAny _ _ (call (Value.ref 104) _) _ _ _); k_dflt (refine' use_bisP ?B ?F ?X ?T ?k ?C1 ?C2 ?d ?u ?N ?hl ?hx ?hsub ?hn ?hp ?hs ?_; (case B => k_asm); (case F => k_asm); (case X => k_asm); (case T => k_asm); (case k => first | exact rfl | assumption); (case C1 => assumption); (case C2 => assumption); (case d => ktr_room); (case u => ktr_units); (case N => k_asm); (case hl => k_mem); (case hx => k_mem); (case hp => assumption); (case hsub => walk_at "my_sub"); (case hn => assumption); (case hs => assumption); k_whole; intro r t' h' tk' hc hr F' N'; (try k_sweep))))
local macro_rules | `(tactic| walk_at "binaryOp Mult ref int") => `(tactic| (k_here; k_dflt (refine' mul_l ?F ?N ?l ?h0 ?h1 ?_; (case F => k_asm); (case N => k_asm); (case l => k_mem); (case h0 => omega); (case h1 => omega); k_whole); intro D' us' h' F' N' l1 hi hl; (try k_lt l1); (try k_sweep)))
local macro_rules | `(tactic| walk_at "binaryOp Add ref ref") => `(tactic| (k_here; k_dflt (refine' add_l ?F ?N ?a ?b ?i ?j ?h1 ?h2 ?_; (case F => k_asm); (case N => k_asm); (case a => k_mem); (case b => k_mem); (case i => with_reducible assumption); (case j => with_reducible assumption); (case h1 => omega); (case h2 => omega); k_whole); intro D' us' h' F' N' l1 hi hl; (try k_lt l1); (try k_sweep)))
local macro_rules | `(tactic| walk_at "compareOp NotEq ref ref") => `(tactic| (k_here; k_dflt (refine' ne_l ?N ?a ?b ?i ?j ?u ?e ?_; (case N => k_asm); (case a => k_mem); (case b => k_mem); (case i => with_reducible assumption); (case j => with_reducible assumption); (case u => ktr_units); (case e => exact blocksW (by assumption) (by assumption) (by assumption) (by omega) (by omega) (by omega)); k_whole)))
local macro_rules | `(tactic| walk_at "call builtin:len") => `(tactic| (k_here; k_dflt (refine' len_l ?N ?l ?h ?_; (case N => k_asm); (case l => k_mem); (case h => assumption); k_whole)))
local macro_rules | `(tactic| walk_at "exec For Name Call cons nil") => `(tactic| (k_here; (rename Fr _ _ _ _ => lF'); (with_unfolding_all refine' For_invVF lF' ?k1 ?k2 ?_; (case k1 => exact rfl); (case k2 => exact rfl); k_whole)))
local macro_rules | `(tactic| walk_at "pyIter ref") => `(tactic| (k_here; (with_reducible show wpAny _ _ (pyIter (Value.ref _)) (fun it s₂ => LoopAtV _ _ _ _ _ _ _ _ _ it s₂) _ _); refine Stop.out ?_))
local macro_rules | `(tactic| walk_at "subscriptTail Name Name ref int") => `(tactic| (k_here; k_dflt (refine' item_here ?N ?x ?l ?n ?k ?_; (case N => k_asm); (case x => with_reducible assumption); (case l => k_mem); (case n => assumption); (case k => omega); k_whole)))
local macro_rules | `(tactic| walk_at "subscriptTail Name BinOp ref int") => `(tactic| (k_here; k_dflt (refine' item_before ?N ?x ?l ?n ?k ?_; (case N => k_asm); (case x => with_reducible assumption); (case l => k_mem); (case n => assumption); (case k => omega); k_whole)))
local macro_rules | `(tactic| walk_at "eval ListComp") => `(tactic| (k_here; refine Stop.out ?_))
local macro_rules | `(tactic| walk_at "exec Assign cons ListComp") => `(tactic| (k_here; refine Stop.out ?_))
local macro_rules | `(tactic| walk_at "call ref") => `(tactic| (k_here; (with_reducible show wpAny _ _ (call (Value.ref 44) _) _ _ _); refine Stop.out ?_))
local macro_rules | `(tactic| walk_at "call ref") => `(tactic| (k_here; (with_reducible show wpAny _ _ (call (Value.ref 44) _) _ _ _); k_dflt (first
  | (refine' use_offP ?B ?F ?X ?T ?k ?C1 ?C2 ?d ?u ?N ?ck ?h0 ?h1 ?m0 ?m1 ?_; (case ck => first | with_reducible exact ck_rp _ (by omega) (by omega) (by omega) (by omega) | with_reducible exact ck_rpt _ (by omega) (by omega) (by omega) (by omega) | with_reducible exact ck_rpi _ (by omega) (by omega) (by omega) (by omega) | with_reducible exact ck_cp _ (by omega) (by omega) (by omega) (by omega)); (case B => k_asm); (case F => k_asm); (case X => k_asm); (case T => k_asm); (case k => first | exact rfl | assumption); (case C1 => assumption); (case C2 => assumption); (case d => ktr_room); (case u => ktr_units); (case N => k_asm); (case h0 => omega); (case h1 => omega); (case m0 => omega); (case m1 => omega); k_whole; intro t' h' tk' F' N'; (try k_sweep))
  | (refine' use_offM ?B ?F ?X ?T ?k ?C1 ?C2 ?d ?u ?N ?ck ?h0 ?h1 ?m0 ?m1 ?_; (case ck => first | with_reducible exact ck_rm _ (by omega) (by omega) (by omega) (by omega) | with_reducible exact ck_rmt _ (by omega) (by omega) (by omega) (by omega) | with_reducible exact ck_rmi _ (by omega) (by omega) (by omega) (by omega) | with_reducible exact ck_cm _ (by omega) (by omega) (by omega) (by omega)); (case B => k_asm); (case F => k_asm); (case X => k_asm); (case T => k_asm); (case k => first | exact rfl | assumption); (case C1 => assumption); (case C2 => assumption); (case d => ktr_room); (case u => ktr_units); (case N => k_asm); (case h0 => omega); (case h1 => omega); (case m0 => omega); (case m1 => omega); k_whole; intro t' h' tk' F' N'; (try k_sweep)))))

set_option maxHeartbeats 8000000 in
theorem law_holds : PySem.Challenge.rw_zs0003_01.Holds := zh (by
  w_strict (
    k_go0
    all_goals try k_fold
    k_steps
    refine Stop.mk ?_
    rename Fr _ _ _ _ => F9
    rename News _ _ _ _ => N9
    rename IntsAre _ (List.take 10 _) => hI9
    refine loop1 F9 N9 hI9 rfl ?turn ?done
    case done =>
      clear F9 N9
      intro m' vs ps nn tups h' tk hlen hp hs hb F' N' ho9 hcd9 hcm9 h679 h609
      rename List Int => zs9
      have hM0 : -50000000 ≤ zs9.sum % 10 ^ Int.toNat 8 - 5 * 10 ^ Int.toNat 7 := by
        rw [show (10 : Int) ^ Int.toNat 8 = 100000000 from rfl, show (10 : Int) ^ Int.toNat 7 = 10000000 from rfl]; omega
      have hM1 : zs9.sum % 10 ^ Int.toNat 8 - 5 * 10 ^ Int.toNat 7 < 50000000 := by
        rw [show (10 : Int) ^ Int.toNat 8 = 100000000 from rfl, show (10 : Int) ^ Int.toNat 7 = 10000000 from rfl]; omega
      generalize zs9.sum % 10 ^ Int.toNat 8 - 5 * 10 ^ Int.toNat 7 = M at *
      k_steps
      refine Stop.mk ?_
      refine' use_id1 ?dB ?dF ?dX ?dT ?dk ?dC1 ?dC2 ?dd ?du ?dN ?da1 ?da2 ?db1 ?db2 ?dc1 ?dc2 h679 h609 ?dv ?d0 ?d1 ?_
      (case dB => k_asm); (case dF => k_asm); (case dX => k_asm); (case dT => k_asm); (case dk => first | exact rfl | assumption); (case dC1 => assumption); (case dC2 => assumption); (case dd => ktr_room); (case du => ktr_units); (case dN => k_asm)
      case dv => (with_reducible assumption)
      case d0 => omega
      case d1 => omega
      case da1 => k_ne
      case da2 => k_ne
      case db1 => k_ne
      case db2 => k_ne
      case dc1 => k_ne
      case dc2 => k_ne
      intro D t1 t2 h' tk' c67 c60 x67 x60 o67 o60 F' N' H67 H60 l9 lt9
      k_steps
      refine Stop.mk ?_
      refine' PyProof.Rows.LCp.Assign_ListComp_P (F₀ := by k_asm) ?e1 ?e2 ?e3 ?e4 ?e5 ?e6 ?e7 ?e8 ?e9 ?ea ?eb ?ec ?ed
      case e1 => exact rfl
      case e4 => decide
      case e5 => exact rfl
      case e6 => decide
      case e7 => exact rfl
      case e8 => exact rfl
      case e9 => decide
      case ea => exact rfl
      case eb => exact rfl
      case e2 => kernel_rfl!
      case e3 => exact rfl
      case ed => exact fun _ => rfl
      walk1
      refine PyProof.Rows.LCp.SrcLP.ledger (news := [_, _, _, _, _, _, _, _] ++ tups) (by rfl) (by k_asm) (by k_asm) (by k_mem) ?sz ?_
      case sz =>
        rw [List.size_toArray, hlen, List.length_take, sizeLine_eq]
        exact Nat.le_trans (Nat.min_le_left _ _) (Nat.le_of_ble_eq_true rfl)
      intro g9
      refine' restP_told (f := toldOf M) hp ?turn2 ?fin2
      case fin2 =>
        have hv10 : vs.length ≤ 10 := by rw [hlen, List.length_take]; exact Nat.min_le_left _ _
        intro ys all hsub hP2 DT hh tkk FT NT offT
        simp only [List.cons_append, List.nil_append] at NT
        have hvp : vs.length = ps.length := hp.1
        have hy10 : ys.length ≤ 10 := by rw [hP2.1, List.length_map, ← hvp]; exact hv10
        k_steps
        refine Stop.mk ?_
        refine' PyProof.Rows.LCp.ListComp_P (F₀ := by k_asm) ?g3 ?g4 ?g5 ?g6 ?g7 ?g8 ?g9 ?ga ?gb
        case g3 => exact rfl
        case g4 => decide
        case g5 => exact rfl
        case g6 => decide
        case g7 => exact rfl
        case g8 => exact rfl
        case g9 => decide
        case gb => exact fun _ => rfl
        walk1
        refine PyProof.Rows.LCp.SrcLP.ledger (by rfl) (by k_asm) (by k_asm) (by k_mem) ?sz3 ?_
        case sz3 =>
          rw [List.size_toArray, hP2.1, List.length_map, ← hp.1, sizeLine_eq]
          exact Nat.le_trans hv10 (Nat.le_of_ble_eq_true rfl)
        intro g10
        refine' restP_int (f := fun q => q.1 - M / 86400) hP2 (by walk_at "my_sub") ?turn3 ?fin3
        case turn3 =>
          intro q t1 t2 zs I oI C oC D m₂ h tk E' Rest hq hC h1 h2 F N off ne hRest
          k_steps
          exact comp_end_int off (by k_asm) (by k_asm) (by k_mem) rfl rfl (hRest _)
        intro zs hzs DZ hz tkz FZ NZ offZ
        have hzI := hzs.are
        k_steps
        refine Stop.mk ?_
        rename IsRange _ _ _ _ _ _ _ _ => rg9
        refine loop2 (o := .ref _) (tv := .int _ _) rfl rg9 rfl hy10 (by k_asm) (by k_asm) hP2 ?sub4 ⟨rfl, rfl, rfl⟩ ?turn4 ?fin4
        case sub4 => walk_at "my_sub"
        case turn4 =>
          intro i p q a b ta tb tc td k t m₁ h tk own hp1 hq1 hB hH hk hi10 F4 N4
          have hne := neighbours hs hp1 hq1
          simp only [List.cons_append, List.nil_append] at N4
          k_steps
          all_goals exact ⟨_, _, _, _, rfl, F4, N4, fun p hp => .tail _ (.tail _ hp), rfl, rfl, rfl⟩
        intro m5 h5 tk5 F5 N5
        k_steps
        refine Stop.mk ?_
        refine loop3 (f := toldOf M) (o := .ref _) (tv := .int _ _) (by k_asm) (by k_asm) (by k_mem) hv10 hp ?sub5 hP2 ?sub6 ⟨rfl, rfl, rfl⟩ ?turn5 ?fin5
        case sub5 => walk_at "my_sub"
        case sub6 => walk_at "my_sub"
        case turn5 =>
          intro i q a b ta tb tc td m₁ h₁ tk₁ T tk oe oi ol e it hq hH hi10 F6 N6
          have hbq := hb q hq
          simp only [List.cons_append, List.nil_append] at N6
          k_steps
          refine Stop.mk ?_
          refine' use_idE ?hB ?hF ?hX ?hT ?hk ?hC1 ?hC2 ?hd ?hu ?hN (c67 := c67) (c60 := c60) ?hS (back M q.1) ?h0 ?h1 ?_
          (case hB => k_asm); (case hF => k_asm); (case hX => k_asm); (case hT => k_asm); (case hk => first | exact rfl | assumption); (case hC1 => assumption); (case hC2 => assumption); (case hd => ktr_room); (case hu => ktr_units); (case hN => k_asm)
          case hS => exact ⟨by k_mem, by k_mem, ⟨x67, o67, by k_mem, H67⟩, ⟨x60, o60, by k_mem, H60⟩⟩
          case h0 => omega
          case h1 => omega
          intro T8 t8 u8 h8 tk8 F8 N8
          k_steps
          refine' ⟨_, _, _, _, rfl, ?zwF, ?zwN, ?zwS, ?zwP⟩
          case zwF => k_asm
          case zwN => k_asm
          case zwS => walk_at "my_sub0"
          case zwP => exact ⟨rfl, rfl, rfl⟩
        intro m7 h7 tk7 F7 N7
        k_steps
        refine Stop.mk ?_
        refine' use_utc ?pB ?pF ?pX ?pT ?pk ?pC1 ?pC2 ?pd ?pu ?pN ?_
        (case pB => k_asm); (case pF => k_asm); (case pX => k_asm); (case pT => k_asm); (case pk => first | exact rfl | assumption); (case pC1 => assumption); (case pC2 => assumption); (case pd => ktr_room); (case pu => ktr_units); (case pN => k_asm)
        intro tU hU tkU FU NU
        k_steps
        refine Stop.mk ?_
        refine' use_none ?qB ?qF ?qX ?qT ?qk ?qC1 ?qC2 ?qd ?qu ?qN ?_
        (case qB => k_asm); (case qF => k_asm); (case qX => k_asm); (case qT => k_asm); (case qk => first | exact rfl | assumption); (case qC1 => assumption); (case qC2 => assumption); (case qd => ktr_room); (case qu => ktr_units); (case qN => k_asm)
        intro hV tkV FV NV
        k_steps
      intro q t1 t2 all ys I oI C oC D m₂ h tk E' Rest hq hsub hC h1 h2 F N off ne hRest
      have N0 := N
      simp only [List.cons_append, List.nil_append] at N
      k_steps
      refine Stop.mk ?_
      have hbq := hb q hq
      refine' use_idB ?fB ?fF ?fX ?fT ?fk ?fC1 ?fC2 ?fd ?fu ?fN (c67 := c67) (c60 := c60) ?fS ?f0 ?f1 ?_
      (case fB => k_asm); (case fF => k_asm); (case fX => k_asm); (case fT => k_asm); (case fk => first | exact rfl | assumption); (case fC1 => assumption); (case fC2 => assumption); (case fd => ktr_room); (case fu => ktr_units); (case fN => k_asm)
      case fS => exact ⟨by k_mem, by k_mem, ⟨x67, o67, by k_mem, H67⟩, ⟨x60, o60, by k_mem, H60⟩⟩
      case f0 => omega
      case f1 => omega
      intro T9 t9 u9 h9 tk9 F9 N9 hT9 K9
      exact comp_end_told off N0 F9 N9 hT9 (by k_mem) rfl rfl (hRest T9 t9 u9)
    clear F9 N9
    intro i n tn m₁ vs ps nn tups h₁ tk₁ T tk oe oi ol e it hn hlen hp hs hb F₁ N₁ l1 l2 he hit ho9 ht9
    k_lt l1
    k_lt l2
    have hi10 : i < 10 := by
      have := (List.getElem?_eq_some_iff.mp hn).1
      rw [List.length_take] at this
      omega
    have hv10 : vs.length ≤ 10 := by omega
    have he9 : @LT.lt Nat _ it e := by rw [he]; exact Nat.lt_succ_self _
    have hit9 : @LE.le Nat _ _ it := Nat.le_of_eq hit.symm
    try dsimp only at hit9
    rcases (show n % 2 = 0 ∨ n % 2 = 1 by omega) with hpar | hpar
    · k_steps
      · exfalso; omega
      refine Stop.mk ?_
      refine' use_insP ?zB ?zF ?zX ?zT ?zk ?zC1 ?zC2 ?zd ?zu ?zN ?zU ?zhx ?zhsub ?zhn ?zhp ?zhs ?_
      (case zB => k_asm); (case zF => k_asm); (case zX => k_asm); (case zT => k_asm); (case zk => first | exact rfl | assumption); (case zC1 => assumption); (case zC2 => assumption); (case zd => ktr_room); (case zu => ktr_units); (case zN => k_asm)
      case zU => walk_at "my_updF"
      case zhx => k_mem
      case zhp => assumption
      case zhsub => walk_at "my_sub"
      case zhn => assumption
      case zhs => assumption
      intro r h' tk' hc F' N'
      try dsimp only at N'
      refine wpAny_execs_nil ?_
      refine' turn_end F' N' ?x1 ?x2 ?x3 ?x4 ?x5 ?x6 ?x7 ?x8 ?x9 ?xt hlen hp hs hb hc ?b1 ?b2 ?b3 ?ho (fun p q => Nat.lt_of_le_of_lt (Nat.succ_le_succ (Nat.le_of_eq hit.symm)) (ht9 p q)) ?hX
      case x1 => k_mem
      case x5 => k_mem
      case xt => walk_at "my_sub"
      case b1 => omega
      case b2 => omega
      case b3 => omega
      case ho => exact rfl
      case hX => (try dsimp only); omega
      all_goals k_mem
    · k_steps
      · exfalso; omega
      refine Stop.mk ?_
      refine' use_insP ?yB ?yF ?yX ?yT ?yk ?yC1 ?yC2 ?yd ?yu ?yN ?yU ?yhx ?yhsub ?yhn ?yhp ?yhs ?_
      (case yB => k_asm); (case yF => k_asm); (case yX => k_asm); (case yT => k_asm); (case yk => first | exact rfl | assumption); (case yC1 => assumption); (case yC2 => assumption); (case yd => ktr_room); (case yu => ktr_units); (case yN => k_asm)
      case yU => walk_at "my_updF"
      case yhx => k_mem
      case yhp => assumption
      case yhsub => walk_at "my_sub"
      case yhn => assumption
      case yhs => assumption
      intro r h' tk' hc F' N'
      try dsimp only at N'
      refine wpAny_execs_nil ?_
      refine' turn_end F' N' ?w1 ?w2 ?w3 ?w4 ?w5 ?w6 ?w7 ?w8 ?w9 ?wt hlen hp hs hb hc ?c1 ?c2 ?c3 ?hoo (fun p q => Nat.lt_of_le_of_lt (Nat.succ_le_succ (Nat.le_of_eq hit.symm)) (ht9 p q)) ?hXX
      case w1 => k_mem
      case w5 => k_mem
      case wt => walk_at "my_sub"
      case c1 => omega
      case c2 => omega
      case c3 => omega
      case hoo => exact rfl
      case hXX => (try dsimp only); omega
      all_goals k_mem
))
end Mine
end

theorem PySem.Challenge.cw_zs0003_01_holds : PySem.Challenge.rw_zs0003_01.Holds :=
  Mine.law_holds
